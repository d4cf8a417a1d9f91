/-
  securityRows (12) through ZZsecurityRows (9): its contract.
-/
import Derived.Test.Qxb6601439aCalls
import Derived.RegionTactic
import Derived.ChangeAlike
import Derived.Deep.QuietTactic
import Derived.BigQuiet
namespace Go.Proofs.Qxb6601439a
open Go.RowKit Go.Deep Plain
set_option linter.unusedVariables false

/-- the weights as the law's own copy holds them -/
def WsRow (w : World) (a : Option Addr) (len : Nat) (ws : List Int) : Prop := 0 < len → ∃ B, a = some ⟨B, 0, none⟩ ∧ w.rowIs B 2 len (fun j => .int .i64 (at0 ws j))

theorem WsRow.below {w w1 : World} {a : Option Addr} {len : Nat} {ws : List Int} {N : Nat} (h : WsRow w a len ws) (hN : w.heap.size ≤ N) (hb : Below N w w1) : WsRow w1 a len ws := by
  intro h0
  obtain ⟨B, rfl, hr⟩ := h h0
  exact ⟨B, rfl, hr.of_block (hb.block B (Nat.lt_of_lt_of_le hr.lt hN))⟩

theorem least_sec (v : Int) : (v + 400 - 1) / 400 = least v := by unfold least; congr 1; omega

theorem drewN_below {B : Nat} {a w : World} {n : Nat} (h : Below B a w) : Below B a (w.drewN n) := ⟨h.os, h.tape, h.output, h.size, h.block⟩

set_option maxHeartbeats 1600000 in
theorem sec (a : Option Addr) (len cap : Nat) (ws : List Int) (n : Int) (w : World) (hm : len ≤ 4096) (hl : ws.length = len) (hW : WsRow w a len ws) (h0 : ∀ i, 0 ≤ at0 ws i) (h1 : ∀ i, at0 ws i ≤ 1048576)
    (hn0 : -9223372036837998592 ≤ n) (hn1 : n ≤ 9223372036854775807) (hM : n - sumTo (fun i => least (at0 ws i)) len ≤ 65537) (hpos : 0 < n - sumTo (fun i => least (at0 ws i)) len → 0 < len) :
    Calls Try.prog 12 #[.slice a len cap, .int .i64 n] w fun e w' => e = .returned (.slice (some ⟨w.heap.size, 0, none⟩) len len) ∧
      w'.rowIs w.heap.size 3 len (fun j => .int .i64 (at0 (iter ws (n - sumTo (fun i => least (at0 ws i)) len).toNat) j)) ∧ Below w.heap.size w w' := by
  have hmk := run_make_row' (P := Try.prog) 27 3 (.int .i64 0) 8 Try.underlying27 Try.info3 rfl .i64 .i64 len (by omega) (by omega)
  have HL : Hid (ws.length = len) := hl
  clear hl
  go_enter Try.func12, Try.ntmps12
  go_wp2
  go_loopw [1, 15] (fun nn i wr => ∃ k : Nat, k ≤ len ∧ i = .int .i64 k ∧ nn = .int .i64 (n - sumTo (fun i => least (at0 ws i)) k) ∧ wr.rowIs w.heap.size 3 len (fun j => .int .i64 (if j < k then least (at0 ws j) else 0)) ∧ Below w.heap.size w wr) (fun _ i _ => len - (intOf i).toNat)
  case atStart => exact ⟨0, Nat.zero_le _, rfl, by simp [sumTo], (World.rowIs_made _ _ _ _).congr (by simp), (Below.refl _ _).alloc (Nat.le_refl _) _⟩
  case round =>
    obtain ⟨k, hk, rfl, rfl, hrow, hbel⟩ := hrel
    by_cases hlt : k < len
    · obtain ⟨B, rfl, hrB⟩ := hW.below (Nat.le_refl _) hbel (by omega)
      have hcx := hrB.cell hlt
      have hcd := hrow.cell hlt
      have hfd := hrow.frozen k
      have a0 := h0 k
      have a1 := h1 k
      have sb := sumTo_bd ws h0 h1 k
      have l0 := least_nonneg (h0 k)
      have l1 := least_le (h1 k)
      go_wp2
      go_roundw
      case rel =>
        refine ⟨k + 1, by omega, by go_num, ?_, ?_, hbel.setCell (Nat.le_refl _) _⟩
        · rw [least_sec, sumTo]; congr 1; omega
        · refine (hrow.set k _).congr fun j hj => ?_
          rw [at0_leasts_small, least_sec]
          by_cases e : j = k
          · simp [e]
          · simp [e]
      case measure => simp [intOf]; omega
    · obtain rfl : k = len := by omega
      have hr0 : wr.rowIs w.heap.size 3 k (fun j => .int .i64 (at0 (iter ws 0) j)) := hrow.congr (fun j hj => by
        show _ = Value.int .i64 (at0 (leasts ws) j)
        rw [leasts_at, if_pos hj])
      have sb := sumTo_bd ws h0 h1 k
      clear hrow hmk hlt hk
      obtain ⟨S, hS⟩ : ∃ S, sumTo (fun i => least (at0 ws i)) k = S := ⟨_, rfl⟩
      rw [hS] at sb hM hpos ⊢
      have HS : Hid (sumTo (fun i => least (at0 ws i)) k = S) := hS
      clear hS
      go_wp2
      go_loopw [1] (fun nn wx => ∃ j : Nat, j ≤ (n - S).toNat ∧ nn = .int .i64 (n - S - j) ∧ wx.rowIs w.heap.size 3 k (fun i => .int .i64 (at0 (iter ws j) i)) ∧ Below w.heap.size w wx) (fun nn _ => (intOf nn).toNat)
      case atStart => exact ⟨0, Nat.zero_le _, by simp, hr0, hbel⟩
      case round =>
        clear hr0
        obtain ⟨j, hj, rfl, hrow, hbel⟩ := hrel
        by_cases hgt : 0 < n - S - j
        · have hk0 : 0 < k := hpos (by omega)
          go_wp2
          go_loopw [8, 40] (fun mo i wx => ∃ q : Nat, q ≤ k ∧ i = .int .i64 q ∧ mo = .int .i64 (scan ws (iter ws j) q) ∧ wx.rowIs w.heap.size 3 k (fun i => .int .i64 (at0 (iter ws j) i)) ∧ Below w.heap.size w wx) (fun _ i _ => k - (intOf i).toNat)
          case atStart => exact ⟨0, Nat.zero_le _, rfl, rfl, hrow, hbel⟩
          case round =>
            clear hrow hbel
            obtain ⟨q, hq, rfl, rfl, hrow, hbel⟩ := hrel
            by_cases hlt : q < k
            · obtain ⟨B, rfl, hrB⟩ := hW.below (Nat.le_refl _) hbel hk0
              have hsm := scan_le ws (iter ws j) q
              have hsc : Hid (scan ws (iter ws j) (q + 1) = if at0 ws (scan ws (iter ws j) q) * at0 (iter ws j) q < at0 ws q * at0 (iter ws j) (scan ws (iter ws j) q) then q else scan ws (iter ws j) q) := rfl
              generalize scan ws (iter ws j) q = m at hsm hsc ⊢
              have hcq := hrB.cell hlt
              have hcm := hrB.cell (i := m) (by omega)
              have hdq := hrow.cell hlt
              have hdm := hrow.cell (i := m) (by omega)
              have b1 := iter_bd ws h0 h1 j q
              have b2 := iter_bd ws h0 h1 j m
              have p1 := prod_bd (h0 q) (h1 q) b2.1 (by omega)
              have p2 := prod_bd (h0 m) (h1 m) b1.1 (by omega)
              have hmk0 : (m : Int) < (k : Int) := by omega
              have hqk0 : (q : Int) < (k : Int) := by omega
              go_wp2
              go_quiet (fail)
              go_wp2
              · go_roundw
                case rel => exact ⟨q + 1, by omega, by go_num, by rw [hsc.out, if_pos ‹_›], hrow, drewN_below hbel⟩
                case measure => simp [intOf]; omega
              · go_roundw
                case rel => exact ⟨q + 1, by omega, by go_num, by rw [hsc.out, if_neg (by omega)], hrow, drewN_below hbel⟩
                case measure => simp [intOf]; omega
            · obtain rfl : q = k := by omega
              have hsl := scan_lt ws (iter ws j) q hk0
              have hst : Hid (iter ws (j + 1) = (iter ws j).set (scan ws (iter ws j) q) (at0 (iter ws j) (scan ws (iter ws j) q) + 1)) := by
                show Plain.step ws (iter ws j) = _
                unfold Plain.step
                rw [HL.out]
              have b2 := iter_bd ws h0 h1 j (scan ws (iter ws j) q)
              generalize scan ws (iter ws j) q = m at hsl hst b2 ⊢
              have hdm := hrow.cell hsl
              have hfm := hrow.frozen m
              go_wp2
              go_roundw
              case rel =>
                refine ⟨j + 1, by omega, by congr 1; omega, (hrow.set m _).congr fun i hi => ?_, hbel.setCell (Nat.le_refl _) _⟩
                rw [hst.out]
                by_cases e : i = m
                · subst e; rw [if_pos rfl, at0_set_same _ _ _ (by rw [iter_length, HL.out]; omega)]
                · rw [if_neg e, at0_set_other _ _ _ _ e]
              case measure => simp [intOf]; omega
        · have hje : j = (n - S).toNat := by omega
          subst hje
          go_wp2
          go_ret
          exact ⟨rfl, by rw [HS.out]; exact hrow, hbel⟩

/-- ZZsecurityRows -/
theorem zsec (a : Option Addr) (len cap : Nat) (ws : List Int) (n S : Int) (w : World) (hm : len ≤ 4096) (hl : ws.length = len) (hW : WsRow w a len ws) (h0 : ∀ i, 0 ≤ at0 ws i) (h1 : ∀ i, at0 ws i ≤ 1048576)
    (hS : sumTo (fun i => least (at0 ws i)) len = S) (hn0 : -9223372036837998592 ≤ n) (hn1 : n ≤ 9223372036854775807) (hM : n - S ≤ 65537) (hpos : 0 < n - S → 0 < len) :
    Calls Try.prog 9 #[.slice a len cap, .int .i64 n] w fun e w' => ∃ R, e = .returned (.slice (some ⟨R, 0, none⟩) len len) ∧ w.heap.size ≤ R ∧
      w'.rowIs R 3 len (fun j => .int .i64 (at0 (iter ws (n - S).toNat) j)) ∧ Below w.heap.size w w' := by
  subst hS
  go_enter Try.func9, Try.ntmps9
  go_wp2_with (first | (go_at_call 12; refine (sec a len cap ws n _ hm hl hW h0 h1 hn0 hn1 hM hpos).mono ?_; rintro e w' ⟨rfl, hr, hb⟩))
  go_ret
  exact ⟨_, rfl, Nat.le_refl _, hr, hb⟩
end Go.Proofs.Qxb6601439a
