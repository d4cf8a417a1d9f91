/-
  FnSecurityRowsGivesTheTopOffers (3): the walk where rows are left over and the first kind has weight.
-/
import Derived.Test.Qxb6601439aTopMore
namespace Go.Proofs.Qxb6601439a
open Go.RowKit Go.Deep Plain
set_option linter.unusedVariables false
set_option maxRecDepth 100000

set_option maxHeartbeats 3200000 in
theorem top_pos1 (a : Option Addr) (len cap : Nat) (ws rs : List Int) (n S : Int) (w : World) (hm : len ≤ 4096) (hlen0 : 0 < len) (hl : ws.length = len) (hnil : a = none → len = 0 ∧ cap = 0) (hA : WsAt w a len ws) (hd : domB ws len = true) (h0 : ∀ i, 0 ≤ at0 ws i) (h1 : ∀ i, at0 ws i ≤ 1048576)
    (HS : Hid (sumTo (fun i => least (at0 ws i)) len = S)) (hS0 : 0 ≤ S) (hS1 : S ≤ 10739712)
    (hn : -9223372036837998592 ≤ n) (hn1 : n ≤ 9223372036854775807) (hM0 : 0 < n - S) (hM1 : n - S ≤ 65536) (HR : Hid (iter ws (n - S).toNat = rs))
    (G : Good ws rs len (n - S)) (hpos : anyPos ws len = true) (hf0 : 0 < at0 ws 0) : Calls Try.prog 3 #[.slice a len cap, .int .i64 n] w fun e w' => e = .returned (.bool true) ∧ Below w.heap.size w w' := by
  have HL : Hid (ws.length = len) := hl
  clear hl
  have hgb : ((len : Int) == 0) = false := by simp; omega
  go_enter Try.func3, Try.ntmps3
  go_wp2_with (first
    | (go_at_call 5; go_in)
    | (go_at_call 6; refine (inDomain a len cap ws _ hm hA true hd).mono ?_; rintro e w' ⟨rfl, rfl⟩)
    | (go_at_call 7; refine (leastSumS a len cap ws S _ hm hA h0 h1 HS).mono ?_; rintro e w' ⟨rfl, rfl⟩)
    | (go_at_call 8; refine (clone_any a len cap ws _ (by omega) hnil hA).mono ?_; rintro e w1 ⟨a', c', rfl, hW, hb1⟩)
    | (go_at_call 9; refine (zsec a' len c' ws n S _ hm HL.out hW h0 h1 HS.out hn hn1 (by omega) (fun h => by omega)).mono ?_; rintro e w2 ⟨R, rfl, hR, hrow, hb2⟩))
  obtain ⟨B, rfl, hrB⟩ := WsRow.below hW (Nat.le_refl _) hb2 hlen0
  have hbel := hb1.trans (hb2.mono hb1.size)
  rw [HR.out] at hrow
  clear hW hb1 hb2 hA hd
  have hS := G.sum
  rw [if_neg (by omega), Int.sub_zero] at hS
  have hcw0 := hrB.cell (i := 0) hlen0
  have hne0 : (at0 ws 0 == 0) = false := by simp; omega
  have HSum : Hid (sumTo (given ws rs) len = n - S) := hS
  clear hS
  go_loop [8, 9] (fun x i => ∃ k : Nat, k ≤ len ∧ i = .int .i64 k ∧ x = .bool (anyPos ws k)) (fun _ i => len - (intOf i).toNat)
  case atStart => exact ⟨0, Nat.zero_le _, rfl, rfl⟩
  case round =>
    obtain ⟨k, hk, rfl, rfl⟩ := hrel
    by_cases hlt : k < len
    · have hc1 := hrB.cell hlt
      by_cases hpk : 0 < at0 ws k
      · have hs1 : Hid (anyPos ws (k + 1) = true) := anyPos_yes ws k hpk (k + 1) (by omega)
        go_wp2
        go_round
        case rel => exact ⟨k + 1, by omega, by go_num, by rw [hs1.out]⟩
        case measure => simp [intOf]; omega
      · have hs1 : Hid (anyPos ws (k + 1) = anyPos ws k) := by show (anyPos ws k || _) = _; rw [decide_eq_false hpk]; simp
        go_wp2
        go_round
        case rel => exact ⟨k + 1, by omega, by go_num, by rw [hs1.out]⟩
        case measure => simp [intOf]; omega
    · obtain rfl : k = len := by omega
      clear hlt hk
      go_wp2
      go_loop [12] (fun i => ∃ q : Nat, 1 ≤ q ∧ q ≤ k ∧ i = .int .i64 q) (fun i => k - (intOf i).toNat)
      case atStart => exact ⟨1, by omega, by omega, rfl⟩
      case round =>
        obtain ⟨q, hq1, hq, rfl⟩ := hrel
        by_cases hlt2 : q < k
        · have hcq := hrB.cell hlt2
          by_cases hzq : at0 ws q = 0
          · have hcr := hrow.cell hlt2
            rw [G.zero q (by omega) hzq] at hcr
            rw [hzq] at hcq
            clear hzq
            go_wp2
            go_round
            case rel => exact ⟨q + 1, by omega, by omega, by go_num⟩
            case measure => simp [intOf]; omega
          · have hzb : (at0 ws q == 0) = false := by simpa using hzq
            clear hzq
            go_wp2
            go_round
            case rel => exact ⟨q + 1, by omega, by omega, by go_num⟩
            case measure => simp [intOf]; omega
        · go_wp2
          clear hlt2 hq hq1
          go_loop [13, 14] (fun g i => ∃ t : Nat, t ≤ k ∧ i = .int .i64 t ∧ g = .int .i64 (sumTo (given ws rs) t)) (fun _ i => k - (intOf i).toNat)
          case atStart => exact ⟨0, Nat.zero_le _, rfl, rfl⟩
          case round =>
            obtain ⟨t, ht, rfl, rfl⟩ := hrel
            by_cases hlt3 : t < k
            · have hct := hrB.cell hlt3
              have hcr := hrow.cell hlt3
              have a0 := h0 t
              have a1 := h1 t
              have g0 := G.ge t
              have g1 := G.bd t
              have g2 := given_bd G h0 t
              have l0 := least_nonneg (h0 t)
              by_cases hpt : 0 < at0 ws t
              · have hgv : Hid (sumTo (given ws rs) (t + 1) = sumTo (given ws rs) t + (at0 rs t - least (at0 ws t))) := by show _ + given ws rs t = _; unfold given; rw [if_pos hpt]
                go_wp2_with (first | (go_at_call 10; refine (leastRows _ _ a0 a1).mono ?_; rintro e w' ⟨rfl, rfl⟩))
                go_round
                case rel => exact ⟨t + 1, by omega, by go_num, by rw [hgv.out]⟩
                case measure => simp [intOf]; omega
              · have hgv : Hid (sumTo (given ws rs) (t + 1) = sumTo (given ws rs) t) := by show _ + given ws rs t = _; unfold given; rw [if_neg hpt]; omega
                go_wp2
                go_round
                case rel => exact ⟨t + 1, by omega, by go_num, by rw [hgv.out]⟩
                case measure => simp [intOf]; omega
            · have htk : Hid (t = k) := by show t = k; omega
              rw [show sumTo (given ws rs) t = sumTo (given ws rs) k by rw [htk.out], HSum.out]
              go_wp2
              clear hlt3 ht htk
              go_loopw [16] (fun i wx => ∃ r : Nat, r ≤ k ∧ i = .int .i64 r ∧ wx.rowIs R 3 k (fun j => .int .i64 (at0 rs j)) ∧ wx.rowIs B 2 k (fun j => .int .i64 (at0 ws j)) ∧ Below w.heap.size w wx) (fun i _ => k - (intOf i).toNat)
              case atStart => exact ⟨0, Nat.zero_le _, rfl, hrow, hrB, hbel⟩
              case round =>
                clear hrow hrB hbel hcw0
                obtain ⟨r, hr, rfl, hrow, hrB, hbel⟩ := hrel
                by_cases hlt4 : r < k
                · have hc1 := hrB.cell hlt4
                  have hc2 := hrow.cell hlt4
                  have hri : (r : Int) < (k : Int) := by omega
                  have a0 := h0 r
                  have a1 := h1 r
                  by_cases hz4 : at0 ws r ≤ 0
                  · have hd4 : decide (at0 ws r ≤ 0) = true := by simpa using hz4
                    go_wp2
                    go_quiet (fail)
                    go_wp2
                    go_roundw
                    case rel => exact ⟨r + 1, by omega, by go_num, hrow, hrB, drewN_below hbel⟩
                    case measure => simp [intOf]; omega
                  · have hd4 : decide (at0 ws r ≤ 0) = false := by simpa using hz4
                    have b4 := G.bd r
                    have l4 := least_pos (show 0 < at0 ws r by omega)
                    by_cases hle : at0 rs r ≤ least (at0 ws r)
                    · go_wp2
                      go_quiet ((go_at_call 10; exact Calls.quiet_of_same (leastRowsQ _ _ a0 a1)))
                      go_wp2
                      go_roundw
                      case rel => exact ⟨r + 1, by omega, by go_num, hrow, hrB, drewN_below hbel⟩
                      case measure => simp [intOf]; omega
                    · have htop : ∀ l, l ≠ r → 0 < at0 ws l → at0 ws l * (at0 rs r - 1) ≤ at0 ws r * at0 rs l ∧ (l < r → at0 ws l * (at0 rs r - 1) < at0 ws r * at0 rs l) := fun l hl1 hl2 => G.top r l (by omega) (by omega) hl1 hl2
                      have HT : Hid (∀ l, l ≠ r → 0 < at0 ws l → at0 ws l * (at0 rs r - 1) ≤ at0 ws r * at0 rs l ∧ (l < r → at0 ws l * (at0 rs r - 1) < at0 ws r * at0 rs l)) := htop
                      clear htop
                      go_wp2
                      go_quiet ((go_at_call 10; exact Calls.quiet_of_same (leastRowsQ _ _ a0 a1)))
                      go_wp2
                      go_loop [18] (fun i => ∃ l : Nat, l ≤ k ∧ i = .int .i64 l) (fun i => k - (intOf i).toNat)
                      case atStart => exact ⟨0, Nat.zero_le _, rfl⟩
                      case round =>
                        obtain ⟨l, hl, rfl⟩ := hrel
                        by_cases hlt5 : l < k
                        · have hd1 := hrB.cell hlt5
                          have hd2 := hrow.cell hlt5
                          by_cases hlr : l = r
                          · have hbq : ((l : Int) == (r : Int)) = true := by simp; omega
                            clear hlr
                            go_wp2
                            go_round
                            case rel => exact ⟨l + 1, by omega, by go_num⟩
                            case measure => simp [intOf]; omega
                          · have hbq : ((l : Int) == (r : Int)) = false := by simp; omega
                            by_cases hz5 : at0 ws l ≤ 0
                            · clear hlr
                              go_wp2
                              go_round
                              case rel => exact ⟨l + 1, by omega, by go_num⟩
                              case measure => simp [intOf]; omega
                            · obtain ⟨t1, t2⟩ := HT.out l hlr (by omega)
                              have b5 := G.bd l
                              have e0 := h0 l
                              have e1 := h1 l
                              have p1 := prod_bd a0 a1 b5.1 b5.2
                              have p2 := prod_bd e0 e1 (show 0 ≤ at0 rs r - 1 by omega) (by omega)
                              clear hlr
                              by_cases heq : at0 ws r * at0 rs l = at0 ws l * (at0 rs r - 1)
                              · have hlr2 : ¬ l < r := fun h => by have := t2 h; omega
                                have hbe : (at0 ws r * at0 rs l == at0 ws l * (at0 rs r - 1)) = true := by simpa using heq
                                clear heq t2
                                go_wp2
                                go_round
                                case rel => exact ⟨l + 1, by omega, by go_num⟩
                                case measure => simp [intOf]; omega
                              · have hbe : (at0 ws r * at0 rs l == at0 ws l * (at0 rs r - 1)) = false := by simpa using heq
                                clear heq t2
                                go_wp2
                                go_round
                                case rel => exact ⟨l + 1, by omega, by go_num⟩
                                case measure => simp [intOf]; omega
                        · go_wp2
                          go_roundw
                          case rel => exact ⟨r + 1, by omega, by go_num, hrow, hrB, drewN_below hbel⟩
                          case measure => simp [intOf]; omega
                · go_wp2
                  go_ret
                  exact ⟨rfl, hbel⟩

end Go.Proofs.Qxb6601439a
