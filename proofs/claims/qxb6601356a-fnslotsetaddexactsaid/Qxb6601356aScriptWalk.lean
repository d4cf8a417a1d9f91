/-
  FnSlotSetAddScript (4): the walk.
-/
import Derived.Test.Qxb6601356aScript
namespace Go.Proofs.Qxb6601356a
open Go.RowKit Go.Deep Go.Maps
set_option linter.unusedVariables false

theorem bytesScript (a : Option Addr) (len cap : Nat) (w : World) (h : len ≤ 1048576) : Calls Try.prog 12 #[.slice a len cap] w fun e w' => e = .returned (.bool true) ∧ w = w' := by
  go_enter Try.func12, Try.ntmps12
  go_wp2
  go_ret
  exact ⟨rfl, rfl⟩

theorem cloneInts_ex (x : Addr) (len cap : Nat) (zs : List Int) (w : World) (hm : len ≤ 1048576) (hb : 0 < len → x.spot = none ∧ x.block < w.heap.size)
    (hc : ∀ j, j < len → w.cell? ⟨x.block, x.off + j, none⟩ = some (.int .i64 (zs[j]?.getD 0))) :
    Calls Try.prog 6 #[.slice (some x) len cap] w fun e w' => ∃ B, e = .returned (.slice (some ⟨B, 0, none⟩) len len) ∧ w.heap.size ≤ B ∧ B < w'.heap.size ∧ w'.rowIs B 3 len (fun j => .int .i64 (zs[j]?.getD 0)) ∧ Below w.heap.size w w' :=
  (cloneInts_any x len cap zs w hm hb hc).mono fun e w' ⟨h1, h2, h3, h4⟩ => ⟨_, h1, Nat.le_refl _, by omega, h2, h3⟩

theorem newSet_ex (low : Int) (m : Option Nat) (w : World) : Calls Try.prog 8 #[.int .u64 low, .map m] w fun e w' => ∃ sb, e = .returned (.pointer (some ⟨sb, 0, none⟩)) ∧ w.heap.size ≤ sb ∧ IsSet w' sb low m ∧ Below w.heap.size w w' :=
  (newSet low m w).mono fun e w' ⟨h1, h2, h3, _⟩ => ⟨_, h1, Nat.le_refl _, h2, h3⟩

theorem rel_start (w w1 w2 : World) (B sb : Nat) (zs : List Int) (len : Nat) (hB : w.heap.size ≤ B) (hlt : B < w1.heap.size) (hrow : w1.rowIs B 3 len (fun j => .int .i64 (zs[j]?.getD 0))) (hb1 : Below w.heap.size w w1)
    (hset : IsSet w2 sb 0 none) (hb2 : Below w1.heap.size w1 w2) : Rel w B sb zs len 0 none w2 :=
  ⟨hset, .inl ⟨rfl, rfl, fun _ _ => rfl⟩, hrow.of_block (hb2.block B hlt), hb1.trans (hb2.mono hb1.size)⟩

theorem low_next (zs : List Int) (n : Nat) (h : zs[n]?.getD 0 < 64) : bits .or .u64 (lowOf zs n) (IntKind.u64.wrap (2 ^ (zs[n]?.getD 0).toNat)) = lowOf zs (n + 1) := by
  show _ = (if _ then _ else _); rw [if_pos h]; rfl
theorem low_stays (zs : List Int) (n : Nat) (h : ¬ zs[n]?.getD 0 < 64) : lowOf zs n = lowOf zs (n + 1) := by
  show _ = (if _ then _ else _); rw [if_neg h]
theorem highs_low (zs : List Int) (n : Nat) (h : zs[n]?.getD 0 < 64) : highs zs n = highs zs (n + 1) := by
  show _ = (if _ then _ else _); rw [if_pos h]
theorem highs_old (zs : List Int) (n : Nat) (h : ¬ zs[n]?.getD 0 < 64) (hs : seen zs (zs[n]?.getD 0) n = true) : highs zs n = highs zs (n + 1) := by
  show _ = (if _ then _ else (if _ then _ else _)); rw [if_neg h, if_pos hs]
theorem highs_new (zs : List Int) (n : Nat) (h : ¬ zs[n]?.getD 0 < 64) (hs : seen zs (zs[n]?.getD 0) n = false) : highs zs n + 1 = highs zs (n + 1) := by
  show _ = (if _ then _ else (if _ then _ else _)); rw [if_neg h, if_neg (by rw [hs]; simp)]
theorem int_eq {k : IntKind} {a b : Int} (h : a = b) : Value.int k a = .int k b := by rw [h]
theorem nat_eq {k : IntKind} {a b : Nat} (h : a = b) : Value.int k a = .int k b := by rw [h]
theorem nat_eq1 {k : IntKind} {a b : Nat} (h : a + 1 = b) : Value.int k ((a : Int) + 1) = .int k b := by rw [← h]; rfl

set_option maxHeartbeats 1600000 in
theorem script_some (b off len cap : Nat) (zs : List Int) (w : World) (h0 : 0 < len) (hlen : len ≤ 4096) (hb : b < w.heap.size)
    (hc : ∀ j, j < len → w.cell? ⟨b, off + j, none⟩ = some (.int .i64 (zs[j]?.getD 0))) (hwz : ∀ j : Nat, (Lit.int .i64 (zs[j]?.getD 0)).wf = true) :
    Calls Try.prog 4 #[.slice (some ⟨b, off, none⟩) len cap] w fun e w' => e = .returned (.bool true) ∧ Below w.heap.size w w' := by
  go_enter Try.func4, Try.ntmps4
  go_wp2_with (first | (go_at_call 12; refine (bytesScript _ _ _ _ (by omega)).mono ?_; rintro e w' ⟨rfl, rfl⟩))
  go_loop [3] (fun i => ∃ k : Nat, k ≤ len ∧ i = .int .i64 k ∧ ∀ j, j < k → 0 ≤ zs[j]?.getD 0) (fun i => len - (intOf i).toNat)
  case atStart => exact ⟨0, Nat.zero_le _, rfl, fun j hj => by omega⟩
  case round =>
    obtain ⟨k, hk, rfl, hpos⟩ := hrel
    by_cases hlt : k < len
    · have hck := hc k hlt
      by_cases hneg : zs[k]?.getD 0 < 0
      · go_wp2
        go_ret
        exact ⟨rfl, Below.refl _ _⟩
      · go_wp2
        go_round
        case rel => 
          refine ⟨k + 1, by omega, by go_num, fun j hj => ?_⟩
          by_cases e : j = k
          · subst e; omega
          · exact hpos j (by omega)
        case measure => simp [intOf]; omega
    · have hkl : k = len := by omega
      subst hkl
      clear hk hlt
      go_wp2_with (first
        | (go_at_call 6; refine (cloneInts_ex ⟨b, off, none⟩ k cap zs _ (by omega) (fun _ => ⟨rfl, hb⟩) hc).mono ?_; rintro e w1 ⟨B, rfl, hB, hBlt, hrow, hb1⟩)
        | (go_at_call 8; refine (newSet_ex _ _ _).mono ?_; rintro e w2 ⟨sb, rfl, hsb, hset, hb2⟩))
      have hR := rel_start w w1 w2 B sb zs k hB hBlt hrow hb1 hset hb2
      have hBsb : B < sb := by omega
      clear hset hb2 hrow hb1 hsb hBlt hc
      go_loopw [5, 6, 7] (fun lo di i wr => ∃ n : Nat, n ≤ k ∧ i = .int .i64 n ∧ lo = .int .u64 (lowOf zs n) ∧ di = .int .i64 (highs zs n) ∧ ∃ m, Rel w B sb zs k n m wr) (fun _ _ i _ => k - (intOf i).toNat)
      case atStart => exact ⟨0, Nat.zero_le _, rfl, rfl, rfl, none, hR⟩
      case round =>
        obtain ⟨n, hn, rfl, rfl, rfl, m, R⟩ := hrel
        by_cases hlt : n < k
        · have hcn := R.row.cell hlt
          have hhl := highs_le zs n
          have hpn := hpos n hlt
          have hseen := seen_of zs (zs[n]?.getD 0) n
          go_wp2
          go_loop [9, 10] (fun fr j => ∃ q : Nat, q ≤ n ∧ j = .int .i64 q ∧ fr = .bool true ∧ seen zs (zs[n]?.getD 0) q = false) (fun _ j => n - (intOf j).toNat)
          case atStart => exact ⟨0, Nat.zero_le _, rfl, rfl, rfl⟩
          case round =>
            obtain ⟨q, hq, rfl, rfl, hsq⟩ := hrel
            by_cases hqn : q < n
            · have hcq := R.row.cell (i := q) (by omega)
              by_cases heq : zs[q]?.getD 0 = zs[n]?.getD 0
              · have hs : seen zs (zs[n]?.getD 0) n = true := hseen q hqn heq
                have ht : (zs[q]?.getD 0 == zs[n]?.getD 0) = true := by simpa using heq
                clear heq hsq hseen
                by_cases h64 : zs[n]?.getD 0 < 64
                · go_wp2_with (first
                    | (go_at_call 9; refine (add_step w B sb zs k n wr hlt hlen hB hBsb hpos hwz m R).mono ?_; rintro e w' ⟨rfl, m', R'⟩))
                  go_roundw
                  case rel => exact ⟨n + 1, by omega, by go_num, int_eq (low_next zs n h64), nat_eq (highs_low zs n h64), m', R'⟩
                  case measure => simp [intOf]; omega
                · go_wp2_with (first
                    | (go_at_call 9; refine (add_step w B sb zs k n wr hlt hlen hB hBsb hpos hwz m R).mono ?_; rintro e w' ⟨rfl, m', R'⟩))
                  go_roundw
                  case rel => exact ⟨n + 1, by omega, by go_num, int_eq (low_stays zs n (by omega)), nat_eq (highs_old zs n (by omega) hs), m', R'⟩
                  case measure => simp [intOf]; omega
              · have ht : (zs[q]?.getD 0 == zs[n]?.getD 0) = false := by simpa using heq
                have hs1 : Hid (seen zs (zs[n]?.getD 0) (q + 1) = false) := by show (seen _ _ _ || _) = false; rw [hsq, ht]; rfl
                clear heq hsq hseen
                go_wp2
                go_round
                case rel => exact ⟨q + 1, by omega, by go_num, rfl, hs1.out⟩
                case measure => simp [intOf]; omega
            · have hqe : q = n := by omega
              subst hqe
              clear hseen
              by_cases h64 : zs[q]?.getD 0 < 64
              · go_wp2_with (first
                  | (go_at_call 9; refine (add_step w B sb zs k q wr hlt hlen hB hBsb hpos hwz m R).mono ?_; rintro e w' ⟨rfl, m', R'⟩))
                go_roundw
                case rel => exact ⟨q + 1, by omega, by go_num, int_eq (low_next zs q h64), nat_eq (highs_low zs q h64), m', R'⟩
                case measure => simp [intOf]; omega
              · go_wp2_with (first
                  | (go_at_call 9; refine (add_step w B sb zs k q wr hlt hlen hB hBsb hpos hwz m R).mono ?_; rintro e w' ⟨rfl, m', R'⟩))
                go_roundw
                case rel => exact ⟨q + 1, by omega, by go_num, int_eq (low_stays zs q (by omega)), nat_eq1 (highs_new zs q (by omega) hsq), m', R'⟩
                case measure => simp [intOf]; omega
        · have hne : n = k := by omega
          subst hne
          obtain ⟨hset, hmap, hrow, hbel⟩ := R
          have hhl := highs_le zs n
          rcases hmap with ⟨rfl, e1, e2⟩ | ⟨bm, nn, D, rfl, hbm, hown, hnn, hsz, hpo, hat⟩
          · have hq := eqNilMap wr
            have hln := Maps.len_nil (w := wr) (P := Try.prog) (t := 28) Try.underlying28
            go_wp2_with (first
              | (go_at_call 10; refine (getLow _ _ _ _ hset).mono ?_; rintro e w' ⟨rfl, rfl⟩)
              | (go_at_call 11; refine (getHigh _ _ _ _ hset).mono ?_; rintro e w' ⟨rfl, rfl⟩))
            have hno : ∀ q : Nat, q < n → zs[q]?.getD 0 < 64 := fun q hq => by
              by_cases h : zs[q]?.getD 0 < 64
              · exact h
              · have h1 := e2 _ (by omega : 64 ≤ zs[q]?.getD 0)
                rw [seen_of zs _ n q hq rfl] at h1
                cases h1
            clear e1 e2 hR
            go_loop [12] (fun i => ∃ q : Nat, q ≤ n ∧ i = .int .i64 q) (fun i => n - (intOf i).toNat)
            case atStart => exact ⟨0, Nat.zero_le _, rfl⟩
            case round =>
              obtain ⟨q, hqn, rfl⟩ := hrel
              by_cases hlt2 : q < n
              · have hcq := hrow.cell hlt2
                have h64 := hno q hlt2
                have hd : decide (64 ≤ zs[q]?.getD 0) = false := by simpa using h64
                go_wp2
                go_round
                case rel => exact ⟨q + 1, by omega, by go_num⟩
                case measure => simp [intOf]; omega
              · go_wp2
                go_ret
                exact ⟨rfl, hbel⟩
          · have hq := eqNilMap wr
            have hln := hown.len (t := 28) Try.underlying28
            rw [hsz] at hln
            have hne0 : ((highs zs n : Int) == 0) = false := by simp; omega
            go_wp2_with (first
              | (go_at_call 10; refine (getLow _ _ _ _ hset).mono ?_; rintro e w' ⟨rfl, rfl⟩)
              | (go_at_call 11; refine (getHigh _ _ _ _ hset).mono ?_; rintro e w' ⟨rfl, rfl⟩))
            clear hR
            go_loop [12] (fun i => ∃ q : Nat, q ≤ n ∧ i = .int .i64 q) (fun i => n - (intOf i).toNat)
            case atStart => exact ⟨0, Nat.zero_le _, rfl⟩
            case round =>
              obtain ⟨q, hqn, rfl⟩ := hrel
              by_cases hlt2 : q < n
              · have hcq := hrow.cell hlt2
                by_cases h64 : zs[q]?.getD 0 < 64
                · have hd : decide (64 ≤ zs[q]?.getD 0) = false := by simpa using h64
                  go_wp2
                  go_round
                  case rel => exact ⟨q + 1, by omega, by go_num⟩
                  case measure => simp [intOf]; omega
                · have hl := look hown (hwz q) (x := true) (by rw [(hat _ (by omega)).1, seen_of zs _ n q hlt2 rfl])
                  go_wp2
                  go_round
                  case rel => exact ⟨q + 1, by omega, by go_num⟩
                  case measure => simp [intOf]; omega
              · go_wp2
                go_ret
                exact ⟨rfl, hbel⟩

/-- no slot -/
theorem script_nil (w : World) : Calls Try.prog 4 #[.slice none 0 0] w fun e w' => e = .returned (.bool true) ∧ Below w.heap.size w w' := by
  have hq := eqNilMap
  have hln := fun w => Maps.len_nil (w := w) (P := Try.prog) (t := 28) Try.underlying28
  go_enter Try.func4, Try.ntmps4
  go_wp2_with (first | (go_at_call 12; refine (bytesScript _ _ _ _ (by omega)).mono ?_; rintro e w' ⟨rfl, rfl⟩))
  refine wp_loop_rounds 1 ?_
  rw [rounds_succ]
  go_wp2_with (first
    | (go_at_call 6; refine (cloneInts_nil _).mono ?_; rintro e w1 ⟨rfl, rfl⟩)
    | (go_at_call 8; refine (newSet_ex _ _ _).mono ?_; rintro e w2 ⟨sb, rfl, hsb, hset, hb2⟩))
  refine wp_loop_rounds 1 ?_
  rw [rounds_succ]
  go_wp2_with (first
    | (go_at_call 10; refine (getLow _ _ _ _ hset).mono ?_; rintro e w' ⟨rfl, rfl⟩)
    | (go_at_call 11; refine (getHigh _ _ _ _ hset).mono ?_; rintro e w' ⟨rfl, rfl⟩))
  refine wp_loop_rounds 1 ?_
  rw [rounds_succ]
  go_wp2
  go_ret
  exact ⟨rfl, hb2⟩

theorem script_empty (x : Addr) (cap : Nat) (w : World) : Calls Try.prog 4 #[.slice (some x) 0 cap] w fun e w' => e = .returned (.bool true) ∧ Below w.heap.size w w' := by
  have hq := eqNilMap
  have hln := fun w => Maps.len_nil (w := w) (P := Try.prog) (t := 28) Try.underlying28
  go_enter Try.func4, Try.ntmps4
  go_wp2_with (first | (go_at_call 12; refine (bytesScript _ _ _ _ (by omega)).mono ?_; rintro e w' ⟨rfl, rfl⟩))
  refine wp_loop_rounds 1 ?_
  rw [rounds_succ]
  go_wp2_with (first
    | (go_at_call 6; refine (cloneInts_ex x 0 cap [] _ (by omega) (fun h => by omega) (fun j h => by omega)).mono ?_; rintro e w1 ⟨B, rfl, hB, hBlt, hrow, hb1⟩)
    | (go_at_call 8; refine (newSet_ex _ _ _).mono ?_; rintro e w2 ⟨sb, rfl, hsb, hset, hb2⟩))
  refine wp_loop_rounds 1 ?_
  rw [rounds_succ]
  go_wp2_with (first
    | (go_at_call 10; refine (getLow _ _ _ _ hset).mono ?_; rintro e w' ⟨rfl, rfl⟩)
    | (go_at_call 11; refine (getHigh _ _ _ _ hset).mono ?_; rintro e w' ⟨rfl, rfl⟩))
  refine wp_loop_rounds 1 ?_
  rw [rounds_succ]
  go_wp2
  go_ret
  exact ⟨rfl, hb1.trans (hb2.mono hb1.size)⟩

/-- more than 4096 -/
theorem script_many (a : Option Addr) (len cap : Nat) (w : World) (h : 4096 < len) (hm : len ≤ maxLen) : Calls Try.prog 4 #[.slice a len cap] w fun e w' => e = .returned (.bool true) ∧ Below w.heap.size w w' := by
  unfold maxLen at hm
  by_cases h2 : 1048576 < len
  · go_enter Try.func4, Try.ntmps4
    go_wp2
    go_ret
    exact ⟨rfl, Below.refl _ _⟩
  · go_enter Try.func4, Try.ntmps4
    go_wp2
    go_ret
    exact ⟨rfl, Below.refl _ _⟩
end Go.Proofs.Qxb6601356a
