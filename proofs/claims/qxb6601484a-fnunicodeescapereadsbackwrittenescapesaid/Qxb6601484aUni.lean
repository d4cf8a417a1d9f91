/-
  FnUnicodeEscapeReadsBackWrittenEscape (6): the walk.
-/
import Derived.Test.Qxb6601484aHex
import Derived.WideShapes
import Derived.WalkSmall
import Derived.Maps.AppendAt
namespace Go.Proofs.Qxb6601484a
open Go.RowKit Go.Deep
set_option linter.unusedVariables false

theorem clone_any (a : Option Addr) (len cap : Nat) (zs : List Int) (w : World) (hm : len ≤ 1048576) (hA : BsAt w a len cap zs) :
    Calls Try.prog 8 #[.slice a len cap] w fun e w' => ∃ a' c', e = .returned (.slice a' len c') ∧ BsAt w' a' len c' zs ∧ Below w.heap.size w w' := by
  cases a with
  | none =>
    obtain ⟨rfl, rfl⟩ := hA.1 rfl
    refine (clone_nil w).mono ?_
    rintro e w' ⟨rfl, rfl⟩
    exact ⟨none, 0, rfl, hA, Below.refl _ _⟩
  | some x =>
    refine (clone_some x len cap zs w hm hA).mono ?_
    rintro e w' ⟨B, rfl, hrow, hbel⟩
    refine ⟨_, _, rfl, ⟨fun h => (by cases h), fun y hy j hj => ?_⟩, hbel⟩
    cases hy
    have := hrow.cell hj
    rw [Go.WideShapes.add_plain, Nat.zero_add]
    exact this

theorem BsAt.news {w : World} {a : Option Addr} {len cap : Nat} {zs : List Int} (h : BsAt w a len cap zs) (hl : zs.length = len) : ∀ ad, a = some ad → ∀ (j : Nat) u, (zs.map (Value.int .u8))[j]? = some u → w.cell? (ad.add j) = some u := by
  intro ad ha j u hu
  have hj : j < len := by
    by_cases hj : j < len
    · exact hj
    · rw [List.getElem?_eq_none (by simp; omega)] at hu; cases hu
  rw [h.2 ad ha j hj]
  rw [List.getElem?_map, List.getElem?_eq_getElem (by omega)] at hu
  simp at hu
  rw [← hu]
  simp [at0, List.getElem?_eq_getElem (show j < zs.length by omega)]

theorem grown_below {w w' : World} (h : w.grownBy w' none) : Below w.heap.size w w' := ⟨h.os, h.tape, h.output, h.size, fun k hk => h.block k hk (by simp)⟩

theorem grown_below_at {w w1 w' : World} {g : Nat} (hb : Below w.heap.size w w1) (h : w1.grownBy w' (some g)) (hg : w.heap.size ≤ g) : Below w.heap.size w w' :=
  hb.grown h hb.size (fun k e => by cases e; exact hg)

theorem new_two (w : World) (x y : Value) (t : TypeId) : ∀ ad, some (⟨w.heap.size, 0, none⟩ : Addr) = some ad → ∀ (j : Nat) u, [x, y][j]? = some u → (w.alloc (.cells #[x, y] t)).cell? (ad.add j) = some u := by
  intro ad h
  cases h
  exact cell_two_new w x y t

theorem new_one (w : World) (x : Value) (t : TypeId) : ∀ ad, some (⟨w.heap.size, 0, none⟩ : Addr) = some ad → ∀ (j : Nat) u, [x][j]? = some u → (w.alloc (.cells #[x] t)).cell? (ad.add j) = some u := by
  intro ad h
  cases h
  exact cell_one_new w x t

/-- the k-th of the unit's four digits -/
def dig (u : Int) (k : Nat) : Int := u / 2 ^ (12 - 4 * k) % 16

theorem dig_form (u : Int) (k : Nat) (h0 : 0 ≤ u) (h1 : u ≤ 65535) : bits .and .i64 (wrap64 (u / 2 ^ (12 - 4 * k))) 15 = dig u k := by
  have hp : (0 : Int) ≤ 2 ^ (12 - 4 * k) := Int.pow_nonneg (by decide)
  have a := Int.ediv_nonneg h0 hp
  have b := Int.ediv_le_self (2 ^ (12 - 4 * k)) h0
  unfold dig
  generalize u / 2 ^ (12 - 4 * k) = x at a b
  rw [show wrap64 x = x by unfold wrap64; omega]
  exact and_i64 x a (by omega)

theorem dig_bd (u : Int) (k : Nat) : 0 ≤ dig u k ∧ dig u k < 16 := by unfold dig; omega

theorem val_dig (u : Int) (h0 : 0 ≤ u) (h1 : u ≤ 65535) : val (dig u) 4 = u := by
  simp [val, dig]
  omega

/-- the escape's six bytes, behind the prefix -/
theorem full_cells {w : World} {g base L cap n : Nat} {pz cs sz : List Int} (h : w.ownsRow base 5 1 (.slice (some ⟨g, 0, none⟩) n cap) n ((pz ++ [92, 117] ++ cs).map (Value.int .u8) ++ sz.map (Value.int .u8))) (hp : pz.length = L) (hc : cs.length = 4) :
    w.cell? ⟨g, L, none⟩ = some (.int .u8 92) ∧ w.cell? ⟨g, L + 1, none⟩ = some (.int .u8 117) ∧ ∀ k, k < 4 → w.cell? ⟨g, L + 2 + k, none⟩ = some (.int .u8 (at0 cs k)) := by
  have hl := h.1
  simp [hp, hc] at hl
  refine ⟨?_, ?_, fun k hk => ?_⟩
  · rw [h.cellAt L (by omega), ← List.map_append, List.getElem?_map]
    simp [hp]
  · rw [h.cellAt (L + 1) (by omega), ← List.map_append, List.getElem?_map]
    simp [hp]
  · rw [h.cellAt (L + 2 + k) (by omega), ← List.map_append, List.getElem?_map]
    have e : (pz ++ [92, 117] ++ cs ++ sz)[L + 2 + k]? = cs[k]? := by
      rw [List.append_assoc, List.getElem?_append_right (by simp [hp]), List.getElem?_append_left (by simp [hp, hc]; omega)]
      congr 1
      simp [hp]
    rw [e]
    unfold at0
    rw [List.getElem?_eq_getElem (by omega)]
    rfl

set_option maxHeartbeats 1600000 in
theorem uni_any (a0 a3 : Option Addr) (L M cap0 cap3 : Nat) (pz sz : List Int) (u m : Int) (w : World) (hL : L ≤ 524288) (hM : M ≤ 524288) (hpl : pz.length = L) (hsl : sz.length = M) (h0 : BsAt w a0 L cap0 pz) (h3 : BsAt w a3 M cap3 sz) (hu0 : 0 ≤ u) (hu1 : u ≤ 65535) (hm0 : 0 ≤ m) (hm1 : m ≤ 255) :
    Calls Try.prog 6 #[.slice a0 L cap0, .int .u16 u, .int .u8 m, .slice a3 M cap3] w fun e w' => e = .returned (.bool true) ∧ Below w.heap.size w w' := by
  have HPL : Hid (pz.length = L) := hpl
  have HSL : Hid (sz.length = M) := hsl
  clear hpl hsl
  obtain ⟨i0, hi, hz0, hz1, hz2⟩ := info_parts Try.info5
  go_enter Try.func6, Try.ntmps6
  go_wp2_with (first | (go_at_call 13; go_in))
  refine (clone_any a0 L cap0 pz _ (by omega) h0).mono ?_
  rintro e w1 ⟨a0', c0', rfl, hp1, hb1⟩
  go_wp2_with fail
  refine (clone_any a3 M cap3 sz _ (by omega) (h3.below hb1)).mono ?_
  rintro e w2 ⟨a3', c3', rfl, hs2, hb2⟩
  have hp2 := hp1.below hb2
  have hb12 := hb1.trans (hb2.mono hb1.size)
  clear hp1 hb1 hb2 h0 h3
  go_wp2_with (first
    | (at_make; refine wpList_make_own _ rfl _ _ 22 rfl w2.heap.size 5 i0 (.int .u8 0) 1 Try.underlying22 hi hz0 hz1 .i64 .i64 _ (L + 6 + M) rfl rfl (by omega) (by rw [hz2]; omega) (by unfold maxLen; omega) (Nat.le_refl _) ?_; intro w3 hown3 hg3)
    | (at_builtin; refine wpList_append_fits_any _ rfl _ _ 22 rfl w2.heap.size 5 i0 1 Try.underlying22 hi hz1 w2.heap.size 0 (L + 6 + M) [] rfl hown3 a0' L c0' (pz.map (Value.int .u8)) rfl (by simp [HPL.out]) hp2.1 (BsAt.news (hp2.below (grown_below hg3)) HPL.out) (ints_oneCell .u8 pz) (by omega) ?_; intro w4 hown4 hg4; rw [Nat.zero_add, List.nil_append] at hown4)
    | (at_builtin; refine wpList_append_fits_any _ rfl _ _ 22 rfl w2.heap.size 5 i0 1 Try.underlying22 hi hz1 w2.heap.size L (L + 6 + M) (pz.map (Value.int .u8)) rfl (hown4.alloc _) (some ⟨w4.heap.size, 0, none⟩) 2 2 [.int .u8 92, .int .u8 117] rfl rfl (fun h => by cases h) (new_two _ _ _ _) (ints_oneCell .u8 [92, 117]) (by omega) ?_; intro w5 hown5 hg5))
  have hb3 := grown_below hg3
  have hb4 := grown_below_at hb3 hg4 (Nat.le_refl _)
  have hb5 := grown_below_at (hb4.alloc hb4.size _) hg5 (Nat.le_refl _)
  have hcs : ∃ cs : List Int, cs.length = 0 ∧ (∀ j, j < 0 → IsHex (at0 cs j) (dig u j)) ∧ w5.ownsRow w2.heap.size 5 1 (.slice (some ⟨w2.heap.size, 0, none⟩) (L + 2 + 0) (L + 6 + M)) (L + 2 + 0) ((pz ++ [92, 117] ++ cs).map (Value.int .u8)) :=
    ⟨[], rfl, fun j hj => by omega, by simpa using hown5⟩
  clear hb3 hb4 hown3 hown4 hown5 hg3 hg4 hg5
  go_loopw [9, 10] (fun v i wr => ∃ k : Nat, k ≤ 4 ∧ i = .int .i64 k ∧ v = .slice (some ⟨w2.heap.size, 0, none⟩) (L + 2 + k) (L + 6 + M) ∧
      (∃ cs : List Int, cs.length = k ∧ (∀ j, j < k → IsHex (at0 cs j) (dig u j)) ∧ wr.ownsRow w2.heap.size 5 1 (.slice (some ⟨w2.heap.size, 0, none⟩) (L + 2 + k) (L + 6 + M)) (L + 2 + k) ((pz ++ [92, 117] ++ cs).map (Value.int .u8))) ∧ Below w2.heap.size w2 wr) (fun _ i _ => 4 - (intOf i).toNat)
  case atStart => exact ⟨0, by omega, rfl, rfl, hcs, hb5⟩
  case round =>
    clear hcs hb5
    obtain ⟨k, hk, rfl, rfl, ⟨cs, hcl, hhx, hown⟩, hbel⟩ := hrel
    have HCL : Hid (cs.length = k) := hcl
    clear hcl
    by_cases hlt : k < 4
    · have db := dig_bd u k
      go_wp2_with fail
      rw [dig_form u k hu0 hu1]
      refine (hexDigit_any _ _ _ db.1 db.2).mono ?_
      rintro e w' ⟨c, rfl, hxc, rfl⟩
      have HX : Hid (IsHex c (dig u k)) := hxc
      clear hxc
      go_wp2_with (first
        | (at_builtin; refine wpList_append_fits_any _ rfl _ _ 22 rfl w2.heap.size 5 i0 1 Try.underlying22 hi hz1 w2.heap.size (L + 2 + k) (L + 6 + M) _ rfl (hown.alloc _) (some ⟨wr.heap.size, 0, none⟩) 1 1 [.int .u8 c] rfl rfl (fun h => by cases h) (new_one _ _ _) (ints_oneCell .u8 [c]) (by omega) ?_; intro w6 hown6 hg6))
      go_roundw
      case rel =>
        refine ⟨k + 1, by omega, by go_num, rfl, ⟨cs ++ [c], by simp [HCL.out], fun j hj => ?_, ?_⟩, grown_below_at (hbel.alloc hbel.size _) hg6 (Nat.le_refl _)⟩
        · by_cases e : j = k
          · subst e
            have : at0 (cs ++ [c]) j = c := by unfold at0; rw [List.getElem?_append_right (by rw [HCL.out]; omega), HCL.out]; simp
            rw [this]
            exact HX.out
          · have : at0 (cs ++ [c]) j = at0 cs j := by unfold at0; rw [List.getElem?_append_left (by rw [HCL.out]; omega)]
            rw [this]
            exact hhx j (by omega)
        · have e : (pz ++ [92, 117] ++ (cs ++ [c])).map (Value.int .u8) = (pz ++ [92, 117] ++ cs).map (Value.int .u8) ++ [Value.int .u8 c] := by simp
          rw [e]
          exact hown6
      case measure => simp [intOf]; omega
    · obtain rfl : k = 4 := by omega
      have hs9 := hs2.below hbel
      have hcl := HCL.out
      go_wp2_with (first
        | (at_builtin; refine wpList_append_fits_any _ rfl _ _ 22 rfl w2.heap.size 5 i0 1 Try.underlying22 hi hz1 w2.heap.size (L + 6) (L + 6 + M) _ rfl hown a3' M c3' (sz.map (Value.int .u8)) rfl (by simp [HSL.out]) hs9.1 (BsAt.news hs9 HSL.out) (ints_oneCell .u8 sz) (by omega) ?_; intro w7 hown7 hg7))
      obtain ⟨f0, f1, f2⟩ := full_cells hown7 HPL.out HCL.out
      have hz := zescape w2.heap.size L (L + 6 + M) (L + 6 + M) (at0 cs) (dig u) w7 (by omega) (Nat.le_refl _) (by omega) f0 f1 f2 hhx
      rw [val_dig u hu0 hu1] at hz
      refine hz.mono ?_
      rintro e w' ⟨rfl, rfl⟩
      have hb7 := grown_below_at hbel hg7 (Nat.le_refl _)
      clear hz f0 f1 f2 hown7 hown hcl
      go_wp2
      go_ret
      exact ⟨rfl, hb12.trans (hb7.mono hb12.size)⟩

theorem uni_early (a0 a3 : Option Addr) (L M cap0 cap3 : Nat) (u m : Int) (w : World) (h1 : L ≤ maxLen) (h2 : M ≤ maxLen) (h : ¬ (L ≤ 524288 ∧ M ≤ 524288)) :
    Calls Try.prog 6 #[.slice a0 L cap0, .int .u16 u, .int .u8 m, .slice a3 M cap3] w fun e w' => e = .returned (.bool true) ∧ Below w.heap.size w w' := by
  unfold maxLen at h1 h2
  by_cases c1 : 1048576 < L
  · clear h; go_enter Try.func6, Try.ntmps6; go_wp2; go_ret; exact ⟨rfl, Below.refl _ _⟩
  by_cases c2 : 1048576 < M
  · clear h; go_enter Try.func6, Try.ntmps6; go_wp2; go_ret; exact ⟨rfl, Below.refl _ _⟩
  by_cases c3 : 1048576 < L + M
  · clear h; go_enter Try.func6, Try.ntmps6; go_wp2; go_ret; exact ⟨rfl, Below.refl _ _⟩
  by_cases c4 : 524288 < L
  · clear h; go_enter Try.func6, Try.ntmps6; go_wp2; go_ret; exact ⟨rfl, Below.refl _ _⟩
  have c5 : 524288 < M := by omega
  clear h
  go_enter Try.func6, Try.ntmps6
  go_wp2
  go_ret
  exact ⟨rfl, Below.refl _ _⟩
end Go.Proofs.Qxb6601484a
