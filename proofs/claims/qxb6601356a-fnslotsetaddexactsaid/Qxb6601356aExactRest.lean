/-
  FnSlotSetAddExact (3): the walks where no map is laid, and where the law answers at once.
-/
import Derived.Test.Qxb6601356aExact
namespace Go.Proofs.Qxb6601356a
open Go.RowKit Go.Deep Go.Maps
set_option linter.unusedVariables false

set_option maxHeartbeats 1600000 in
set_option maxRecDepth 100000 in
theorem exact_nil_lo (low slot : Int) (a2 : Option Addr) (cap2 : Nat) (w : World) (hs0 : 0 ≤ slot) (hlow : Fits low) (hy : BoolsAt w a2 0 cap2 []) (h64 : slot < 64) :
    Calls Try.prog 3 #[.int .u64 low, .slice none 0 0, .slice a2 0 cap2, .int .i64 slot] w fun e w' => e = .returned (.bool true) ∧ Below w.heap.size w w' := by
  have hq := eqNil23
  have hqm := eqNilMap
  have hln := fun w => Maps.len_nil (w := w) (P := Try.prog) (t := 28) Try.underlying28
  obtain ⟨bf, hbf⟩ : ∃ bf, (bits .and .u64 (low / 2 ^ slot.toNat) 1 == 1) = bf := ⟨_, rfl⟩
  have hbit := (shrBit hlow hs0 h64).trans hbf
  go_enter Try.func3, Try.ntmps3
  go_wp2_with (first
    | (go_at_call 5; go_in)
    | (go_at_call 6; refine (cloneInts_nil _).mono ?_; rintro e w1 ⟨rfl, rfl⟩)
    | (go_at_call 7; refine (cloneBools_ex a2 0 cap2 [] _ (by omega) hy).mono ?_; rintro e w2 ⟨a', c', rfl, hV, hb2⟩)
    | (go_at_call 8; refine (newSet_ex _ _ _).mono ?_; rintro e w5 ⟨sb, rfl, hsb, hset, hb5⟩)
    | (go_at_call 9; refine (add_lo sb low slot _ _ hset hlow hs0 h64 bf hbit).mono ?_; rintro e w6 ⟨rfl, hset6, hk6⟩)
    | (go_at_call 10; refine (getLow _ _ _ _ hset6).mono ?_; rintro e w' ⟨rfl, rfl⟩)
    | (go_at_call 11; refine (getHigh _ _ _ _ hset6).mono ?_; rintro e w' ⟨rfl, rfl⟩))
  refine wp_loop_rounds 1 ?_
  rw [rounds_succ]
  go_wp2
  go_ret
  have hs := hb2.size
  exact ⟨rfl, hk6.below (hb2.trans (hb5.mono hs)) (by omega) (by simp)⟩

set_option maxHeartbeats 1600000 in
set_option maxRecDepth 100000 in
theorem exact_nil_hi (low slot : Int) (a2 : Option Addr) (cap2 : Nat) (w : World) (hs0 : 0 ≤ slot) (hy : BoolsAt w a2 0 cap2 []) (h64 : ¬ slot < 64) (hws : (Lit.int .i64 slot).wf = true) :
    Calls Try.prog 3 #[.int .u64 low, .slice none 0 0, .slice a2 0 cap2, .int .i64 slot] w fun e w' => e = .returned (.bool true) ∧ Below w.heap.size w w' := by
  have hq := eqNil23
  have hqm := eqNilMap
  have hln := fun w => Maps.len_nil (w := w) (P := Try.prog) (t := 28) Try.underlying28
  have hl0 := fun w => look_nil (w := w) hws
  have hl1 : ∀ w, (Instr.lookup 28 (.map none) (.int .i64 slot) true).run Try.prog w = .ok (.tuple #[.bool false, .bool false]) w := fun w => by
    have := Maps.look_nil (w := w) true law3 Try.underlying28 (zero4 _) (keyOf_int_mk Try.underlying3 hws)
    simpa using this
  go_enter Try.func3, Try.ntmps3
  go_wp2_with (first
    | (go_at_call 5; go_in)
    | (go_at_call 6; refine (cloneInts_nil _).mono ?_; rintro e w1 ⟨rfl, rfl⟩)
    | (go_at_call 7; refine (cloneBools_ex a2 0 cap2 [] _ (by omega) hy).mono ?_; rintro e w2 ⟨a', c', rfl, hV, hb2⟩)
    | (go_at_call 8; refine (newSet_ex _ _ _).mono ?_; rintro e w5 ⟨sb, rfl, hsb, hset, hb5⟩)
    | (go_at_call 9; refine (add_high_first sb low slot _ hset (by omega) hws).mono ?_; rintro e w6 ⟨rfl, hset6, hown6, hk6, hsz6⟩)
    | (go_at_call 10; refine (getLow _ _ _ _ hset6).mono ?_; rintro e w' ⟨rfl, rfl⟩)
    | (go_at_call 11; refine (getHigh _ _ _ _ hset6).mono ?_; rintro e w' ⟨rfl, rfl⟩))
  have hl2 := look hown6 hws (atKey_put_same isMap_empty (key_lit _) _ _)
  have hn1 := hown6.len (t := 28) Try.underlying28
  rw [size_put tidy_empty, show has (DataW.map ([] : List (Lit × DataW Unit))) (.int .i64 slot) = false from rfl, if_neg (by simp), show Maps.size (DataW.map ([] : List (Lit × DataW Unit))) = 0 from rfl] at hn1
  refine wp_loop_rounds 1 ?_
  rw [rounds_succ]
  go_wp2
  go_ret
  have hs := hb2.size
  exact ⟨rfl, hk6.below (hb2.trans (hb5.mono hs)) (by omega) (by simp)⟩

set_option maxHeartbeats 1600000 in
set_option maxRecDepth 100000 in
theorem exact_early (low slot : Int) (a1 a2 : Option Addr) (len1 len2 cap1 cap2 : Nat) (w : World) (h1 : len1 ≤ maxLen) (h2 : len2 ≤ maxLen) (h : ¬ (len1 ≤ 65536 ∧ len2 ≤ 65536 ∧ len1 = len2 ∧ 0 ≤ slot)) :
    Calls Try.prog 3 #[.int .u64 low, .slice a1 len1 cap1, .slice a2 len2 cap2, .int .i64 slot] w fun e w' => e = .returned (.bool true) ∧ Below w.heap.size w w' := by
  unfold maxLen at h1 h2
  by_cases c1 : 1048576 < len1
  · clear h; go_enter Try.func3, Try.ntmps3; go_wp2; go_ret; exact ⟨rfl, Below.refl _ _⟩
  by_cases c2 : 1048576 < len2
  · clear h; go_enter Try.func3, Try.ntmps3; go_wp2; go_ret; exact ⟨rfl, Below.refl _ _⟩
  by_cases c3 : 1048576 < len1 + len2
  · clear h; go_enter Try.func3, Try.ntmps3; go_wp2; go_ret; exact ⟨rfl, Below.refl _ _⟩
  by_cases c4 : 65536 < len1
  · have hd : decide ((65536 : Int) < (len1 : Int)) = true := by simpa using (by omega : (65536 : Int) < len1)
    clear h; go_enter Try.func3, Try.ntmps3; go_wp2; go_ret; exact ⟨rfl, Below.refl _ _⟩
  have hd : decide ((65536 : Int) < (len1 : Int)) = false := by simpa using (by omega : (len1 : Int) ≤ 65536)
  by_cases c5 : 65536 < len2
  · clear h; go_enter Try.func3, Try.ntmps3; go_wp2; go_ret; exact ⟨rfl, Below.refl _ _⟩
  by_cases c6 : len1 = len2
  · have c7 : slot < 0 := by
      by_cases h7 : slot < 0
      · exact h7
      · exact absurd ⟨by omega, by omega, c6, by omega⟩ h
    subst c6
    clear h; go_enter Try.func3, Try.ntmps3; go_wp2; go_ret; exact ⟨rfl, Below.refl _ _⟩
  · have hne : ((len2 : Int) != (len1 : Int)) = true := by simp; omega
    clear h c6; go_enter Try.func3, Try.ntmps3; go_wp2; go_ret; exact ⟨rfl, Below.refl _ _⟩
end Go.Proofs.Qxb6601356a
