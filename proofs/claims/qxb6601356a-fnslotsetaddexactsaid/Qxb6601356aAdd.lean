/-
  (*slotSet).add (13) through ZZSlotSetAdd (9), and the three other little ones (8, 10, 11): their contracts.
-/
import Derived.Test.Qxb6601356aClone
import Derived.Test.Qxb6601356aBits
import Derived.Maps.OwnSet
namespace Go.Proofs.Qxb6601356a
open Go.RowKit Go.Deep Go.Maps

theorem law3 : Keyed Try.prog 3 := int_keyed Try.underlying3
theorem zero4 (w : World) : (zeroValue 4).run Try.prog w = .ok (.bool false) w := by kernel_rfl
theorem eqNilMap (w : World) (r : Option Nat) : (binOp .eql 28 (.map r) (.map none)).run Try.prog w = .ok (.bool r.isNone) w := run_eql_map_nil w _ _ _ r Try.underlying28

/-- block sb is the set: its low bits, its map -/
def IsSet (w : World) (sb : Nat) (low : Int) (m : Option Nat) : Prop := w.rowIs sb 38 2 (fun i => if i = 0 then .int .u64 low else .map m)

/-- but for the set's block and its map's, all that was there is as it was -/
structure KeptBut2 (w w' : World) (sb : Nat) (m : Option Nat) : Prop where
  os : w'.os = w.os
  tape : w'.tape = w.tape
  output : w'.output = w.output
  size : w.heap.size ≤ w'.heap.size
  block : ∀ k, k < w.heap.size → k ≠ sb → some k ≠ m → w'.heap[k]? = w.heap[k]?

theorem KeptBut2.refl (w : World) (sb : Nat) (m : Option Nat) : KeptBut2 w w sb m := ⟨rfl, rfl, rfl, Nat.le_refl _, fun _ _ _ _ => rfl⟩

theorem plainElem_bool_inv {H : Type} {v : Value} {z : DataW H × List MemPlace} (h : plainElem Try.prog 4 v = some z) : ∃ x, v = .bool x ∧ z = (.lit (.bool x), []) := by
  unfold plainElem at h
  rw [Try.underlying4] at h
  cases v <;> simp at h
  exact ⟨_, rfl, h.symm⟩

theorem look {H : Type} {w : World} {b n : Nat} {D : DataW H} (h : w.ownsMap Try.prog 3 (plainElem Try.prog 4) b n D) {v : Int} (hwv : (Lit.int .i64 v).wf = true) {x : Bool} (hx : D.atKey (.int .i64 v) (.lit (.bool false)) = .lit (.bool x)) :
    (Instr.lookup 28 (.map (some b)) (.int .i64 v) false).run Try.prog w = .ok (.bool x) w := by
  obtain ⟨u, ps, hrun, hu⟩ := h.lookup law3 Try.underlying28 (zero4 w) (plainElem_bool Try.underlying4 false) (keyOf_int_mk Try.underlying3 hwv)
  obtain ⟨y, rfl, hy⟩ := plainElem_bool_inv hu
  rw [hx] at hy
  simp only [Prod.mk.injEq, DataW.lit.injEq, Lit.bool.injEq] at hy
  rw [hy.1]
  exact hrun

theorem look_nil {w : World} {v : Int} (hwv : (Lit.int .i64 v).wf = true) : (Instr.lookup 28 (.map none) (.int .i64 v) false).run Try.prog w = .ok (.bool false) w := by
  have := Maps.look_nil (w := w) false law3 Try.underlying28 (zero4 _) (keyOf_int_mk Try.underlying3 hwv)
  simpa using this

theorem set_ne_map {H : Type} {w : World} {sb bm n : Nat} {low : Int} {m : Option Nat} {D : DataW H} (h : IsSet w sb low m) (hown : w.ownsMap Try.prog 3 (plainElem Try.prog 4) bm n D) : sb ≠ bm := by
  intro e
  subst e
  obtain ⟨c, hb, _⟩ := h
  obtain ⟨es, clock, hb2, _⟩ := hown
  rw [hb] at hb2
  cases hb2

theorem newSet (low : Int) (m : Option Nat) (w : World) : Calls Try.prog 8 #[.int .u64 low, .map m] w fun e w' => e = .returned (.pointer (some ⟨w.heap.size, 0, none⟩)) ∧ IsSet w' w.heap.size low m ∧ Below w.heap.size w w' ∧ w'.heap.size = w.heap.size + 1 := by
  go_enter Try.func8, Try.ntmps8
  go_wp2
  go_ret
  refine ⟨rfl, ?_, (Below.refl _ _).alloc (Nat.le_refl _) _, by simp⟩
  exact World.rowIs_alloc w #[.int .u64 low, .map m] 38 _ (fun i hi => by
    match i, hi with
    | 0, _ => rfl
    | 1, _ => rfl)

theorem getLow (sb : Nat) (low : Int) (m : Option Nat) (w : World) (h : IsSet w sb low m) : Calls Try.prog 10 #[.pointer (some ⟨sb, 0, none⟩)] w fun e w' => e = .returned (.int .u64 low) ∧ w = w' := by
  have c0 := h.cell (i := 0) (by omega)
  have c1 := h.cell (i := 1) (by omega)
  go_enter Try.func10, Try.ntmps10
  go_wp2
  go_ret
  exact ⟨rfl, rfl⟩

theorem getHigh (sb : Nat) (low : Int) (m : Option Nat) (w : World) (h : IsSet w sb low m) : Calls Try.prog 11 #[.pointer (some ⟨sb, 0, none⟩)] w fun e w' => e = .returned (.map m) ∧ w = w' := by
  have c0 := h.cell (i := 0) (by omega)
  have c1 := h.cell (i := 1) (by omega)
  go_enter Try.func11, Try.ntmps11
  go_wp2
  go_ret
  exact ⟨rfl, rfl⟩

theorem add_low_old (sb : Nat) (low v : Int) (m : Option Nat) (w : World) (h : IsSet w sb low m) (h0 : 0 ≤ v) (h64 : v < 64) (hb : hasBit low v = true) :
    Calls Try.prog 9 #[.pointer (some ⟨sb, 0, none⟩), .int .i64 v] w fun e w' => e = .returned (.bool false) ∧ w = w' := by
  have c0 := h.cell (i := 0) (by omega)
  simp only [if_true] at c0
  unfold hasBit at hb
  go_enter Try.func9, Try.ntmps9
  go_wp2
  go_ret
  exact ⟨rfl, rfl⟩

theorem add_low_new (sb : Nat) (low v : Int) (m : Option Nat) (w : World) (h : IsSet w sb low m) (h0 : 0 ≤ v) (h64 : v < 64) (hb : hasBit low v = false) :
    Calls Try.prog 9 #[.pointer (some ⟨sb, 0, none⟩), .int .i64 v] w fun e w' => e = .returned (.bool true) ∧ IsSet w' sb (orBit low v) m ∧ KeptBut2 w w' sb none ∧ w'.heap.size = w.heap.size := by
  have c0 := h.cell (i := 0) (by omega)
  simp only [if_true] at c0
  have f0 := h.frozen 0
  unfold hasBit at hb
  go_enter Try.func9, Try.ntmps9
  go_wp2
  go_ret
  refine ⟨rfl, ?_, ⟨rfl, rfl, rfl, by simp [World.setCell], fun k hk hs _ => Below.heap_setCell _ _ _ _ hs⟩, by simp [World.setCell]⟩
  refine (World.rowIs.set h 0 _).congr fun i hi => ?_
  by_cases e : i = 0
  · simp [e, orBit]
  · simp [e]

theorem add_high_old {H : Type} (sb bm n : Nat) (D : DataW H) (low v : Int) (w : World) (h : IsSet w sb low (some bm)) (hown : w.ownsMap Try.prog 3 (plainElem Try.prog 4) bm n D) (h64 : ¬ v < 64) (hwv : (Lit.int .i64 v).wf = true)
    (hat : D.atKey (.int .i64 v) (.lit (.bool false)) = .lit (.bool true)) :
    Calls Try.prog 9 #[.pointer (some ⟨sb, 0, none⟩), .int .i64 v] w fun e w' => e = .returned (.bool false) ∧ w = w' := by
  have c1 := h.cell (i := 1) (by omega)
  simp at c1
  have hl := look hown hwv hat
  clear hat
  go_enter Try.func9, Try.ntmps9
  go_wp2
  go_ret
  exact ⟨rfl, rfl⟩

theorem add_high_new {H : Type} (sb bm n : Nat) (D : DataW H) (low v : Int) (w : World) (h : IsSet w sb low (some bm)) (hown : w.ownsMap Try.prog 3 (plainElem Try.prog 4) bm n D) (hn : n < maxLen) (h64 : ¬ v < 64) (hwv : (Lit.int .i64 v).wf = true)
    (hat : D.atKey (.int .i64 v) (.lit (.bool false)) = .lit (.bool false)) :
    Calls Try.prog 9 #[.pointer (some ⟨sb, 0, none⟩), .int .i64 v] w fun e w' => e = .returned (.bool true) ∧ IsSet w' sb low (some bm) ∧ w'.ownsMap Try.prog 3 (plainElem Try.prog 4) bm (n + 1) (D.put (.int .i64 v) (.lit (.bool true))) ∧ KeptBut2 w w' sb (some bm) ∧ w.heap.size ≤ w'.heap.size := by
  have c1 := h.cell (i := 1) (by omega)
  simp at c1
  have hl := look hown hwv hat
  have hq := eqNilMap w
  have hkey := keyOf_int_mk Try.underlying3 hwv
  clear hat
  go_enter Try.func9, Try.ntmps9
  go_wp2_with (first
    | (at_mapUpdate; refine wpList_mapUpdate_in _ rfl _ _ _ 28 rfl 3 4 law3 Try.underlying28 _ bm n D rfl hown hn _ _ _ rfl rfl hkey _ [] (plainElem_bool Try.underlying4 true) ?_; intro w1 hown1 hturn1)
    | go_in)
  go_ret
  have hg := hturn1.grown
  have hne := set_ne_map h hown
  exact ⟨rfl, World.rowIs.of_block h (hg.block sb (World.rowIs.lt h) (by simp; omega)), hown1, ⟨hg.os, hg.tape, hg.output, hg.size, fun k hk _ hm => hg.block k hk hm⟩, hg.size⟩

theorem add_high_first (sb : Nat) (low v : Int) (w : World) (h : IsSet w sb low none) (h64 : ¬ v < 64) (hwv : (Lit.int .i64 v).wf = true) :
    Calls Try.prog 9 #[.pointer (some ⟨sb, 0, none⟩), .int .i64 v] w fun e w' => e = .returned (.bool true) ∧ IsSet w' sb low (some w.heap.size) ∧
      w'.ownsMap (H := Unit) Try.prog 3 (plainElem Try.prog 4) w.heap.size 1 ((DataW.map []).put (.int .i64 v) (.lit (.bool true))) ∧ KeptBut2 w w' sb none ∧ w.heap.size + 1 ≤ w'.heap.size := by
  have c1 := h.cell (i := 1) (by omega)
  simp at c1
  have f1 := h.frozen 1
  have hl := look_nil (w := w) hwv
  have hq := eqNilMap w
  have hmm := @run_makeMap Try.prog
  have hkey := keyOf_int_mk Try.underlying3 hwv
  have hlt := World.rowIs.lt h
  have esz : (w.setCell ⟨sb, 1, none⟩ (.map (some w.heap.size))).heap.size = w.heap.size := by simp [World.setCell]
  have hown := World.ownsMap_made (H := Unit) (w.setCell ⟨sb, 1, none⟩ (.map (some w.heap.size))) Try.prog 3 (plainElem Try.prog 4)
  rw [esz] at hown
  clear esz
  go_enter Try.func9, Try.ntmps9
  go_wp2_with (first
    | (at_mapUpdate; refine wpList_mapUpdate_own _ rfl _ _ _ 28 rfl 3 4 law3 Try.underlying28 _ w.heap.size 0 _ rfl hown (by unfold maxLen; omega) _ _ _ rfl rfl hkey _ [] (plainElem_bool Try.underlying4 true) ?_; intro w1 hown1 hg1)
    | go_in)
  go_ret
  have hs := hg1.size
  simp [World.setCell] at hs
  refine ⟨rfl, ?_, hown1, ⟨hg1.os, hg1.tape, hg1.output, by omega, fun k hk h1 _ => ?_⟩, by omega⟩
  · have h2 : IsSet ((w.setCell ⟨sb, 1, none⟩ (.map (some w.heap.size))).alloc (.map #[] 0)) sb low (some w.heap.size) := by
      refine World.rowIs.alloc ((World.rowIs.set h 1 _).congr fun i hi => ?_) _
      match i, hi with
      | 0, _ => rfl
      | 1, _ => rfl
    exact World.rowIs.of_block h2 (hg1.block sb (World.rowIs.lt h2) (by simp; omega))
  · rw [hg1.block k (by simp [World.setCell]; omega) (by simp; omega), Below.heap_alloc _ _ _ (by simp [World.setCell]; omega), Below.heap_setCell _ _ _ _ h1]
end Go.Proofs.Qxb6601356a
