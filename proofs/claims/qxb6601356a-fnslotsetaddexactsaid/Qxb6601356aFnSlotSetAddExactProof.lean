/-
  THE PROOF OF 'Rows.FnSlotSetAddExactSaid': the frame typed after the shells of the seat (a []bool among the parameters: by 'open_bools'), the walks out of ExactRest.
-/
import Derived.Test.Qxb6601356aRows
import Derived.Test.Qxb6601356aExactRest
import Derived.Deep.Grids
import Derived.WalkKit
import Derived.ProofKit
import Derived.OpenShut
import Derived.ShutString
import Derived.ChangeOld
import Derived.Below
namespace Go.Proofs.Qxb6601356a.fnSlotSetAddExact
open Go.ChangeShapes Go.WideShapes Go.ChangeAt Go.RowKit
set_option linter.unusedVariables false

theorem own : ownKnob Try.prog.godebug = none := by kernel_rfl
theorem laidOut : laidOutB Try.prog = true := by kernel_rfl

def IsRow (k : IntKind) (w : World) (a : Option Addr) (len cap : Nat) (zs : List Int) : Prop :=
  (a = none ∧ len = 0 ∧ cap = 0 ∧ zs = []) ∨
  ∃ x, a = some x ∧ len ≤ cap ∧ cap ≤ maxLen ∧ zs.length = cap ∧ (∀ i, i < zs.length → w.cell? (x.add i) = some (.int k (zs.getD i 0))) ∧ ∀ n ∈ zs, (Lit.int k n).wf = true

/-- the same of a slice of bools -/
def IsBools (w : World) (a : Option Addr) (len cap : Nat) (B : Nat → Bool) : Prop :=
  (a = none ∧ len = 0 ∧ cap = 0) ∨ ∃ x, a = some x ∧ len ≤ cap ∧ cap ≤ maxLen ∧ ∀ i, i < cap → w.cell? (x.add i) = some (.bool (B i))

theorem cell_lt {w : World} {a : Addr} {v : Value} (h : w.cell? a = some v) : a.block < w.heap.size := by
  by_cases hb : a.block < w.heap.size
  · exact hb
  · simp [World.cell?, Array.getElem?_eq_none (Nat.le_of_not_lt hb)] at h

theorem at_add {w : World} {x : Addr} {j : Nat} {v : Value} (h : w.cell? (x.add j) = some v) (hs : x.spot = none) : w.cell? ⟨x.block, x.off + j, none⟩ = some v := by
  obtain ⟨b, off, spot⟩ := x
  obtain rfl : spot = none := hs
  rw [add_plain] at h
  exact h

theorem spot_of {w : World} {x : Addr} {v : Value} (h : w.cell? (x.add 0) = some v) : x.spot = none ∧ x.block < w.heap.size := by
  have e : x.add 0 = x := by simp [Addr.add]
  rw [e] at h
  exact ⟨World.cell?_spot h, cell_lt h⟩

theorem bools_at {w : World} {a : Option Addr} {len cap : Nat} {B : Nat → Bool} (h : IsBools w a len cap B) : BoolsAt w a len cap ((List.range cap).map B) := by
  rcases h with ⟨rfl, rfl, rfl⟩ | ⟨x, rfl, hl, hm, hc⟩
  · exact ⟨fun _ => ⟨rfl, rfl⟩, fun x hx => by cases hx⟩
  · refine ⟨fun h => (by cases h), fun y hy => ?_⟩
    cases hy
    refine ⟨fun h0 => spot_of (hc 0 (by omega)), fun j hj => ?_⟩
    have h1 := at_add (hc j (by omega)) (spot_of (hc 0 (by omega))).1
    rw [h1]
    simp [List.getElem?_range (show j < cap by omega)]

theorem len_le {k : IntKind} {w : World} {a : Option Addr} {len cap : Nat} {zs : List Int} (h : IsRow k w a len cap zs) : len ≤ maxLen := by
  rcases h with ⟨_, rfl, _, _⟩ | ⟨x, _, h1, h2, _⟩
  · unfold maxLen; omega
  · omega
theorem lenB_le {w : World} {a : Option Addr} {len cap : Nat} {B : Nat → Bool} (h : IsBools w a len cap B) : len ≤ maxLen := by
  rcases h with ⟨_, rfl, _⟩ | ⟨x, _, h1, h2, _⟩
  · unfold maxLen; omega
  · omega

/-! ### STEP 1: THE WALK -/
theorem walk (a0 : Int) (a1 : Option Addr) (len1 cap1 : Nat) (z1 : List Int) (a2 : Option Addr) (len2 cap2 : Nat) (B2 : Nat → Bool) (a3 : Int) (w : World) (w0 : (Lit.int .u64 a0).wf = true) (w1 : IsRow .i64 w a1 len1 cap1 z1) (w2 : IsBools w a2 len2 cap2 B2) (w3 : (Lit.int .i64 a3).wf = true) :
    Calls Try.prog 3 #[.int .u64 a0, .slice a1 len1 cap1, .slice a2 len2 cap2, .int .i64 a3] w fun e w' => e = .returned (.bool true) ∧ Below w.heap.size w w' := by
  by_cases h : len1 ≤ 65536 ∧ len2 ≤ 65536 ∧ len1 = len2 ∧ 0 ≤ a3
  · obtain ⟨g1, g2, rfl, g3⟩ := h
    have hB := bools_at w2
    have hf : Fits a0 := by
      have := bounds_u64 w0
      unfold Fits
      omega
    rcases w1 with ⟨rfl, rfl, rfl, rfl⟩ | ⟨x, rfl, hl, hm2, hz, hc, hw⟩
    · have hB0 : BoolsAt w a2 0 cap2 [] := ⟨hB.1, fun x hx => ⟨(hB.2 x hx).1, fun j hj => by omega⟩⟩
      by_cases h64 : a3 < 64
      · exact exact_nil_lo a0 a3 a2 cap2 w g3 hf hB0 h64
      · exact exact_nil_hi a0 a3 a2 cap2 w g3 hB0 h64 w3
    · refine exact_some a0 a3 x a2 len1 cap1 cap2 z1 _ w g1 g3 hf (fun h0 => spot_of (hc 0 (by omega))) (fun j hj => ?_) hB (fun j => ?_) w3
      · have h1 := at_add (hc j (by omega)) (spot_of (hc 0 (by omega))).1
        rw [h1, List.getD_eq_getElem?_getD]
      · by_cases hj : j < z1.length
        · rw [List.getElem?_eq_getElem hj]
          exact hw _ (List.getElem_mem hj)
        · rw [List.getElem?_eq_none (by omega)]
          decide
  · exact exact_early a0 a3 a1 a2 len1 len2 cap1 cap2 w (len_le w1) (lenB_le w2) h

/-! ### THE ROW's STEP -/
set_option maxRecDepth 100000 in
theorem lifted (os : Os) (started : os.Started) (H : Type) (enc : TypeId × Value → H) :
    ReturnsInHanded {} Try.checked os 3 .any (Rows.fnSlotSetAddExactSpec.pre6 enc Try.prog Try.f3 Rows.fnSlotSetAddExactRow.domain false) (Rows.fnSlotSetAddExactSpec.post enc Try.prog Try.f3 false true false false) := by
  refine returnsInHanded_of_change (C := Try.checked) own started (by kernel_rfl) Try.func3
    (ChangeSpec.witness6 (enc := enc) (C := Try.checked) false ⟨#[], #[.int .u64 0, .slice none 0 0, .slice none 0 0, .int .i64 0], []⟩ 8 (by kernel_rfl) (by kernel_rfl) (by kernel_rfl) (by kernel_rfl)) ?_
  intro W base args ds gs before hval0 hW hcnd _
  have hval : ∀ (j : Nat) t v, Try.f3.params[j]? = some t → args[j]? = some v → Value.okWide Try.prog W .any base t v := hval0
  have hW' := hW
  obtain ⟨p, q, hA0, hV, rfl, hfz, hnd⟩ := hW
  have hA : DataW.TrodAll enc Try.prog W 0 (fun _ => true) true Try.f3.params.toList args.toList ds p := hA0
  rw [Try.params3] at hA hval
  obtain ⟨v0, vs0, d0, ds0, p0, q0, hargs, rfl, rfl, h0, r0⟩ := trodAll_cons hA
  obtain ⟨v1, vs1, d1, ds1, p1, q1, rfl, rfl, rfl, h1, r1⟩ := trodAll_cons r0
  obtain ⟨v2, vs2, d2, ds2, p2, q2, rfl, rfl, rfl, h2, r2⟩ := trodAll_cons r1
  obtain ⟨v3, vs3, d3, ds3, p3, q3, rfl, rfl, rfl, h3, r3⟩ := trodAll_cons r2
  obtain ⟨rfl, rfl, rfl⟩ := trodAll_nil r3
  obtain rfl : args = #[v0, v1, v2, v3] := by cases args; simp_all
  obtain ⟨rfl, rfl⟩ := trodVars_none hV
  obtain ⟨a0, rfl, rfl, rfl, w0⟩ := open_int Try.underlying22 (hval 0 22 v0 rfl rfl) h0
  obtain ⟨a1, len1, cap1, rfl⟩ := okWide_slice Try.underlying23 (hval 1 23 v1 rfl rfl)
  have k1 := h1
  have lt1 : ∀ x ∈ p1, x.block < W.heap.size := by obtain ⟨m, hm⟩ := k1; exact DataW.trod_lt m _ _ _ hm
  obtain ⟨z1, w1⟩ : ∃ zs, IsRow .i64 W a1 len1 cap1 zs := by
    obtain ⟨fuel, hf⟩ := h1
    rcases open_ints Try.underlying23 Try.underlying3 (by kernel_rfl) hf with ⟨hcs, _⟩ | ⟨x, l, c, zs, hcs, _, hl, hm, hz, _, hcell, hwz⟩
    · simp [Value.cells] at hcs
      obtain ⟨rfl, rfl, rfl⟩ := hcs
      exact ⟨[], .inl ⟨rfl, rfl, rfl, rfl⟩⟩
    · simp [Value.cells] at hcs
      obtain ⟨rfl, rfl, rfl⟩ := hcs
      exact ⟨zs, .inr ⟨_, rfl, hl, hm, by simpa using hz, hcell, hwz⟩⟩
  obtain ⟨a2, len2, cap2, rfl⟩ := okWide_slice Try.underlying24 (hval 2 24 v2 rfl rfl)
  have k2 := h2
  have lt2 : ∀ x ∈ p2, x.block < W.heap.size := by obtain ⟨m, hm⟩ := k2; exact DataW.trod_lt m _ _ _ hm
  obtain ⟨B2, w2⟩ : ∃ B, IsBools W a2 len2 cap2 B := by
    obtain ⟨fuel, hf⟩ := h2
    rcases Deep.open_bools Try.underlying24 Try.underlying4 (by kernel_rfl) hf with ⟨hcs, _⟩ | ⟨x, l, c, B, hcs, _, hl, hm, _, hcell⟩
    · simp [Value.cells] at hcs
      obtain ⟨rfl, rfl, rfl⟩ := hcs
      exact ⟨fun _ => false, .inl ⟨rfl, rfl, rfl⟩⟩
    · simp [Value.cells] at hcs
      obtain ⟨rfl, rfl, rfl⟩ := hcs
      exact ⟨B, .inr ⟨_, rfl, hl, hm, hcell⟩⟩
  obtain ⟨a3, rfl, rfl, rfl, w3⟩ := open_int Try.underlying3 (hval 3 3 v3 rfl rfl) h3
  clear hA0 hval0
  refine (walk a0 a1 len1 cap1 z1 a2 len2 cap2 B2 a3 W w0 w1 w2 w3).mono fun e W' ⟨he, bel⟩ => ?_
  subst he
  exact ⟨_, rfl, _, _, _, [], _, [], hW', trodAll_mk1 (shut_bool Try.underlying4 _), (trodAll_cons_mk (shut_int Try.underlying22 w0) (trodAll_cons_mk (Below.trod laidOut (by kernel_rfl) (of_decide_eq_true (by kernel_rfl)) k1 bel lt1) (trodAll_cons_mk (Below.trod laidOut (by kernel_rfl) (of_decide_eq_true (by kernel_rfl)) k2 bel lt2) (trodAll_cons_mk (shut_int Try.underlying3 w3) trodAll_mk0)))), rfl, bel.frame _, fun h => by cases h⟩

theorem over : Rows.fnSlotSetAddExactRow.holds Try.pinned (OpenSpec.ofChange Rows.fnSlotSetAddExactSpec) :=
  OpenClaim.holds_of_wide 3 Try.f3 rfl rfl rfl rfl rfl rfl rfl ⟨rfl, rfl, rfl, rfl, rfl⟩ rfl rfl rfl rfl rfl (by kernel_rfl) Try.func3 (by kernel_rfl)
    (of_decide_eq_true (by kernel_rfl)) (by unfold Func.isWrapper; first | (rw [if_pos (by decide +kernel)]; kernel_rfl) | (rw [if_neg (by decide +kernel)]; exact ⟨rfl, rfl⟩))
    (fun os started H enc _ => lifted os started H enc)

/-- ████ THE STATEMENT ████ -/
theorem proved : Rows.FnSlotSetAddExactSaid := over
#print axioms proved
end Go.Proofs.Qxb6601356a.fnSlotSetAddExact
