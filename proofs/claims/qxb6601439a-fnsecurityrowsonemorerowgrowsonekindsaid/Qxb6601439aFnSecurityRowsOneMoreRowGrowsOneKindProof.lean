/-
  THE SHELL OF A PROOF OF 'Rows.FnSecurityRowsOneMoreRowGrowsOneKindSaid' ('example.com/tuoguan/tuoguan/zzlaws_pkg_demo_b1.FnSecurityRowsOneMoreRowGrowsOneKind'), WRITTEN BY PROGRAM (proof-skeleton.mjs, third state) off the guide's own print for that function. Not trusted: Lean checks it.
  THE WALK IS FILLED IN. ALL ELSE IS THE GUIDE's OWN WAY (howto/template/XProofs.lean; Derived/Test/ChunkProofs.lean for 'Below') at this function's number and types: leave it.
-/
import Derived.Test.Qxb6601439aRows
import Derived.Test.Qxb6601439aOne
import Derived.Test.Qxb6601439aLaw
import Derived.WalkKit
import Derived.ProofKit
import Derived.OpenShut
import Derived.ShutString
import Derived.ChangeOld
import Derived.Below
namespace Go.Proofs.Qxb6601439a.fnSecurityRowsOneMoreRowGrowsOneKind
open Go.ChangeShapes Go.WideShapes Go.ChangeAt Go.RowKit
open Go.ChangeMaps (open_string shut_string)
set_option linter.unusedVariables false

theorem own : ownKnob Try.prog.godebug = none := by kernel_rfl
theorem laidOut : laidOutB Try.prog = true := by kernel_rfl

/-- WHAT THE WALK IS TOLD OF A SLICE OF INTEGERS THAT CAME IN: it is nil; or it leads to a row of 'cap' cells, the numbers 'zs' (the first 'len' are its elements, the rest its spare room), each fitting its kind. -/
def IsRow (k : IntKind) (w : World) (a : Option Addr) (len cap : Nat) (zs : List Int) : Prop :=
  (a = none ∧ len = 0 ∧ cap = 0 ∧ zs = []) ∨
  ∃ x, a = some x ∧ len ≤ cap ∧ cap ≤ maxLen ∧ zs.length = cap ∧ (∀ i, i < zs.length → w.cell? (x.add i) = some (.int k (zs.getD i 0))) ∧ ∀ n ∈ zs, (Lit.int k n).wf = true

/-! ### STEP 1: THE WALK: the Go text returns true, AND WRITES NOTHING THAT WAS THERE: 'Below w.heap.size w w'' (Derived/Below.lean: '.refl', '.alloc', '.drew', '.setCell' at a new block, '.trans'). Open each 'IsRow' by 'rcases' AHEAD of 'go_enter'; part every test ahead of the walk. -/
theorem walk (a0 : Option Addr) (len0 cap0 : Nat) (z0 : List Int) (a1 : Int) (w : World) (w0 : IsRow .i64 w a0 len0 cap0 z0) (w1 : (Lit.int .i64 a1).wf = true) :
    Calls Try.prog 4 #[.slice a0 len0 cap0, .int .i64 a1] w fun e w' => e = .returned (.bool true) ∧ Below w.heap.size w w' := by
  obtain ⟨hnl, hnh⟩ := bounds_i64 w1
  have hmax : len0 ≤ maxLen := by
    rcases w0 with ⟨_, rfl, _, _⟩ | ⟨x, _, h1, h2, _⟩
    · unfold maxLen; omega
    · omega
  by_cases hm : 4096 < len0
  · exact one_long a0 len0 cap0 a1 w hm hmax
  obtain ⟨ws, hwl, hA, hnil⟩ : ∃ ws : List Int, ws.length = len0 ∧ WsAt w a0 len0 ws ∧ (a0 = none → len0 = 0 ∧ cap0 = 0) := by
    rcases w0 with ⟨rfl, rfl, rfl, rfl⟩ | ⟨x, rfl, hl, hm2, hz, hc, hw⟩
    · exact ⟨[], rfl, fun h => by omega, fun _ => ⟨rfl, rfl⟩⟩
    · exact ⟨z0.take len0, by simp; omega, wsAt_of (by omega) hc, fun h => by cases h⟩
  clear w0 w1
  by_cases hd : Qxb6601439a.domB ws len0 = true
  · have hat : ∀ i, 0 ≤ Plain.at0 ws i ∧ Plain.at0 ws i ≤ 1048576 := fun i => domB_at ws (by rw [hwl]; exact hd) i
    have h0 : ∀ i, 0 ≤ Plain.at0 ws i := fun i => (hat i).1
    have h1 : ∀ i, Plain.at0 ws i ≤ 1048576 := fun i => (hat i).2
    by_cases hn : a1 < -9223372036837998592
    · exact one_low a0 len0 cap0 ws a1 w (by omega) hA hd hn
    obtain ⟨S, hS⟩ : ∃ S, Plain.sumTo (fun i => Plain.least (Plain.at0 ws i)) len0 = S := ⟨_, rfl⟩
    have hSb := Plain.sumTo_bd ws h0 h1 len0
    rw [hS] at hSb
    by_cases hM : 65536 ≤ a1 - S
    · exact one_much a0 len0 cap0 ws a1 S w (by omega) hA hd h0 h1 hS hSb.1 (by omega) (by omega) (by omega) hM
    by_cases hl0 : len0 = 0
    · subst hl0
      by_cases hn0 : 0 ≤ a1
      · have hS0 : S = 0 := by rw [← hS]; rfl
        exact one_none a0 cap0 a1 w hn0 (by omega)
      · exact one_empty a0 cap0 a1 w (fun h => (hnil h).2) (by omega) (by omega)
    by_cases hM0 : a1 - S + 1 ≤ 0
    · refine one_few a0 len0 cap0 ws _ _ a1 S w (by omega) (by omega) hwl hnil hA hd h0 h1 hS hSb.1 (by omega) (by omega) (by omega) (by omega) rfl rfl hM0 ?_
      show Plain.iter ws (a1 + 1 - S).toNat = Plain.iter ws (a1 - S).toNat
      rw [show (a1 + 1 - S).toNat = (a1 - S).toNat by omega]
    · have hbd := Plain.iter_bd ws h0 h1 (a1 - S).toNat
      have hsl := Plain.scan_lt ws (Plain.iter ws (a1 - S).toNat) ws.length (by omega)
      have hst : Plain.iter ws (a1 + 1 - S).toNat = Plain.step ws (Plain.iter ws (a1 - S).toNat) := by
        rw [show (a1 + 1 - S).toNat = (a1 - S).toNat + 1 by omega]; rfl
      refine one_more a0 len0 cap0 ws (Plain.iter ws (a1 - S).toNat) _ a1 S w (by omega) (by omega) hwl hnil hA hd h0 h1 hS hSb.1 (by omega) (by omega) (by omega) (by omega) rfl rfl (by omega)
        (Plain.scan ws (Plain.iter ws (a1 - S).toNat) ws.length) (by omega) (fun i => ⟨(hbd i).1, by have := (hbd i).2; omega⟩) ?_ ?_
      · show Plain.at0 _ _ = _
        rw [hst]
        unfold Plain.step
        rw [Plain.at0_set_same _ _ _ (by rw [Plain.iter_length]; exact hsl)]
      · show ∀ k, _ → Plain.at0 _ _ = _
        intro k hk
        rw [hst]
        unfold Plain.step
        rw [Plain.at0_set_other _ _ _ _ hk]
  · exact one_outside a0 len0 cap0 ws a1 w (by omega) hA (by simpa using hd)

/-! ### THE ROW's STEP: WRITTEN OUT: LEAVE IT -/
set_option maxRecDepth 100000 in
theorem lifted (os : Os) (started : os.Started) (H : Type) (enc : TypeId × Value → H) :
    ReturnsInHanded {} Try.checked os 4 .any (Rows.fnSecurityRowsOneMoreRowGrowsOneKindSpec.pre6 enc Try.prog Try.f4 Rows.fnSecurityRowsOneMoreRowGrowsOneKindRow.domain false) (Rows.fnSecurityRowsOneMoreRowGrowsOneKindSpec.post enc Try.prog Try.f4 false true false false) := by
  refine returnsInHanded_of_change (C := Try.checked) own started (by kernel_rfl) Try.func4
    (ChangeSpec.witness6 (enc := enc) (C := Try.checked) false ⟨#[], #[.slice none 0 0, .int .i64 0], []⟩ 8 (by kernel_rfl) (by kernel_rfl) (by kernel_rfl) (by kernel_rfl)) ?_
  intro W base args ds gs before hval0 hW hcnd _
  have hval : ∀ (j : Nat) t v, Try.f4.params[j]? = some t → args[j]? = some v → Value.okWide Try.prog W .any base t v := hval0
  have hW' := hW
  obtain ⟨p, q, hA0, hV, rfl, hfz, hnd⟩ := hW
  have hA : DataW.TrodAll enc Try.prog W 0 (fun _ => true) true Try.f4.params.toList args.toList ds p := hA0
  rw [Try.params4] at hA hval
  obtain ⟨v0, vs0, d0, ds0, p0, q0, hargs, rfl, rfl, h0, r0⟩ := trodAll_cons hA
  obtain ⟨v1, vs1, d1, ds1, p1, q1, rfl, rfl, rfl, h1, r1⟩ := trodAll_cons r0
  obtain ⟨rfl, rfl, rfl⟩ := trodAll_nil r1
  obtain rfl : args = #[v0, v1] := by cases args; simp_all
  obtain ⟨rfl, rfl⟩ := trodVars_none hV
  obtain ⟨a0, len0, cap0, rfl⟩ := okWide_slice Try.underlying22 (hval 0 22 v0 rfl rfl)
  have k0 := h0
  have lt0 : ∀ x ∈ p0, x.block < W.heap.size := by obtain ⟨m, hm⟩ := k0; exact DataW.trod_lt m _ _ _ hm
  obtain ⟨z0, w0⟩ : ∃ zs, IsRow .i64 W a0 len0 cap0 zs := by
    obtain ⟨fuel, hf⟩ := h0
    rcases open_ints Try.underlying22 Try.underlying2 (by kernel_rfl) hf with ⟨hcs, _⟩ | ⟨x, l, c, zs, hcs, _, hl, hm, hz, _, hcell, hwz⟩
    · simp [Value.cells] at hcs
      obtain ⟨rfl, rfl, rfl⟩ := hcs
      exact ⟨[], .inl ⟨rfl, rfl, rfl, rfl⟩⟩
    · simp [Value.cells] at hcs
      obtain ⟨rfl, rfl, rfl⟩ := hcs
      exact ⟨zs, .inr ⟨_, rfl, hl, hm, by simpa using hz, hcell, hwz⟩⟩
  obtain ⟨a1, rfl, rfl, rfl, w1⟩ := open_int Try.underlying3 (hval 1 3 v1 rfl rfl) h1
  clear hA0 hval0
  refine (walk a0 len0 cap0 z0 a1 W w0 w1).mono fun e W' ⟨he, bel⟩ => ?_
  subst he
  exact ⟨_, rfl, _, _, _, [], _, [], hW', trodAll_mk1 (shut_bool Try.underlying4 _), (trodAll_cons_mk (Below.trod laidOut (by kernel_rfl) (of_decide_eq_true (by kernel_rfl)) k0 bel lt0) (trodAll_cons_mk (shut_int Try.underlying3 w1) trodAll_mk0)), rfl, bel.frame _, fun h => by cases h⟩

theorem over : Rows.fnSecurityRowsOneMoreRowGrowsOneKindRow.holds Try.pinned (OpenSpec.ofChange Rows.fnSecurityRowsOneMoreRowGrowsOneKindSpec) :=
  OpenClaim.holds_of_wide 4 Try.f4 rfl rfl rfl rfl rfl rfl rfl ⟨rfl, rfl, rfl, rfl, rfl⟩ rfl rfl rfl rfl rfl (by kernel_rfl) Try.func4 (by kernel_rfl)
    (of_decide_eq_true (by kernel_rfl)) (by unfold Func.isWrapper; first | (rw [if_pos (by decide +kernel)]; kernel_rfl) | (rw [if_neg (by decide +kernel)]; exact ⟨rfl, rfl⟩))
    (fun os started H enc _ => lifted os started H enc)

/-- ████ THE STATEMENT ████ -/
theorem proved : Rows.FnSecurityRowsOneMoreRowGrowsOneKindSaid := over
#print axioms proved
end Go.Proofs.Qxb6601439a.fnSecurityRowsOneMoreRowGrowsOneKind
