/-
  FnSlotSetAddScript: the plain law, and one add of the script by its contract.
-/
import Derived.Test.Qxb6601356aAdd
namespace Go.Proofs.Qxb6601356a
open Go.RowKit Go.Deep Go.Maps

/-- does v stand among the first i? -/
def seen (zs : List Int) (v : Int) : Nat → Bool
  | 0 => false
  | i + 1 => seen zs v i || (zs[i]?.getD 0 == v)

theorem seen_of (zs : List Int) (v : Int) : ∀ i j, j < i → zs[j]?.getD 0 = v → seen zs v i = true
  | 0, j, h, _ => by omega
  | i + 1, j, h, e => by
    unfold seen
    by_cases hj : j = i
    · subst hj; simp [e]
    · rw [seen_of zs v i j (by omega) e]; rfl

/-- the low bits of the first i -/
def lowOf (zs : List Int) : Nat → Int
  | 0 => 0
  | i + 1 => if zs[i]?.getD 0 < 64 then orBit (lowOf zs i) (zs[i]?.getD 0) else lowOf zs i

/-- how many different ones of the first i are 64 or more -/
def highs (zs : List Int) : Nat → Nat
  | 0 => 0
  | i + 1 => if zs[i]?.getD 0 < 64 then highs zs i else if seen zs (zs[i]?.getD 0) i = true then highs zs i else highs zs i + 1

theorem highs_le (zs : List Int) : ∀ i, highs zs i ≤ i
  | 0 => Nat.le_refl _
  | i + 1 => by
    have := highs_le zs i
    unfold highs
    split
    · omega
    · split <;> omega

theorem low_spec (zs : List Int) : ∀ i, (∀ j, j < i → 0 ≤ zs[j]?.getD 0) → Fits (lowOf zs i) ∧ ∀ v, 0 ≤ v → v < 64 → hasBit (lowOf zs i) v = seen zs v i
  | 0, _ => ⟨fits_zero, fun v h0 h1 => hasBit_zero h0 h1⟩
  | i + 1, h => by
    obtain ⟨a, b⟩ := low_spec zs i (fun j hj => h j (by omega))
    have hi := h i (by omega)
    unfold lowOf seen
    split
    · rename_i h64
      refine ⟨orBit_fits a hi h64, fun v h0 h1 => ?_⟩
      rw [hasBit_or a hi h64 h0 h1, b v h0 h1]
      rfl
    · rename_i h64
      refine ⟨a, fun v h0 h1 => ?_⟩
      rw [b v h0 h1]
      have : (zs[i]?.getD 0 == v) = false := by simp; omega
      rw [this]; simp

theorem low_old (zs : List Int) (i : Nat) (h : ∀ j, j < i + 1 → 0 ≤ zs[j]?.getD 0) (h64 : zs[i]?.getD 0 < 64) (hs : seen zs (zs[i]?.getD 0) i = true) : lowOf zs (i + 1) = lowOf zs i := by
  obtain ⟨a, b⟩ := low_spec zs i (fun j hj => h j (by omega))
  show (if zs[i]?.getD 0 < 64 then orBit (lowOf zs i) (zs[i]?.getD 0) else lowOf zs i) = _
  rw [if_pos h64]
  exact orBit_of a (h i (by omega)) h64 (by rw [b _ (h i (by omega)) h64]; exact hs)

/-- what the map holds behind the first i: nothing was laid; or just those of 64 or more, each true -/
def MapHolds (w : World) (base : Nat) (zs : List Int) (i : Nat) (m : Option Nat) : Prop :=
  (m = none ∧ highs zs i = 0 ∧ ∀ v, ¬ v < 64 → seen zs v i = false) ∨
  ∃ bm n, ∃ D : DataW Unit, m = some bm ∧ base ≤ bm ∧ w.ownsMap Try.prog 3 (plainElem Try.prog 4) bm n D ∧ n ≤ i ∧ size D = highs zs i ∧ 0 < highs zs i ∧
    ∀ v, ¬ v < 64 → D.atKey (.int .i64 v) (.lit (.bool false)) = .lit (.bool (seen zs v i)) ∧ has D (.int .i64 v) = seen zs v i

structure Rel (w : World) (B sb : Nat) (zs : List Int) (len i : Nat) (m : Option Nat) (wr : World) : Prop where
  set : IsSet wr sb (lowOf zs i) m
  map : MapHolds wr w.heap.size zs i m
  row : wr.rowIs B 3 len (fun j => .int .i64 (zs[j]?.getD 0))
  bel : Below w.heap.size w wr

theorem key_lit (v : Int) : WideAt.IsKeyLit (.int .i64 v) := trivial

theorem seen_succ (zs : List Int) (v : Int) (i : Nat) : seen zs v (i + 1) = (seen zs v i || (zs[i]?.getD 0 == v)) := rfl

theorem row_ne_map {H : Type} {w : World} {b bm n t k : Nat} {f : Nat → Value} {D : DataW H} (h : w.rowIs b t k f) (hown : w.ownsMap Try.prog 3 (plainElem Try.prog 4) bm n D) : b ≠ bm := by
  intro e
  subst e
  obtain ⟨c, hb, _⟩ := h
  obtain ⟨es, clock, hb2, _⟩ := hown
  rw [hb] at hb2
  cases hb2

theorem KeptBut2.below {w wr w' : World} {sb : Nat} {m : Option Nat} (h : KeptBut2 wr w' sb m) (hb : Below w.heap.size w wr) (hs : w.heap.size ≤ sb) (hm : ∀ bm, m = some bm → w.heap.size ≤ bm) : Below w.heap.size w w' :=
  hb.trans ⟨h.os, h.tape, h.output, h.size, fun k hk => h.block k (Nat.lt_of_lt_of_le hk hb.size) (by omega) (fun e => by have := hm k e.symm; omega)⟩

theorem wf_i64 {v : Int} (h0 : 0 ≤ v) (h1 : v < 9223372036854775808) : (Lit.int .i64 v).wf = true := WalkArith.wf_i64 (by omega)

/-- ONE ADD OF THE SCRIPT -/
theorem add_step (w : World) (B sb : Nat) (zs : List Int) (len i : Nat) (wr : World) (hi : i < len) (hlen : len ≤ 4096) (hB : w.heap.size ≤ B) (hsb : B < sb) (hpos : ∀ j, j < len → 0 ≤ zs[j]?.getD 0) (hwz : ∀ j : Nat, (Lit.int .i64 (zs[j]?.getD 0)).wf = true)
    (m : Option Nat) (R : Rel w B sb zs len i m wr) :
    Calls Try.prog 9 #[.pointer (some ⟨sb, 0, none⟩), .int .i64 (zs[i]?.getD 0)] wr fun e w' => e = .returned (.bool (!seen zs (zs[i]?.getD 0) i)) ∧ ∃ m', Rel w B sb zs len (i + 1) m' w' := by
  obtain ⟨hset, hmap, hrow, hbel⟩ := R
  obtain ⟨hfit, hbit⟩ := low_spec zs i (fun j hj => hpos j (by omega))
  have h0 := hpos i hi
  have hv := hwz i
  by_cases h64 : zs[i]?.getD 0 < 64
  · have hhi : highs zs (i + 1) = highs zs i := by show (if _ then _ else _) = _; rw [if_pos h64]
    have hsn : ∀ v, ¬ v < 64 → seen zs v (i + 1) = seen zs v i := by
      intro v hv
      rw [seen_succ]
      have : (zs[i]?.getD 0 == v) = false := by simp; omega
      rw [this]; simp
    have hmap' : ∀ w', w'.heap.size ≥ wr.heap.size → (∀ bm, m = some bm → w'.heap[bm]? = wr.heap[bm]?) → MapHolds w' w.heap.size zs (i + 1) m := by
      intro w' _ hkeep
      rcases hmap with ⟨rfl, e1, e2⟩ | ⟨bm, n, D, rfl, hb, hown, hn, hsz, hpo, hat⟩
      · exact .inl ⟨rfl, by rw [hhi]; exact e1, fun v hv => by rw [hsn v hv]; exact e2 v hv⟩
      · refine .inr ⟨bm, n, D, rfl, hb, ?_, by omega, by rw [hhi]; exact hsz, by rw [hhi]; exact hpo, fun v hv => by rw [hsn v hv]; exact hat v hv⟩
        obtain ⟨es, clock, hbb, F, hs, hD⟩ := hown
        exact ⟨es, clock, (hkeep bm rfl).trans hbb, F, hs, hD⟩
    cases hs : seen zs (zs[i]?.getD 0) i
    · refine (add_low_new sb (lowOf zs i) (zs[i]?.getD 0) m wr hset h0 h64 (by rw [hbit _ h0 h64]; exact hs)).mono ?_
      rintro e w' ⟨rfl, hset', hk, hsz⟩
      refine ⟨rfl, m, ?_, hmap' w' (by omega) (fun bm e => ?_), hrow.of_block (hk.block B hrow.lt (by omega) (by simp)), hk.below hbel (by omega) (by simp)⟩
      · have : lowOf zs (i + 1) = orBit (lowOf zs i) (zs[i]?.getD 0) := by show (if _ then _ else _) = _; rw [if_pos h64]
        rw [this]; exact hset'
      · subst e
        rcases hmap with ⟨e1, _⟩ | ⟨bm', n, D, e1, hb, hown, _⟩
        · cases e1
        · cases e1
          exact hk.block bm hown.lt (Ne.symm (set_ne_map hset hown)) (by simp)
    · refine (add_low_old sb (lowOf zs i) (zs[i]?.getD 0) m wr hset h0 h64 (by rw [hbit _ h0 h64]; exact hs)).mono ?_
      rintro e w' ⟨rfl, rfl⟩
      refine ⟨rfl, m, ?_, hmap' wr (Nat.le_refl _) (fun bm e => rfl), hrow, hbel⟩
      rw [low_old zs i (fun j hj => hpos j (by omega)) h64 hs]
      exact hset
  · have hlow : lowOf zs (i + 1) = lowOf zs i := by show (if _ then _ else _) = _; rw [if_neg h64]
    rcases hmap with ⟨rfl, e1, e2⟩ | ⟨bm, n, D, rfl, hb, hown, hn, hsz, hpo, hat⟩
    · have hs := e2 _ h64
      rw [hs]
      have hhi : highs zs (i + 1) = 1 := by show (if _ then _ else (if _ then _ else _)) = _; rw [if_neg h64, if_neg (by rw [hs]; simp), e1]
      refine (add_high_first sb (lowOf zs i) (zs[i]?.getD 0) wr hset h64 hv).mono ?_
      rintro e w' ⟨rfl, hset', hown', hk, hsz⟩
      refine ⟨rfl, some wr.heap.size, by rw [hlow]; exact hset', .inr ⟨wr.heap.size, 1, _, rfl, hbel.size, hown', by omega, ?_, by omega, fun v hv => ?_⟩, hrow.of_block (hk.block B hrow.lt (by omega) (by simp)), hk.below hbel (by omega) (by simp)⟩
      · rw [size_put tidy_empty, hhi]; rfl
      · rw [seen_succ, e2 v hv]
        by_cases e : v = zs[i]?.getD 0
        · subst e
          rw [atKey_put_same isMap_empty (key_lit _), has_put_same isMap_empty (key_lit _)]
          simp
        · rw [atKey_put_other (by simpa using e), has_put_other (by simpa using e)]
          have : (zs[i]?.getD 0 == v) = false := by simpa using fun h => e h.symm
          rw [this]
          exact ⟨rfl, rfl⟩
    · cases hs : seen zs (zs[i]?.getD 0) i
      · have hhi : highs zs (i + 1) = highs zs i + 1 := by show (if _ then _ else (if _ then _ else _)) = _; rw [if_neg h64, if_neg (by rw [hs]; simp)]
        refine (add_high_new sb bm n D (lowOf zs i) (zs[i]?.getD 0) wr hset hown (by unfold maxLen; omega) h64 hv (by rw [(hat _ h64).1, hs])).mono ?_
        rintro e w' ⟨rfl, hset', hown', hk, _⟩
        refine ⟨rfl, some bm, by rw [hlow]; exact hset', .inr ⟨bm, n + 1, _, rfl, hb, hown', by omega, ?_, by omega, fun v hv => ?_⟩, hrow.of_block (hk.block B hrow.lt (by omega) (by simpa using row_ne_map hrow hown)), hk.below hbel (by omega) (by intro bm' e; cases e; exact hb)⟩
        · rw [size_put (hown.tidy law3), (hat _ h64).2, hs, hhi, hsz]; rfl
        · rw [seen_succ]
          by_cases e : v = zs[i]?.getD 0
          · subst e
            rw [atKey_put_same hown.isMap (key_lit _), has_put_same hown.isMap (key_lit _)]
            simp
          · rw [atKey_put_other (by simpa using e), has_put_other (by simpa using e)]
            have : (zs[i]?.getD 0 == v) = false := by simpa using fun h => e h.symm
            rw [this, Bool.or_false]
            exact hat v hv
      · have hhi : highs zs (i + 1) = highs zs i := by show (if _ then _ else (if _ then _ else _)) = _; rw [if_neg h64, if_pos hs]
        refine (add_high_old sb bm n D (lowOf zs i) (zs[i]?.getD 0) wr hset hown h64 hv (by rw [(hat _ h64).1, hs])).mono ?_
        rintro e w' ⟨rfl, rfl⟩
        refine ⟨rfl, some bm, by rw [hlow]; exact hset, .inr ⟨bm, n, D, rfl, hb, hown, by omega, by rw [hhi]; exact hsz, by rw [hhi]; exact hpo, fun v hv => ?_⟩, hrow, hbel⟩
        rw [seen_succ]
        by_cases e : v = zs[i]?.getD 0
        · subst e
          rw [(hat _ hv).1, (hat _ hv).2, hs]
          simp
        · have : (zs[i]?.getD 0 == v) = false := by simpa using fun h => e h.symm
          rw [this, Bool.or_false]
          exact hat v hv
end Go.Proofs.Qxb6601356a
