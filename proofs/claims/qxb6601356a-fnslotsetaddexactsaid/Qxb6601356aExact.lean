/-
  FnSlotSetAddExact (3): the walk.
-/
import Derived.Test.Qxb6601356aScriptWalk
import Derived.RegionTactic
import Derived.ChangeAlike
namespace Go.Proofs.Qxb6601356a
open Go.RowKit Go.Deep Go.Maps
set_option linter.unusedVariables false

theorem makeHint (w : World) (n : Int) : (Instr.makeMap 28 (some (.int .i64 n))).run Try.prog w = .ok (.map (some w.heap.size)) (w.alloc (.map #[] 0)) := by
  simp [Instr.makeMap, run_underlying Try.underlying28, asInt, asIntOf, Result.andThen]

/-- what the walk is told of the slice of bools that came in -/
def BoolsAt (w : World) (a : Option Addr) (len cap : Nat) (bs : List Bool) : Prop :=
  (a = none → len = 0 ∧ cap = 0) ∧ ∀ x, a = some x → (0 < len → x.spot = none ∧ x.block < w.heap.size) ∧ ∀ j, j < len → w.cell? ⟨x.block, x.off + j, none⟩ = some (.bool (bs[j]?.getD false))

theorem BoolsAt.below {w w1 : World} {a : Option Addr} {len cap : Nat} {bs : List Bool} (h : BoolsAt w a len cap bs) (hb : Below w.heap.size w w1) : BoolsAt w1 a len cap bs := by
  refine ⟨h.1, fun x hx => ⟨fun h0 => ?_, fun j hj => ?_⟩⟩
  · have := (h.2 x hx).1 h0
    exact ⟨this.1, Nat.lt_of_lt_of_le this.2 hb.size⟩
  · have h1 := (h.2 x hx).1 (by omega)
    rw [hb.cell (by exact h1.2)]
    exact (h.2 x hx).2 j hj

theorem cloneBools_ex (a : Option Addr) (len cap : Nat) (bs : List Bool) (w : World) (hm : len ≤ 1048576) (h : BoolsAt w a len cap bs) :
    Calls Try.prog 7 #[.slice a len cap] w fun e w' => ∃ a' c', e = .returned (.slice a' len c') ∧ (0 < len → ∃ V, a' = some ⟨V, 0, none⟩ ∧ w'.rowIs V 4 len (fun j => .bool (bs[j]?.getD false))) ∧ Below w.heap.size w w' := by
  cases a with
  | none =>
    obtain ⟨rfl, rfl⟩ := h.1 rfl
    refine (cloneBools_nil w).mono ?_
    rintro e w' ⟨rfl, rfl⟩
    exact ⟨none, 0, rfl, fun h => by omega, Below.refl _ _⟩
  | some x =>
    refine (cloneBools_any x len cap bs w hm (h.2 x rfl).1 (h.2 x rfl).2).mono ?_
    rintro e w' ⟨rfl, hrow, hbel, _⟩
    exact ⟨_, _, rfl, fun _ => ⟨_, rfl, hrow⟩, hbel⟩

/-- the map of the first i keys and values, the last write winning -/
def build (zs : List Int) (bs : List Bool) : Nat → DataW Unit
  | 0 => .map []
  | i + 1 => (build zs bs i).put (.int .i64 (zs[i]?.getD 0)) (.lit (.bool (bs[i]?.getD false)))

/-- what holds behind k rounds of the filling -/
structure Filled (w : World) (B len : Nat) (zs : List Int) (bs : List Bool) (Hb Rb : Nat) (a' : Option Addr) (k : Nat) (wr : World) : Prop where
  own1 : wr.ownsMap Try.prog 3 (plainElem Try.prog 4) Hb k (build zs bs k)
  own2 : wr.ownsMap Try.prog 3 (plainElem Try.prog 4) Rb k (build zs bs k)
  row : wr.rowIs B 3 len (fun j => .int .i64 (zs[j]?.getD 0))
  rowV : 0 < len → ∃ V, a' = some ⟨V, 0, none⟩ ∧ wr.rowIs V 4 len (fun j => .bool (bs[j]?.getD false))
  bel : Below w.heap.size w wr

theorem filled_start (w w1 w2 : World) (B len : Nat) (zs : List Int) (bs : List Bool) (a' : Option Addr) (hBlt : B < w1.heap.size) (hrow : w1.rowIs B 3 len (fun j => .int .i64 (zs[j]?.getD 0))) (hb1 : Below w.heap.size w w1)
    (hV : 0 < len → ∃ V, a' = some ⟨V, 0, none⟩ ∧ w2.rowIs V 4 len (fun j => .bool (bs[j]?.getD false))) (hb2 : Below w1.heap.size w1 w2) :
    Filled w B len zs bs w2.heap.size (w2.heap.size + 1) a' 0 ((w2.alloc (.map #[] 0)).alloc (.map #[] 0)) := by
  have hb3 := hb1.trans (hb2.mono hb1.size)
  have e : (w2.alloc (.map #[] 0)).heap.size = w2.heap.size + 1 := by simp
  refine ⟨(World.ownsMap_made _ _ _ _).alloc _, ?_, ((hrow.of_block (hb2.block B hBlt)).alloc _).alloc _, fun h => ?_, (hb3.alloc hb3.size _).alloc (by have := hb3.size; simp; omega) _⟩
  · rw [← e]; exact World.ownsMap_made _ _ _ _
  · obtain ⟨V, h1, h2⟩ := hV h
    exact ⟨V, h1, (h2.alloc _).alloc _⟩

/-- one round of the filling: two stores, each behind a draw -/
theorem filled_step (w : World) (B len : Nat) (zs : List Int) (bs : List Bool) (Hb Rb : Nat) (a' : Option Addr) (k : Nat) (wr : World) (hk : k < len) (hlen : len ≤ 65536) (hne : Hb ≠ Rb) (hH : w.heap.size ≤ Hb) (hR : w.heap.size ≤ Rb)
    (hwz : ∀ j : Nat, (Lit.int .i64 (zs[j]?.getD 0)).wf = true) (F : Filled w B len zs bs Hb Rb a' k wr) :
    ∃ w1 w2, (Instr.mapUpdate 28 (.map (some Hb)) (.int .i64 (zs[k]?.getD 0)) (.bool (bs[k]?.getD false))).run Try.prog wr.drew = .ok () w1 ∧
      (Instr.mapUpdate 28 (.map (some Rb)) (.int .i64 (zs[k]?.getD 0)) (.bool (bs[k]?.getD false))).run Try.prog w1.drew = .ok () w2 ∧
      (∀ o, w1.cell? ⟨B, o, none⟩ = wr.cell? ⟨B, o, none⟩) ∧ (∀ V o, a' = some ⟨V, 0, none⟩ → w1.cell? ⟨V, o, none⟩ = wr.cell? ⟨V, o, none⟩) ∧
      Filled w B len zs bs Hb Rb a' (k + 1) w2 := by
  obtain ⟨o1, o2, row, rowV, bel⟩ := F
  have hkey := keyOf_int_mk Try.underlying3 (hwz k)
  have hval := plainElem_bool (H := Unit) Try.underlying4 (bs[k]?.getD false)
  obtain ⟨w1, run1, p1, t1⟩ := (World.ownsMap.drew o1).store law3 Try.underlying28 (by unfold maxLen; omega) hkey hval
  have g1 := t1.grown
  have o2' : w1.ownsMap Try.prog 3 (plainElem Try.prog 4) Rb k (build zs bs k) := (World.ownsMap.drew o2).kept g1 (by simp; omega)
  obtain ⟨w2, run2, p2, t2⟩ := (World.ownsMap.drew o2').store law3 Try.underlying28 (by unfold maxLen; omega) hkey hval
  have g2 := t2.grown
  have row1 : w1.rowIs B 3 len (fun j => .int .i64 (zs[j]?.getD 0)) := (World.rowIs.drew row).of_block (g1.block B row.lt (by simpa using row_ne_map row o1))
  obtain ⟨V, hV, rV⟩ := rowV (by omega)
  have rV1 : w1.rowIs V 4 len (fun j => .bool (bs[j]?.getD false)) := (World.rowIs.drew rV).of_block (g1.block V rV.lt (by simpa using row_ne_map rV o1))
  refine ⟨w1, w2, run1, run2, fun o => World.cell?_of_block (w := wr.drew) (g1.block B row.lt (by simpa using row_ne_map row o1)), fun V' o e => ?_, ?_⟩
  · rw [hV] at e
    cases e
    exact World.cell?_of_block (w := wr.drew) (g1.block V rV.lt (by simpa using row_ne_map rV o1))
  · refine ⟨?_, p2, (World.rowIs.drew row1).of_block (g2.block B row1.lt (by simpa using row_ne_map row1 o2')), fun _ => ⟨V, hV, (World.rowIs.drew rV1).of_block (g2.block V rV1.lt (by simpa using row_ne_map rV1 o2'))⟩, ?_⟩
    · exact (World.ownsMap.drew p1).kept g2 (by simp; omega)
    · exact ((bel.drew).grown g1 bel.size (fun j e => by cases e; exact hH)).drew.grown g2 (Nat.le_trans bel.size g1.size) (fun j e => by cases e; exact hR)

/-! ### the bit, read by a shift -/
theorem shrBit {low v : Int} (h : Fits low) (h0 : 0 ≤ v) (h64 : v < 64) : hasBit low v = (bits .and .u64 (low / 2 ^ v.toNat) 1 == 1) := by
  obtain ⟨n, hn, rfl⟩ := nat_of h
  obtain ⟨k, rfl⟩ : ∃ k : Nat, v = k := ⟨v.toNat, by omega⟩
  rw [hasBit_nat n k hn (by omega), Int.toNat_natCast]
  have e1 : ((n : Int) / 2 ^ k) = ((n / 2 ^ k : Nat) : Int) := by simp
  have hlt : n / 2 ^ k < 18446744073709551616 := Nat.lt_of_le_of_lt (Nat.div_le_self _ _) hn
  have e2 := u64_and_nat (n / 2 ^ k) 1 hlt (by decide)
  rw [e1]
  rw [show ((1 : Nat) : Int) = 1 from rfl] at e2
  rw [e2, Nat.and_one_is_mod, Nat.testBit_eq_decide_div_mod_eq]
  generalize n / 2 ^ k % 2 = q
  by_cases hq : q = 1
  · subst hq; rfl
  · have h1 : ((q : Int) == 1) = false := by simp; omega
    rw [h1]; simp [hq]

/-! ### what the map holds -/
theorem build_isMap (zs : List Int) (bs : List Bool) : ∀ i, IsMap (build zs bs i)
  | 0 => isMap_empty
  | i + 1 => (build_isMap zs bs i).put _ _

theorem build_bool (zs : List Int) (bs : List Bool) (k : Int) : ∀ i, ∃ x, (build zs bs i).atKey (.int .i64 k) (.lit (.bool false)) = .lit (.bool x)
  | 0 => ⟨false, rfl⟩
  | i + 1 => by
    by_cases e : k = zs[i]?.getD 0
    · subst e; exact ⟨_, atKey_put_same (build_isMap zs bs i) (key_lit _) _ _⟩
    · obtain ⟨x, hx⟩ := build_bool zs bs k i
      exact ⟨x, (atKey_put_other (by simpa using e) _ _).trans hx⟩

theorem build_has (zs : List Int) (bs : List Bool) (j : Nat) : ∀ i, j < i → has (build zs bs i) (.int .i64 (zs[j]?.getD 0)) = true
  | 0, h => by omega
  | i + 1, h => by
    by_cases e : zs[j]?.getD 0 = zs[i]?.getD 0
    · rw [e]; exact has_put_same (build_isMap zs bs i) (key_lit _) _
    · exact (has_put_other (by simpa using e) _).trans (build_has zs bs j i (by
        have : j ≠ i := fun e' => e (by rw [e'])
        omega))

theorem look_ok {H : Type} {w : World} {b n : Nat} {D : DataW H} (h : w.ownsMap Try.prog 3 (plainElem Try.prog 4) b n D) {v : Int} (hwv : (Lit.int .i64 v).wf = true) {x y : Bool} (hx : D.atKey (.int .i64 v) (.lit (.bool false)) = .lit (.bool x)) (hy : has D (.int .i64 v) = y) :
    (Instr.lookup 28 (.map (some b)) (.int .i64 v) true).run Try.prog w = .ok (.tuple #[.bool x, .bool y]) w := by
  obtain ⟨u, ps, hrun, hu⟩ := h.look_ok law3 Try.underlying28 (zero4 w) (plainElem_bool Try.underlying4 false) (keyOf_int_mk Try.underlying3 hwv)
  obtain ⟨z, rfl, hz⟩ := plainElem_bool_inv hu
  rw [hx] at hz
  simp only [Prod.mk.injEq, DataW.lit.injEq, Lit.bool.injEq] at hz
  rw [hz.1, ← hy]
  exact hrun

/-! ### the one add -/
theorem add_lo (sb : Nat) (low v : Int) (m : Option Nat) (w : World) (h : IsSet w sb low m) (hf : Fits low) (h0 : 0 ≤ v) (h64 : v < 64) (bf : Bool) (hb : hasBit low v = bf) :
    Calls Try.prog 9 #[.pointer (some ⟨sb, 0, none⟩), .int .i64 v] w fun e w' => e = .returned (.bool (!bf)) ∧ IsSet w' sb (bits .or .u64 low (IntKind.u64.wrap (2 ^ v.toNat))) m ∧ KeptBut2 w w' sb none := by
  subst hb
  cases hb : hasBit low v
  · refine (add_low_new sb low v m w h h0 h64 hb).mono ?_
    rintro e w' ⟨rfl, h1, h2, _⟩
    exact ⟨rfl, h1, h2⟩
  · refine (add_low_old sb low v m w h h0 h64 hb).mono ?_
    rintro e w' ⟨rfl, rfl⟩
    have e := orBit_of hf h0 h64 hb
    unfold orBit at e
    exact ⟨rfl, by rw [e]; exact h, KeptBut2.refl _ _ _⟩

/-- behind an add of 64 or more -/
structure After (D D' : DataW Unit) (v : Int) : Prop where
  here : D'.atKey (.int .i64 v) (.lit (.bool false)) = .lit (.bool true)
  hasHere : has D' (.int .i64 v) = true
  other : ∀ k, k ≠ v → D'.atKey (.int .i64 k) (.lit (.bool false)) = D.atKey (.int .i64 k) (.lit (.bool false)) ∧ has D' (.int .i64 k) = has D (.int .i64 k)
  size : Maps.size D' = if has D (.int .i64 v) = true then Maps.size D else Maps.size D + 1

theorem has_of_true {D : DataW Unit} {k : Lit} (h : D.atKey k (.lit (.bool false)) = .lit (.bool true)) : has D k = true := by
  cases hh : has D k
  · rw [atKey_of_not_has hh] at h
    cases h
  · rfl

theorem add_hi (sb bm n : Nat) (D : DataW Unit) (low v : Int) (w : World) (h : IsSet w sb low (some bm)) (hown : w.ownsMap Try.prog 3 (plainElem Try.prog 4) bm n D) (hn : n < maxLen) (h64 : ¬ v < 64) (hwv : (Lit.int .i64 v).wf = true) (bf : Bool)
    (hat : D.atKey (.int .i64 v) (.lit (.bool false)) = .lit (.bool bf)) :
    Calls Try.prog 9 #[.pointer (some ⟨sb, 0, none⟩), .int .i64 v] w fun e w' => e = .returned (.bool (!bf)) ∧ IsSet w' sb low (some bm) ∧ (∃ D', w'.ownsMap Try.prog 3 (plainElem Try.prog 4) bm (n + 1) D' ∧ After D D' v) ∧ KeptBut2 w w' sb (some bm) := by
  cases bf
  · refine (add_high_new sb bm n D low v w h hown hn h64 hwv hat).mono ?_
    rintro e w' ⟨rfl, h1, h2, h3, _⟩
    exact ⟨rfl, h1, ⟨_, h2, atKey_put_same hown.isMap (key_lit _) _ _, has_put_same hown.isMap (key_lit _) _, fun k hk => ⟨atKey_put_other (by simpa using hk) _ _, has_put_other (by simpa using hk) _⟩, size_put (hown.tidy law3) _⟩, h3⟩
  · refine (add_high_old sb bm n D low v w h hown h64 hwv hat).mono ?_
    rintro e w' ⟨rfl, rfl⟩
    exact ⟨rfl, h, ⟨D, hown.mono (Nat.le_succ _), hat, has_of_true hat, fun k _ => ⟨rfl, rfl⟩, by rw [if_pos (has_of_true hat)]⟩, KeptBut2.refl _ _ _⟩

/-- what the tail is told: the set, its map, the other map, the keys -/
structure Tail (w : World) (B len : Nat) (zs : List Int) (sb Hb Rb n : Nat) (low : Int) (D' D : DataW Unit) (wr : World) : Prop where
  set : IsSet wr sb low (some Hb)
  own1 : wr.ownsMap Try.prog 3 (plainElem Try.prog 4) Hb n D'
  own2 : wr.ownsMap Try.prog 3 (plainElem Try.prog 4) Rb n D
  row : wr.rowIs B 3 len (fun j => .int .i64 (zs[j]?.getD 0))
  bel : Below w.heap.size w wr

/-- the new set beside the two maps -/
theorem tail_new {w wr w5 : World} {B len : Nat} {zs : List Int} {bs : List Bool} {Hb Rb sb : Nat} {a' : Option Addr} {low : Int} (F : Filled w B len zs bs Hb Rb a' len wr) (hsb : wr.heap.size ≤ sb) (hset : IsSet w5 sb low (some Hb)) (hb5 : Below wr.heap.size wr w5) :
    Tail w B len zs sb Hb Rb len low (build zs bs len) (build zs bs len) w5 := by
  obtain ⟨o1, o2, row, _, bel⟩ := F
  have hg : wr.grownBy w5 none := ⟨hb5.os, hb5.tape, hb5.output, hb5.size, fun k hk _ => hb5.block k hk⟩
  exact ⟨hset, o1.kept hg (by simp), o2.kept hg (by simp), row.of_block (hb5.block B row.lt), bel.trans (hb5.mono bel.size)⟩

theorem kept_own {w w' : World} {sb b n : Nat} {m : Option Nat} {low : Int} {m' : Option Nat} {D : DataW Unit} (hk : KeptBut2 w w' sb m) (hset : IsSet w sb low m') (hown : w.ownsMap Try.prog 3 (plainElem Try.prog 4) b n D) (hne : some b ≠ m) : w'.ownsMap Try.prog 3 (plainElem Try.prog 4) b n D := by
  have hs := set_ne_map hset hown
  have hlt := hown.lt
  obtain ⟨es, clock, hb, r⟩ := hown
  exact ⟨es, clock, (hk.block b hlt (Ne.symm hs) hne).trans hb, r⟩

theorem tail_lo {w w5 w6 : World} {B len : Nat} {zs : List Int} {sb Hb Rb n : Nat} {low low' : Int} {D : DataW Unit} (T : Tail w B len zs sb Hb Rb n low D D w5) (hB : B ≠ sb) (hsb : w.heap.size ≤ sb) (hset : IsSet w6 sb low' (some Hb)) (hk : KeptBut2 w5 w6 sb none) :
    Tail w B len zs sb Hb Rb n low' D D w6 :=
  ⟨hset, kept_own hk T.set T.own1 (by simp), kept_own hk T.set T.own2 (by simp), T.row.of_block (hk.block B T.row.lt hB (by simp)), hk.below T.bel hsb (by simp)⟩

theorem tail_hi {w w5 w6 : World} {B len : Nat} {zs : List Int} {sb Hb Rb n : Nat} {low low' : Int} {D D' : DataW Unit} (T : Tail w B len zs sb Hb Rb n low D D w5) (hB : B ≠ sb) (hsb : w.heap.size ≤ sb) (hHb : w.heap.size ≤ Hb) (hne : Hb ≠ Rb) (hset : IsSet w6 sb low' (some Hb))
    (hown : w6.ownsMap Try.prog 3 (plainElem Try.prog 4) Hb (n + 1) D') (hk : KeptBut2 w5 w6 sb (some Hb)) :
    Tail w B len zs sb Hb Rb (n + 1) low' D' D w6 :=
  ⟨hset, hown, (kept_own hk T.set T.own2 (by simp; omega)).mono (Nat.le_succ _), T.row.of_block (hk.block B T.row.lt hB (by simpa using row_ne_map T.row T.own1)), hk.below T.bel hsb (by intro bm e; cases e; exact hHb)⟩

set_option maxHeartbeats 1600000 in
set_option maxRecDepth 100000 in
theorem exact_some (low slot : Int) (x : Addr) (a2 : Option Addr) (len cap1 cap2 : Nat) (zs : List Int) (bs : List Bool) (w : World) (hlen : len ≤ 65536) (hs0 : 0 ≤ slot) (hlow : Fits low)
    (hx : 0 < len → x.spot = none ∧ x.block < w.heap.size) (hcx : ∀ j, j < len → w.cell? ⟨x.block, x.off + j, none⟩ = some (.int .i64 (zs[j]?.getD 0)))
    (hy : BoolsAt w a2 len cap2 bs)
    (hwz : ∀ j : Nat, (Lit.int .i64 (zs[j]?.getD 0)).wf = true) (hws : (Lit.int .i64 slot).wf = true) :
    Calls Try.prog 3 #[.int .u64 low, .slice (some x) len cap1, .slice a2 len cap2, .int .i64 slot] w fun e w' => e = .returned (.bool true) ∧ Below w.heap.size w w' := by
  have hmk := makeHint
  have hq := eqNil23
  have hqm := eqNilMap
  go_enter Try.func3, Try.ntmps3
  go_wp2_with (first
    | (go_at_call 6; refine (cloneInts_ex x len cap1 zs _ (by omega) hx hcx).mono ?_; rintro e w1 ⟨B, rfl, hB, hBlt, hrow, hb1⟩)
    | (go_at_call 7; refine (cloneBools_ex a2 len cap2 bs _ (by omega) (hy.below hb1)).mono ?_; rintro e w2 ⟨a', c', rfl, hV, hb2⟩)
    | go_in)
  have F0 := filled_start w w1 w2 B len zs bs a' hBlt hrow hb1 hV hb2
  have hH : w.heap.size ≤ w2.heap.size := Nat.le_trans hb1.size hb2.size
  clear hx hcx hy hrow hb1 hV hb2 hBlt
  go_loopw [11] (fun i wr => ∃ k : Nat, k ≤ len ∧ i = .int .i64 k ∧ Filled w B len zs bs w2.heap.size (w2.heap.size + 1) a' k wr) (fun i _ => len - (intOf i).toNat)
  case atStart => exact ⟨0, Nat.zero_le _, rfl, F0⟩
  case round =>
    clear F0
    obtain ⟨k, hk, rfl, F⟩ := hrel
    by_cases hlt : k < len
    · obtain ⟨w3, w4, run1, run2, c1, c2, F'⟩ := filled_step w B len zs bs _ _ a' k wr hlt hlen (by omega) hH (by omega) hwz F
      obtain ⟨V, rfl, rV⟩ := F.rowV (by omega)
      have e1 := F.row.cell hlt
      have e2 := rV.cell hlt
      have e3 := (c1 k).trans e1
      have e4 := (c2 V k rfl).trans e2
      clear c1 c2
      go_wp2
      go_region
      go_wp2
      go_region
      go_wp2
      go_roundw
      case rel => exact ⟨k + 1, by omega, by go_num, F'⟩
      case measure => simp [intOf]; omega
    · obtain rfl : k = len := by omega
      by_cases h64 : slot < 64
      · obtain ⟨bf, hbf⟩ : ∃ bf, (bits .and .u64 (low / 2 ^ slot.toNat) 1 == 1) = bf := ⟨_, rfl⟩
        have hbit := (shrBit hlow hs0 h64).trans hbf
        have hBsb : B < wr.heap.size := F.row.lt
        have hwsz := F.bel.size
        go_wp2_with (first
          | (go_at_call 8; refine (newSet_ex _ _ _).mono ?_; rintro e w5 ⟨sb, rfl, hsb, hset, hb5⟩)
          | (go_at_call 9; refine (add_lo sb low slot _ _ hset hlow hs0 h64 bf hbit).mono ?_; rintro e w6 ⟨rfl, hset6, hk6⟩)
          | (go_at_call 10; refine (getLow _ _ _ _ hset6).mono ?_; rintro e w' ⟨rfl, rfl⟩)
          | (go_at_call 11; refine (getHigh _ _ _ _ hset6).mono ?_; rintro e w' ⟨rfl, rfl⟩))
        have T := tail_lo (tail_new F hsb hset hb5) (by omega) (by omega) hset6 hk6
        have hbm := build_bool zs bs
        have hbh := build_has zs bs
        clear hset hb5 hset6 hk6 hbit F
        have hn1 := T.own1.len (t := 28) Try.underlying28
        have hn2 := T.own2.len (t := 28) Try.underlying28
        go_loop [17] (fun i => ∃ q : Nat, q ≤ k ∧ i = .int .i64 q) (fun i => k - (intOf i).toNat)
        case atStart => exact ⟨0, Nat.zero_le _, rfl⟩
        case round =>
          obtain ⟨q, hqk, rfl⟩ := hrel
          by_cases hlt2 : q < k
          · have hcq := T.row.cell hlt2
            obtain ⟨xb, hxb⟩ := hbm (zs[q]?.getD 0) k
            have hl1 := look T.own2 (hwz q) hxb
            have hl2 := look_ok T.own1 (hwz q) hxb (hbh q k hlt2)
            clear hxb hbm hbh
            by_cases he : (zs[q]?.getD 0 == slot) = true
            · go_wp2
              go_round
              case rel => exact ⟨q + 1, by omega, by go_num⟩
              case measure => simp [intOf]; omega
            · have he' : (zs[q]?.getD 0 == slot) = false := by simpa using he
              clear he
              go_wp2
              go_round
              case rel => exact ⟨q + 1, by omega, by go_num⟩
              case measure => simp [intOf]; omega
          · go_wp2
            go_ret
            exact ⟨rfl, T.bel⟩
      · obtain ⟨bf, hat⟩ := build_bool zs bs slot k
        have hl0 := look F.own2 hws hat
        have hBsb : B < wr.heap.size := F.row.lt
        have hwsz := F.bel.size
        have hat' : Hid ((build zs bs k).atKey (.int .i64 slot) (.lit (.bool false)) = .lit (.bool bf)) := hat
        clear hat
        go_wp2_with (first
          | (go_at_call 8; refine (newSet_ex _ _ _).mono ?_; rintro e w5 ⟨sb, rfl, hsb, hset, hb5⟩)
          | (go_at_call 9; refine (add_hi sb _ k (build zs bs k) low slot _ hset (tail_new F hsb hset hb5).own1 (by unfold maxLen; omega) (by omega) hws bf hat'.out).mono ?_; rintro e w6 ⟨rfl, hset6, ⟨D', hown6, hA⟩, hk6⟩)
          | (go_at_call 10; refine (getLow _ _ _ _ hset6).mono ?_; rintro e w' ⟨rfl, rfl⟩)
          | (go_at_call 11; refine (getHigh _ _ _ _ hset6).mono ?_; rintro e w' ⟨rfl, rfl⟩))
        have T := tail_hi (tail_new F hsb hset hb5) (by omega) (by omega) hH (by omega) hset6 hown6 hk6
        have hbm := build_bool zs bs
        have hbh := build_has zs bs
        have hsl := T.own2.size_le
        clear hset hb5 hset6 hk6 F hown6 hl0
        have hn2 := T.own2.len (t := 28) Try.underlying28
        go_loop [17] (fun i => ∃ q : Nat, q ≤ k ∧ i = .int .i64 q) (fun i => k - (intOf i).toNat)
        case atStart => exact ⟨0, Nat.zero_le _, rfl⟩
        case round =>
          obtain ⟨q, hqk, rfl⟩ := hrel
          by_cases hlt2 : q < k
          · have hcq := T.row.cell hlt2
            obtain ⟨xb, hxb⟩ := hbm (zs[q]?.getD 0) k
            have hl1 := look T.own2 (hwz q) hxb
            by_cases he : (zs[q]?.getD 0 == slot) = true
            · have hl2 := look_ok T.own1 (hwz q) (x := true) (y := true) (by rw [show zs[q]?.getD 0 = slot by simpa using he]; exact hA.here) (by rw [show zs[q]?.getD 0 = slot by simpa using he]; exact hA.hasHere)
              clear hxb hbm hbh hA
              go_wp2
              go_round
              case rel => exact ⟨q + 1, by omega, by go_num⟩
              case measure => simp [intOf]; omega
            · have hne : zs[q]?.getD 0 ≠ slot := by simpa using he
              have hl2 := look_ok T.own1 (hwz q) (x := xb) (y := true) ((hA.other _ hne).1.trans hxb) ((hA.other _ hne).2.trans (hbh q k hlt2))
              have he' : (zs[q]?.getD 0 == slot) = false := by simpa using he
              clear he hne hxb hbm hbh hA
              go_wp2
              go_round
              case rel => exact ⟨q + 1, by omega, by go_num⟩
              case measure => simp [intOf]; omega
          · have hl3 := look T.own1 hws hA.here
            have hn1 := T.own1.len (t := 28) Try.underlying28
            by_cases hhas : has (build zs bs k) (.int .i64 slot) = true
            · have hl4 := look_ok T.own2 hws hat'.out hhas
              have hsz := hA.size
              rw [if_pos hhas] at hsz
              rw [hsz] at hn1
              clear hbm hbh hA hsz hhas
              go_wp2
              go_ret
              exact ⟨rfl, T.bel⟩
            · have hl4 := look_ok T.own2 hws hat'.out (y := false) (by simpa using hhas)
              have hsz := hA.size
              rw [if_neg hhas] at hsz
              rw [hsz, show ((Maps.size (build zs bs k) + 1 : Nat) : Int) = (Maps.size (build zs bs k) : Int) + 1 from rfl] at hn1
              clear hbm hbh hA hsz hhas
              go_wp2
              go_ret
              exact ⟨rfl, T.bel⟩
end Go.Proofs.Qxb6601356a
