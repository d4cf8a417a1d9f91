/-
  (*scan).number (16): its contract.
-/
import Derived.Test.Qxb6601484aDigits
import Derived.RegionTactic
import Derived.ChangeAlike
import Derived.Deep.DeepCutAuto
import Derived.Deep.CutBlock
namespace Go.Proofs.Qxb6601484a
open Go.RowKit Go.Deep Num
set_option linter.unusedVariables false
set_option maxRecDepth 100000

/-- what the call leaves -/
def NPost (z : Nat → Int) (len i sb : Nat) (lone : Bool) (w : World) (e : Ending) (w' : World) : Prop :=
  e = .returned (.bool (num z len i).isSome) ∧ w'.cell? ⟨sb, 1, none⟩ = some (.int .i64 ((num z len i).getD i : Nat)) ∧ w'.cell? ⟨sb, 2, none⟩ = some (.bool lone) ∧ Below sb w w'

theorem npost_none {z : Nat → Int} {len i sb : Nat} {lone : Bool} {w wc : World} (hn : num z len i = none) (k1 : wc.cell? ⟨sb, 1, none⟩ = some (.int .i64 i)) (k2 : wc.cell? ⟨sb, 2, none⟩ = some (.bool lone)) (hb : Below sb w wc) : NPost z len i sb lone w (.returned (.bool false)) wc := by
  unfold NPost
  rw [hn]
  exact ⟨rfl, k1, k2, hb⟩

theorem npost_some {z : Nat → Int} {len i sb r : Nat} {lone : Bool} {w wc : World} {v : Value} (hn : num z len i = some r) (k1 : wc.cell? ⟨sb, 1, none⟩ = some v) (k2 : wc.cell? ⟨sb, 2, none⟩ = some (.bool lone)) (hb : Below sb w wc) :
    NPost z len i sb lone w (.returned (.bool true)) (wc.setCell ⟨sb, 1, none⟩ (.int .i64 r)) := by
  unfold NPost
  rw [hn]
  refine ⟨rfl, ?_, ?_, hb.setCell (Nat.le_refl _) _⟩
  · exact World.cell?_setCell_same _ _ _ k1
  · rw [World.cell?_setCell_other _ _ _ _ (by simp)]; exact k2

theorem num_2 {z : Nat → Int} {len i : Nat} (h : s2 z len (s1 z i) = none) : num z len i = none := by unfold num; rw [h]; rfl
theorem num_3 {z : Nat → Int} {len i q : Nat} (h : s2 z len (s1 z i) = some q) (h3 : s3 z len q = none) : num z len i = none := by unfold num; rw [h]; show (s3 z len q).bind _ = _; rw [h3]; rfl
theorem num_5 {z : Nat → Int} {len i q r : Nat} {x : Option Nat} (h : s2 z len (s1 z i) = some q) (h3 : s3 z len q = some r) (h5 : s5 z len r = x) : num z len i = x := by
  unfold num; rw [h]; show (s3 z len q).bind _ = _; rw [h3]; exact h5

theorem digits_at (V B len cap j : Nat) (a : Int) (z : Nat → Int) (w : World) (ha : a = (j : Nat)) (hm : len ≤ 1048576) (hv : w.cell? ⟨V, 0, none⟩ = some (.slice (some ⟨B, 0, none⟩) len cap)) (hrow : Bytes w B len z) (hz : ∀ j, 0 ≤ z j ∧ z j ≤ 255) (hj : j ≤ len) :
    Calls Try.prog 19 #[.int .i64 a, .pointer (some ⟨V, 0, none⟩)] w fun e w' => e = .returned (.int .i64 (D z len j : Nat)) ∧ w = w' := by
  subst ha
  exact digits_any V B len cap j z w hm hv hrow hz hj

set_option maxHeartbeats 3200000 in
theorem number_any (sb B len cap i : Nat) (lone : Bool) (z : Nat → Int) (w : World) (hm : len ≤ 1048576) (c0 : w.cell? ⟨sb, 0, none⟩ = some (.slice (some ⟨B, 0, none⟩) len cap)) (c1 : w.cell? ⟨sb, 1, none⟩ = some (.int .i64 i)) (c2 : w.cell? ⟨sb, 2, none⟩ = some (.bool lone))
    (f1 : w.frozen? ⟨sb, 1, none⟩ = false) (hrow : Bytes w B len z) (hz : ∀ j, 0 ≤ z j ∧ z j ≤ 255) (hi : i < len) (hB : B < sb) (hsb : sb < w.heap.size) :
    Calls Try.prog 16 #[.pointer (some ⟨sb, 0, none⟩)] w fun e w' => NPost z len i sb lone w e w' := by
  go_enter Try.func16, Try.ntmps16
  go_upto_region 1 with fail
  go_cut [3, 4] (fun s3 s4 wx => ∃ V, s3 = .pointer (some ⟨V, 0, none⟩) ∧ s4 = .int .i64 i ∧ wx.cell? ⟨V, 0, none⟩ = some (.slice (some ⟨B, 0, none⟩) len cap) ∧ Below w.heap.size w wx)
  case first =>
    go_region
    go_wp2_with fail
    go_meet
    exact ⟨_, rfl, rfl, by simp, ((Below.refl _ _).alloc (Nat.le_refl _) _).drew⟩
  case rest =>
  obtain ⟨V, rfl, rfl, hv, hb0⟩ := hcut
  have hrow' : Bytes wc B len z := World.rowIs.of_block hrow (hb0.block B (by omega))
  have k1 := (hb0.cell (p := ⟨sb, 1, none⟩) hsb).trans c1
  have k2 := (hb0.cell (p := ⟨sb, 2, none⟩) hsb).trans c2
  have kf := (hb0.frozen (p := ⟨sb, 1, none⟩) hsb).trans f1
  have hbs := hb0.mono (Nat.le_of_lt hsb)
  clear c0 c1 c2 f1 hrow hb0
  have hci := World.rowIs.cell hrow' hi
  go_upto_if 21 with fail
  go_cut [4] (fun s4 wx => s4 = .int .i64 (s1 z i : Nat) ∧ wx = wc)
  case first =>
    by_cases h45 : (z i == 45) = true
    · have h1 : Hid (s1 z i = i + 1) := by show (if _ then _ else _) = _; rw [if_pos h45]
      go_wp2_with fail
      go_meet
      exact ⟨by rw [h1.out]; rfl, rfl⟩
    · have h45' : (z i == 45) = false := by simpa using h45
      have h1 : Hid (s1 z i = i) := by show (if _ then _ else _) = _; rw [if_neg h45]
      clear h45
      go_wp2_with fail
      go_meet
      exact ⟨by rw [h1.out], rfl⟩
  case rest =>
  obtain ⟨rfl, rfl⟩ := hcut
  have hp1 : s1 z i ≤ len := by unfold s1; split <;> omega
  have H1 : Hid (s1 z i = s1 z i) := rfl
  obtain ⟨p, HP⟩ : ∃ p, Hid (s1 z i = p) := ⟨_, rfl⟩
  rw [HP.out] at hp1 ⊢
  clear H1 hci
  have hzp := hz p
  go_upto_block 0 with fail
  go_cut [4, 24, 38] (fun s4 s24 s38 wx => ∃ q, q ≤ len ∧ s4 = .int .i64 (q : Nat) ∧ Hid (s2 z len p = some q) ∧ wx = wc)
  case first =>
    by_cases hpl : p < len
    · have hcp := World.rowIs.cell hrow' hpl
      have hd : decide ((p : Int) < (len : Int)) = true := by simpa using hpl
      by_cases h48 : (z p == 48) = true
      · have h2 : Hid (s2 z len p = some (p + 1)) := by show (if _ then _ else _) = _; rw [if_pos ⟨hpl, h48⟩]
        go_wp2_with fail
        go_meet
        exact ⟨p + 1, by omega, rfl, h2, rfl⟩
      · have h48' : (z p == 48) = false := by simpa using h48
        by_cases h49 : 49 ≤ z p
        · have hd1 : decide (49 ≤ z p) = true := by simpa using h49
          by_cases h57 : z p ≤ 57
          · have h2 : Hid (s2 z len p = some (D z len (p + 1))) := by show (if _ then _ else (if _ then _ else _)) = _; rw [if_neg (fun h => h48 h.2), if_pos ⟨hpl, h49, h57⟩]
            have hdl := D_len z len (p + 1) (by omega)
            clear h48
            go_wp2_with fail
            refine (digits_at V B len cap (p + 1) _ z _ (by omega) hm hv hrow' hz (by omega)).mono ?_
            rintro e w' ⟨rfl, rfl⟩
            go_wp2_with fail
            go_meet
            exact ⟨D z len (p + 1), hdl, rfl, h2, rfl⟩
          · have h2 : s2 z len p = none := by show (if _ then _ else (if _ then _ else _)) = _; rw [if_neg (fun h => h48 h.2), if_neg (fun h => h57 h.2.2)]
            have hn : Hid (num z len i = none) := num_2 (by rw [HP.out]; exact h2)
            clear h48 h2
            go_wp2_with fail
            go_ret
            exact npost_none hn.out k1 k2 hbs
        · have hd1 : decide (49 ≤ z p) = false := by simpa using h49
          have h2 : s2 z len p = none := by show (if _ then _ else (if _ then _ else _)) = _; rw [if_neg (fun h => h48 h.2), if_neg (fun h => h49 h.2.1)]
          have hn : Hid (num z len i = none) := num_2 (by rw [HP.out]; exact h2)
          clear h48 h2
          go_wp2_with fail
          go_ret
          exact npost_none hn.out k1 k2 hbs
    · have hd : decide ((p : Int) < (len : Int)) = false := by simpa using hpl
      have h2 : s2 z len p = none := by show (if _ then _ else (if _ then _ else _)) = _; rw [if_neg (fun h => hpl h.1), if_neg (fun h => hpl h.1)]
      have hn : Hid (num z len i = none) := num_2 (by rw [HP.out]; exact h2)
      clear h2
      go_wp2_with fail
      go_ret
      exact npost_none hn.out k1 k2 hbs
  case rest =>
  obtain ⟨q, hq, rfl, H2, rfl⟩ := hcut
  clear hzp hp1
  have H2' : Hid (s2 z len (s1 z i) = some q) := by show _ = _; rw [HP.out]; exact H2.out
  clear H2 HP
  have hzq := hz q
  go_upto_region 10 with fail
  go_cut [71] (fun s71 wx => s71 = .bool (decide (q < len) && (z q == 46)) ∧ wx = wc)
  case first =>
    by_cases hql : q < len
    · have hcq := World.rowIs.cell hrow' hql
      have hd : decide ((q : Int) < (len : Int)) = true := by simpa using hql
      go_wp2_with fail
      go_meet
      exact ⟨by simp [hql], rfl⟩
    · have hd : decide ((q : Int) < (len : Int)) = false := by simpa using hql
      go_wp2_with fail
      go_meet
      exact ⟨by simp [hql], rfl⟩
  case rest =>
  obtain ⟨rfl, rfl⟩ := hcut
  obtain ⟨bq, HBQ⟩ : ∃ b, Hid ((decide (q < len) && (z q == 46)) = b) := ⟨_, rfl⟩
  rw [HBQ.out]
  go_upto_if 71 with fail
  go_cut [4, 6] (fun s4 s6 wx => ∃ r, r ≤ len ∧ s4 = .int .i64 (r : Nat) ∧ Hid (s3 z len q = some r) ∧ wx = wc)
  case first =>
    cases bq
    · have h3 : Hid (s3 z len q = some q) := by show (if _ then _ else _) = _; rw [if_neg (fun h => by have := HBQ.out; simp [h.1] at this; simp [this] at h)]
      go_wp2_with fail
      go_meet
      exact ⟨q, hq, rfl, h3, rfl⟩
    · have hql : q < len ∧ (z q == 46) = true := by have := HBQ.out; rw [Bool.and_eq_true] at this; exact ⟨of_decide_eq_true this.1, this.2⟩
      have hdl := D_len z len (q + 1) (by omega)
      obtain ⟨e, HE⟩ : ∃ e, Hid (D z len (q + 1) = e) := ⟨_, rfl⟩
      rw [HE.out] at hdl
      by_cases hlt : q + 1 < e
      · have h3 : Hid (s3 z len q = some e) := by show (if _ then (if _ then _ else _) else _) = _; rw [if_pos hql, HE.out, if_pos hlt]
        clear hql
        go_wp2_with fail
        refine (digits_at V B len cap (q + 1) _ z _ (by omega) hm hv hrow' hz (by omega)).mono ?_
        rintro e' w' ⟨rfl, rfl⟩
        rw [HE.out]
        go_wp2_with fail
        go_meet
        exact ⟨e, hdl, rfl, h3, rfl⟩
      · have h3 : s3 z len q = none := by show (if _ then (if _ then _ else _) else _) = _; rw [if_pos hql, HE.out, if_neg hlt]
        have hn : Hid (num z len i = none) := num_3 H2'.out h3
        have hq1 : q < len := hql.1
        clear hql h3
        go_wp2_with fail
        refine (digits_at V B len cap (q + 1) _ z _ (by omega) hm hv hrow' hz (by omega)).mono ?_
        rintro e' w' ⟨rfl, rfl⟩
        rw [HE.out]
        go_wp2_with fail
        go_ret
        exact npost_none hn.out k1 k2 hbs
  case rest =>
  obtain ⟨r, hr, rfl, H3, rfl⟩ := hcut
  clear hzq HBQ
  have HN5 : Hid (∀ x, s5 z len r = x → num z len i = x) := fun x h => num_5 H2'.out H3.out h
  clear H2' H3
  have hzr := hz r
  go_upto_region 15 with fail
  go_cut [98] (fun s98 wx => s98 = .bool (decide (r < len) && isE (z r)) ∧ wx = wc)
  case first =>
    by_cases hrl : r < len
    · have hcr := World.rowIs.cell hrow' hrl
      have hd : decide ((r : Int) < (len : Int)) = true := by simpa using hrl
      obtain ⟨g, hg⟩ : ∃ g, (z r == 101) = g := ⟨_, rfl⟩
      cases g
      · go_wp2_with fail
        go_meet
        exact ⟨by simp [hrl, isE, hg], rfl⟩
      · go_wp2_with fail
        go_meet
        exact ⟨by simp [hrl, isE, hg], rfl⟩
    · have hd : decide ((r : Int) < (len : Int)) = false := by simpa using hrl
      go_wp2_with fail
      go_meet
      exact ⟨by simp [hrl], rfl⟩
  case rest =>
  obtain ⟨rfl, rfl⟩ := hcut
  obtain ⟨be, HBE⟩ : ∃ b, Hid ((decide (r < len) && isE (z r)) = b) := ⟨_, rfl⟩
  rw [HBE.out]
  cases be
  · have hn : Hid (num z len i = some r) := HN5.out _ (by show (if _ then _ else _) = _; rw [if_neg (fun h => by have := HBE.out; simp [h.1, h.2] at this)])
    clear HN5 HBE hzr
    go_wp2_with fail
    go_ret
    exact npost_some hn.out k1 k2 hbs
  · have hrl : r < len ∧ isE (z r) = true := by have := HBE.out; rw [Bool.and_eq_true] at this; exact ⟨of_decide_eq_true this.1, this.2⟩
    have hr1 : r < len := hrl.1
    have HRL : Hid (r < len ∧ isE (z r) = true) := hrl
    clear hrl HBE
    clear hzr
    have hzr := hz (r + 1)
    go_upto_region 17 with fail
    go_cut [118] (fun s118 wx => s118 = .bool (decide (r + 1 < len) && isS (z (r + 1))) ∧ wx = wc)
    case first =>
      by_cases hrl : r + 1 < len
      · have hcr := World.rowIs.cell hrow' hrl
        have hd : decide ((r : Int) + 1 < (len : Int)) = true := by simp; omega
        obtain ⟨g, hg⟩ : ∃ g, (z (r + 1) == 43) = g := ⟨_, rfl⟩
        cases g
        · go_wp2_with fail
          go_meet
          exact ⟨by simp [hrl, isS, hg], rfl⟩
        · go_wp2_with fail
          go_meet
          exact ⟨by simp [hrl, isS, hg], rfl⟩
      · have hd : decide ((r : Int) + 1 < (len : Int)) = false := by simp; omega
        go_wp2_with fail
        go_meet
        exact ⟨by simp [hrl], rfl⟩
    case rest =>
    obtain ⟨rfl, rfl⟩ := hcut
    obtain ⟨bs, HBS⟩ : ∃ b, Hid ((decide (r + 1 < len) && isS (z (r + 1))) = b) := ⟨_, rfl⟩
    rw [HBS.out]
    go_upto_if 118 with fail
    go_cut [4] (fun s4 wx => s4 = .int .i64 (Num.s4 z len (r + 1) : Nat) ∧ wx = wc)
    case first =>
      cases bs
      · have h4 : Hid (Num.s4 z len (r + 1) = r + 1) := by show (if _ then _ else _) = _; rw [if_neg (fun h => by have := HBS.out; simp [h.1, h.2] at this)]
        go_wp2_with fail
        go_meet
        exact ⟨by rw [h4.out]; rfl, rfl⟩
      · have h4 : Hid (Num.s4 z len (r + 1) = r + 1 + 1) := by
          have := HBS.out
          rw [Bool.and_eq_true] at this
          show (if _ then _ else _) = _
          rw [if_pos ⟨of_decide_eq_true this.1, this.2⟩]
        go_wp2_with fail
        go_meet
        exact ⟨by rw [h4.out]; rfl, rfl⟩
    case rest =>
    obtain ⟨rfl, rfl⟩ := hcut
    clear hzr HBS
    have hp5 : Num.s4 z len (r + 1) ≤ len := by unfold Num.s4; split <;> omega
    obtain ⟨p5, HP5⟩ : ∃ p, Hid (Num.s4 z len (r + 1) = p) := ⟨_, rfl⟩
    rw [HP5.out] at hp5 ⊢
    have hdl := D_len z len p5 hp5
    obtain ⟨e, HE⟩ : ∃ e, Hid (D z len p5 = e) := ⟨_, rfl⟩
    rw [HE.out] at hdl
    by_cases hlt : p5 < e
    · have hn : Hid (num z len i = some e) := HN5.out _ (by show (if _ then (if _ then _ else _) else _) = _; rw [if_pos HRL.out, HP5.out, HE.out, if_pos hlt])
      clear HN5 HRL HP5
      go_wp2_with fail
      refine (digits_at V B len cap p5 _ z _ rfl hm hv hrow' hz hp5).mono ?_
      rintro e' w' ⟨rfl, rfl⟩
      rw [HE.out]
      go_wp2_with fail
      go_ret
      exact npost_some hn.out k1 k2 hbs
    · have hn : Hid (num z len i = none) := HN5.out _ (by show (if _ then (if _ then _ else _) else _) = _; rw [if_pos HRL.out, HP5.out, HE.out, if_neg hlt])
      clear HN5 HRL HP5
      go_wp2_with fail
      refine (digits_at V B len cap p5 _ z _ rfl hm hv hrow' hz hp5).mono ?_
      rintro e' w' ⟨rfl, rfl⟩
      rw [HE.out]
      go_wp2_with fail
      go_ret
      exact npost_none hn.out k1 k2 hbs
end Go.Proofs.Qxb6601484a
