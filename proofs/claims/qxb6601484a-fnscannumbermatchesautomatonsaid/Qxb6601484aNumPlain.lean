/-
  The scanner's number and the automaton's: the plain law. No Go in sight.
-/
namespace Go.Proofs.Qxb6601484a.Num

def dgt (c : Int) : Bool := decide (48 ≤ c) && decide (c ≤ 57)
def isE (c : Int) : Bool := (c == 101) || (c == 69)
def isS (c : Int) : Bool := (c == 43) || (c == 45)

/-- the automaton's table -/
def nstep (s : Nat) (c : Int) : Int :=
  match s with
  | 0 => if c == 45 then 1 else if c == 48 then 2 else if dgt c then 3 else -1
  | 1 => if c == 48 then 2 else if dgt c then 3 else -1
  | 2 => if c == 46 then 4 else if isE c then 6 else -1
  | 3 => if dgt c then 3 else if c == 46 then 4 else if isE c then 6 else -1
  | 4 => if dgt c then 5 else -1
  | 5 => if dgt c then 5 else if isE c then 6 else -1
  | 6 => if isS c then 7 else if dgt c then 8 else -1
  | 7 => if dgt c then 8 else -1
  | 8 => if dgt c then 8 else -1
  | _ => -1

theorem nstep_bd (s : Nat) (c : Int) : -1 ≤ nstep s c ∧ nstep s c ≤ 8 := by
  unfold nstep
  split <;> (repeat' split) <;> omega

def acc (s : Nat) : Bool := (s == 2) || (s == 3) || (s == 5) || (s == 8)

variable (z : Nat → Int) (len : Nat)

/-- where the automaton stops, and in which state -/
def run : Nat → Nat → Nat → Nat × Nat
  | 0, s, q => (q, s)
  | f + 1, s, q => if q < len then (if nstep s (z q) < 0 then (q, s) else run f (nstep s (z q)).toNat (q + 1)) else (q, s)

def R (s q : Nat) : Nat × Nat := run z len (len - q) s q

theorem R_end (s q : Nat) (h : ¬ q < len) : R z len s q = (q, s) := by
  unfold R
  rw [show len - q = 0 by omega]
  rfl

theorem R_stop (s q : Nat) (h : nstep s (z q) < 0) : R z len s q = (q, s) := by
  by_cases hq : q < len
  · unfold R
    obtain ⟨f, hf⟩ : ∃ f, len - q = f + 1 := ⟨len - q - 1, by omega⟩
    rw [hf]
    unfold run
    rw [if_pos hq, if_pos h]
  · exact R_end z len s q hq

theorem R_go (s q : Nat) (hq : q < len) (h : ¬ nstep s (z q) < 0) : R z len s q = R z len (nstep s (z q)).toNat (q + 1) := by
  unfold R
  obtain ⟨f, hf⟩ : ∃ f, len - q = f + 1 := ⟨len - q - 1, by omega⟩
  rw [hf, show len - (q + 1) = f by omega]
  conv => lhs; unfold run
  rw [if_pos hq, if_neg h]

/-- where the digits from j end -/
def de : Nat → Nat → Nat
  | 0, j => j
  | f + 1, j => if j < len ∧ dgt (z j) = true then de f (j + 1) else j

def D (j : Nat) : Nat := de z len (len - j) j

theorem D_stop (j : Nat) (h : ¬ (j < len ∧ dgt (z j) = true)) : D z len j = j := by
  unfold D
  cases hf : len - j with
  | zero => rfl
  | succ f => unfold de; rw [if_neg h]

theorem D_go (j : Nat) (h : j < len ∧ dgt (z j) = true) : D z len j = D z len (j + 1) := by
  unfold D
  obtain ⟨f, hf⟩ : ∃ f, len - j = f + 1 := ⟨len - j - 1, by omega⟩
  rw [hf, show len - (j + 1) = f by omega]
  conv => lhs; unfold de
  rw [if_pos h]

/-- D j is at or behind j, within len if j is, and no digit stands there -/
theorem D_spec : ∀ (f j : Nat), len - j = f → j ≤ D z len j ∧ (j ≤ len → D z len j ≤ len) ∧ ¬ (D z len j < len ∧ dgt (z (D z len j)) = true)
  | f, j, hf => by
    by_cases h : j < len ∧ dgt (z j) = true
    · cases f with
      | zero => omega
      | succ f =>
        obtain ⟨a, b, c⟩ := D_spec f (j + 1) (by omega)
        rw [← D_go z len j h] at a b c
        exact ⟨by omega, fun _ => b (by omega), c⟩
    · rw [D_stop z len j h]
      exact ⟨Nat.le_refl _, fun h => h, h⟩

theorem D_le (j : Nat) : j ≤ D z len j := (D_spec z len _ j rfl).1
theorem D_len (j : Nat) (h : j ≤ len) : D z len j ≤ len := (D_spec z len _ j rfl).2.1 h
theorem D_not (j : Nat) : ¬ (D z len j < len ∧ dgt (z (D z len j)) = true) := (D_spec z len _ j rfl).2.2

/-- a state that digits keep -/
theorem R_digits (s : Nat) (hs : ∀ c, dgt c = true → nstep s c = s) : ∀ (f j : Nat), len - j = f → R z len s j = R z len s (D z len j)
  | f, j, hf => by
    by_cases h : j < len ∧ dgt (z j) = true
    · cases f with
      | zero => omega
      | succ f =>
        have e := hs _ h.2
        rw [R_go z len s j h.1 (by rw [e]; omega), e, D_go z len j h]
        simpa using R_digits s hs f (j + 1) (by omega)
    · rw [D_stop z len j h]

theorem keep3 (c : Int) (h : dgt c = true) : nstep 3 c = (3 : Nat) := by simp [nstep, h]
theorem keep5 (c : Int) (h : dgt c = true) : nstep 5 c = (5 : Nat) := by simp [nstep, h]
theorem keep8 (c : Int) (h : dgt c = true) : nstep 8 c = (8 : Nat) := by simp [nstep, h]

/-! ### the scanner's number, in stages -/
/-- behind the sign -/
def s1 (i : Nat) : Nat := if z i == 45 then i + 1 else i
/-- behind the integer part -/
def s2 (p : Nat) : Option Nat := if p < len ∧ (z p == 48) = true then some (p + 1) else if p < len ∧ 49 ≤ z p ∧ z p ≤ 57 then some (D z len (p + 1)) else none
/-- behind the fraction -/
def s3 (q : Nat) : Option Nat := if q < len ∧ (z q == 46) = true then (if q + 1 < D z len (q + 1) then some (D z len (q + 1)) else none) else some q
/-- behind the exponent's sign -/
def s4 (p : Nat) : Nat := if p < len ∧ isS (z p) = true then p + 1 else p
/-- behind the exponent -/
def s5 (q : Nat) : Option Nat := if q < len ∧ isE (z q) = true then (if s4 z len (q + 1) < D z len (s4 z len (q + 1)) then some (D z len (s4 z len (q + 1))) else none) else some q

def num (i : Nat) : Option Nat := (s2 z len (s1 z i)).bind fun q => (s3 z len q).bind fun r => s5 z len r

/-- the number that the automaton reads -/
def out (x : Nat × Nat) : Option Nat := if acc x.2 = true then some x.1 else none

theorem D_pos (j : Nat) (h : j < D z len j) : j < len ∧ dgt (z j) = true := by
  by_cases h2 : j < len ∧ dgt (z j) = true
  · exact h2
  · rw [D_stop z len j h2] at h; omega

theorem exp_law (s q : Nat) (hs : s = 2 ∨ s = 3 ∨ s = 5) (hd : s = 2 ∨ ¬ (q < len ∧ dgt (z q) = true)) (h46 : s = 5 ∨ ¬ (q < len ∧ (z q == 46) = true)) : out (R z len s q) = s5 z len q := by
  have hacc : acc s = true := by rcases hs with rfl | rfl | rfl <;> rfl
  unfold s5
  by_cases hq : q < len
  · by_cases he : isE (z q) = true
    · rw [if_pos ⟨hq, he⟩]
      have hn : nstep s (z q) = 6 := by
        have hnd : dgt (z q) = false := by
          have := he
          unfold isE at this
          simp at this
          unfold dgt
          simp
          omega
        have hn46 : (z q == 46) = false := by
          have := he
          unfold isE at this
          simp at this ⊢
          omega
        rcases hs with rfl | rfl | rfl <;> simp [nstep, he, hnd, hn46]
      rw [R_go z len s q hq (by rw [hn]; omega), hn]
      show out (R z len 6 (q + 1)) = _
      -- behind the e
      have tail : ∀ t p, (t = 6 ∨ t = 7) → (t = 6 → ¬ (p < len ∧ isS (z p) = true)) → out (R z len t p) = if p < D z len p then some (D z len p) else none := by
        intro t p ht h6
        by_cases hp : p < len ∧ dgt (z p) = true
        · have hlt : p < D z len p := by rw [D_go z len p hp]; exact D_le z len (p + 1)
          rw [if_pos hlt]
          have h8 : nstep t (z p) = 8 := by
            rcases ht with rfl | rfl
            · have hns : isS (z p) = false := by
                cases h : isS (z p)
                · rfl
                · exact absurd ⟨hp.1, h⟩ (h6 rfl)
              simp [nstep, hp.2, hns]
            · simp [nstep, hp.2]
          rw [R_go z len t p hp.1 (by rw [h8]; omega), h8]
          show out (R z len 8 (p + 1)) = _
          rw [R_digits z len 8 keep8 _ (p + 1) rfl, ← D_go z len p hp]
          have hno := D_not z len p
          generalize D z len p = e at hno
          have hst : R z len 8 e = (e, 8) := by
            by_cases he : e < len
            · refine R_stop z len 8 e ?_
              have : dgt (z e) = false := by
                cases h : dgt (z e)
                · rfl
                · exact absurd ⟨he, h⟩ hno
              simp [nstep, this]
            · exact R_end z len 8 e he
          rw [hst]
          rfl
        · rw [D_stop z len p hp, if_neg (by omega)]
          have hst : R z len t p = (p, t) := by
            by_cases hpl : p < len
            · refine R_stop z len t p ?_
              have hnd : dgt (z p) = false := by
                cases h : dgt (z p)
                · rfl
                · exact absurd ⟨hpl, h⟩ hp
              rcases ht with rfl | rfl
              · have hns : isS (z p) = false := by
                  cases h : isS (z p)
                  · rfl
                  · exact absurd ⟨hpl, h⟩ (h6 rfl)
                simp [nstep, hnd, hns]
              · simp [nstep, hnd]
            · exact R_end z len t p hpl
          rw [hst]
          rcases ht with rfl | rfl <;> rfl
      by_cases hsn : q + 1 < len ∧ isS (z (q + 1)) = true
      · have h7 : nstep 6 (z (q + 1)) = 7 := by simp [nstep, hsn.2]
        rw [R_go z len 6 (q + 1) hsn.1 (by rw [h7]; omega), h7]
        show out (R z len 7 (q + 1 + 1)) = _
        rw [tail 7 _ (.inr rfl) (fun h => by omega)]
        unfold s4
        rw [if_pos hsn]
      · rw [tail 6 _ (.inl rfl) (fun _ => hsn)]
        unfold s4
        rw [if_neg hsn]
    · rw [if_neg (fun h => he h.2)]
      have hst : R z len s q = (q, s) := by
        refine R_stop z len s q ?_
        have hne : isE (z q) = false := by simpa using he
        rcases hs with rfl | rfl | rfl
        · have h2 : (z q == 46) = false := by
            cases h : (z q == 46)
            · rfl
            · rcases h46 with h' | h'
              · omega
              · exact absurd ⟨hq, h⟩ h'
          simp [nstep, hne, h2]
        · have h2 : (z q == 46) = false := by
            cases h : (z q == 46)
            · rfl
            · rcases h46 with h' | h'
              · omega
              · exact absurd ⟨hq, h⟩ h'
          have h3 : dgt (z q) = false := by
            cases h : dgt (z q)
            · rfl
            · rcases hd with h' | h'
              · omega
              · exact absurd ⟨hq, h⟩ h'
          simp [nstep, hne, h2, h3]
        · have h3 : dgt (z q) = false := by
            cases h : dgt (z q)
            · rfl
            · rcases hd with h' | h'
              · omega
              · exact absurd ⟨hq, h⟩ h'
          simp [nstep, hne, h3]
      rw [hst]
      unfold out
      rw [if_pos hacc]
  · rw [if_neg (fun h => hq h.1), R_end z len s q hq]
    unfold out
    rw [if_pos hacc]

theorem frac_law (s q : Nat) (hs : s = 2 ∨ s = 3) (hd : s = 2 ∨ ¬ (q < len ∧ dgt (z q) = true)) : out (R z len s q) = (s3 z len q).bind fun r => s5 z len r := by
  unfold s3
  by_cases h : q < len ∧ (z q == 46) = true
  · rw [if_pos h]
    have h4 : nstep s (z q) = 4 := by
      have : z q = 46 := by simpa using h.2
      rw [this]
      rcases hs with rfl | rfl <;> decide
    rw [R_go z len s q h.1 (by rw [h4]; omega), h4]
    show out (R z len 4 (q + 1)) = _
    by_cases hd1 : q + 1 < len ∧ dgt (z (q + 1)) = true
    · have hlt : q + 1 < D z len (q + 1) := by rw [D_go z len (q + 1) hd1]; exact D_le z len (q + 1 + 1)
      rw [if_pos hlt]
      have h5 : nstep 4 (z (q + 1)) = 5 := by simp [nstep, hd1.2]
      rw [R_go z len 4 (q + 1) hd1.1 (by rw [h5]; omega), h5]
      show out (R z len 5 (q + 1 + 1)) = _
      rw [R_digits z len 5 keep5 _ (q + 1 + 1) rfl, ← D_go z len (q + 1) hd1]
      exact exp_law z len 5 _ (.inr (.inr rfl)) (.inr (D_not z len (q + 1))) (.inl rfl)
    · rw [D_stop z len (q + 1) hd1, if_neg (by omega)]
      have hst : R z len 4 (q + 1) = (q + 1, 4) := by
        by_cases hpl : q + 1 < len
        · refine R_stop z len 4 (q + 1) ?_
          have hnd : dgt (z (q + 1)) = false := by
            cases h : dgt (z (q + 1))
            · rfl
            · exact absurd ⟨hpl, h⟩ hd1
          simp [nstep, hnd]
        · exact R_end z len 4 (q + 1) hpl
      rw [hst]
      rfl
  · rw [if_neg h]
    show _ = s5 z len q
    exact exp_law z len s q (by rcases hs with h | h <;> simp [h]) hd (.inr h)

theorem int_law (s p : Nat) (hs : s = 0 ∨ s = 1) (h45 : s = 0 → ¬ (p < len ∧ (z p == 45) = true)) : out (R z len s p) = (s2 z len p).bind fun q => (s3 z len q).bind fun r => s5 z len r := by
  unfold s2
  by_cases h48 : p < len ∧ (z p == 48) = true
  · rw [if_pos h48]
    have h2 : nstep s (z p) = 2 := by
      have : z p = 48 := by simpa using h48.2
      rw [this]
      rcases hs with rfl | rfl <;> decide
    rw [R_go z len s p h48.1 (by rw [h2]; omega), h2]
    show out (R z len 2 (p + 1)) = _
    exact frac_law z len 2 (p + 1) (.inl rfl) (.inl rfl)
  · rw [if_neg h48]
    by_cases h49 : p < len ∧ 49 ≤ z p ∧ z p ≤ 57
    · rw [if_pos h49]
      have h3 : nstep s (z p) = 3 := by
        have e1 : (z p == 45) = false := by simp; omega
        have e2 : (z p == 48) = false := by simp; omega
        have e3 : dgt (z p) = true := by unfold dgt; simp; omega
        rcases hs with rfl | rfl <;> simp [nstep, e1, e2, e3]
      rw [R_go z len s p h49.1 (by rw [h3]; omega), h3]
      show out (R z len 3 (p + 1)) = _
      rw [R_digits z len 3 keep3 _ (p + 1) rfl]
      exact frac_law z len 3 _ (.inr rfl) (.inr (D_not z len (p + 1)))
    · rw [if_neg h49]
      have hst : R z len s p = (p, s) := by
        by_cases hp : p < len
        · refine R_stop z len s p ?_
          have e2 : (z p == 48) = false := by
            cases h : (z p == 48)
            · rfl
            · exact absurd ⟨hp, h⟩ h48
          have e3 : dgt (z p) = false := by
            have : z p ≠ 48 := by simpa using e2
            unfold dgt
            simp
            omega
          rcases hs with rfl | rfl
          · have e1 : (z p == 45) = false := by
              cases h : (z p == 45)
              · rfl
              · exact absurd ⟨hp, h⟩ (h45 rfl)
            simp [nstep, e1, e2, e3]
          · simp [nstep, e2, e3]
        · exact R_end z len s p hp
      rw [hst]
      rcases hs with rfl | rfl <;> rfl

/-- THE LAW: the scanner reads just what the automaton reads -/
theorem num_law (i : Nat) (hi : i < len) : num z len i = out (R z len 0 i) := by
  unfold num s1
  by_cases h : (z i == 45) = true
  · rw [if_pos h]
    have h1 : nstep 0 (z i) = 1 := by simp [nstep, h]
    rw [R_go z len 0 i hi (by rw [h1]; omega), h1]
    exact (int_law z len 1 (i + 1) (.inr rfl) (fun h => by omega)).symm
  · rw [if_neg h]
    exact (int_law z len 0 i (.inl rfl) (fun _ h' => h h'.2)).symm

end Go.Proofs.Qxb6601484a.Num
