/-
  lastNamesFrom: the plain law: counting slashes from the end and from the front. No Go in sight.
-/
namespace Go.Proofs.Qxb6601456a.Plain

/-- how many of the first i hold -/
def cnt (P : Nat → Bool) : Nat → Nat
  | 0 => 0
  | i + 1 => cnt P i + if P i = true then 1 else 0

/-- the last one below e that holds, or -1 -/
def lastBelow (P : Nat → Bool) : Nat → Int
  | 0 => -1
  | e + 1 => if P e = true then (e : Int) else lastBelow P e

theorem cnt_le (P : Nat → Bool) : ∀ i, cnt P i ≤ i
  | 0 => Nat.le_refl _
  | i + 1 => by have := cnt_le P i; unfold cnt; split <;> omega

theorem cnt_mono (P : Nat → Bool) (i : Nat) : ∀ d, cnt P i ≤ cnt P (i + d)
  | 0 => Nat.le_refl _
  | d + 1 => by
    have := cnt_mono P i d
    show cnt P i ≤ cnt P (i + d) + if P (i + d) = true then 1 else 0
    omega

theorem cnt_lt_of (P : Nat → Bool) {i j : Nat} (h : i < j) (hj : P j = true) : cnt P (i + 1) < cnt P (j + 1) := by
  have h1 := cnt_mono P (i + 1) (j - (i + 1))
  rw [show i + 1 + (j - (i + 1)) = j by omega] at h1
  show _ < cnt P j + if P j = true then 1 else 0
  rw [if_pos hj]
  omega

theorem last_none (P : Nat → Bool) : ∀ e, cnt P e = 0 → lastBelow P e = -1
  | 0, _ => rfl
  | e + 1, h => by
    unfold cnt at h
    unfold lastBelow
    by_cases hp : P e = true
    · rw [if_pos hp] at h; omega
    · rw [if_neg hp]; exact last_none P e (by omega)

theorem last_some (P : Nat → Bool) : ∀ e, 0 < cnt P e → ∃ i : Nat, lastBelow P e = i ∧ i < e ∧ P i = true ∧ cnt P i + 1 = cnt P e
  | 0, h => by simp [cnt] at h
  | e + 1, h => by
    unfold cnt at h
    unfold lastBelow
    by_cases hp : P e = true
    · refine ⟨e, by rw [if_pos hp], by omega, hp, ?_⟩
      show _ = cnt P e + if P e = true then 1 else 0
      rw [if_pos hp]
    · rw [if_neg hp] at h
      obtain ⟨i, h1, h2, h3, h4⟩ := last_some P e (by omega)
      refine ⟨i, by rw [if_neg hp]; exact h1, by omega, h3, ?_⟩
      show _ = cnt P e + if P e = true then 1 else 0
      rw [if_neg hp]
      omega

theorem last_congr {P Q : Nat → Bool} : ∀ e, (∀ i, i < e → P i = Q i) → lastBelow P e = lastBelow Q e
  | 0, _ => rfl
  | e + 1, h => by
    unfold lastBelow
    rw [h e (by omega), last_congr e (fun i hi => h i (by omega))]

/-- where a scan from the end left off, and the one that holds there is unique by its count -/
theorem unique (P : Nat → Bool) {i j : Nat} (hi : P i = true) (hj : P j = true) (h : cnt P (i + 1) = cnt P (j + 1)) : i = j := by
  rcases Nat.lt_or_ge i j with h1 | h1
  · have := cnt_lt_of P h1 hj; omega
  · rcases Nat.lt_or_ge j i with h2 | h2
    · have := cnt_lt_of P h2 hi; omega
    · omega

theorem cnt_succ_pos (P : Nat → Bool) {i : Nat} (h : P i = true) : cnt P (i + 1) = cnt P i + 1 := by
  show cnt P i + (if P i = true then 1 else 0) = _
  rw [if_pos h]
theorem cnt_succ_neg (P : Nat → Bool) {i : Nat} (h : P i = false) : cnt P (i + 1) = cnt P i := by
  show cnt P i + (if P i = true then 1 else 0) = _
  rw [if_neg (by simp [h]), Nat.add_zero]

theorem exists_at (P : Nat → Bool) : ∀ len c, 1 ≤ c → c ≤ cnt P len → ∃ i, i < len ∧ P i = true ∧ cnt P (i + 1) = c
  | 0, c, h1, h2 => by simp [cnt] at h2; omega
  | len + 1, c, h1, h2 => by
    by_cases hp : P len = true
    · rw [cnt_succ_pos P hp] at h2
      by_cases hc : c = cnt P len + 1
      · exact ⟨len, by omega, hp, by rw [cnt_succ_pos P hp, hc]⟩
      · obtain ⟨i, a, b, d⟩ := exists_at P len c h1 (by omega)
        exact ⟨i, by omega, b, d⟩
    · rw [cnt_succ_neg P (by simpa using hp)] at h2
      obtain ⟨i, a, b, d⟩ := exists_at P len c h1 h2
      exact ⟨i, by omega, b, d⟩

end Go.Proofs.Qxb6601456a.Plain
