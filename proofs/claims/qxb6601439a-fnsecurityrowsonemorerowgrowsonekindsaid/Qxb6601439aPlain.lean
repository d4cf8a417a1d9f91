/-
  securityRows: the plain law: the rows handed out one by one, each to the kind that then holds the most a row. No Go in sight.
-/
namespace Go.Proofs.Qxb6601439a.Plain

/-- the cell at i -/
def at0 (xs : List Int) (i : Nat) : Int := xs[i]?.getD 0

theorem at0_set_same (xs : List Int) (i : Nat) (v : Int) (h : i < xs.length) : at0 (xs.set i v) i = v := by
  simp [at0, h]
theorem at0_set_other (xs : List Int) (i j : Nat) (v : Int) (h : j ≠ i) : at0 (xs.set i v) j = at0 xs j := by
  simp [at0, List.getElem?_set_ne (Ne.symm h)]

/-- the fewest rows that hold w at 400 a row -/
def least (w : Int) : Int := (w + 399) / 400

theorem least_pos {w : Int} (h : 0 < w) : 1 ≤ least w := by unfold least; omega
theorem least_zero : least 0 = 0 := by decide
theorem least_nonneg {w : Int} (h : 0 ≤ w) : 0 ≤ least w := by unfold least; omega
theorem least_le {w : Int} (h : w ≤ 1048576) : least w ≤ 2622 := by unfold least; omega

def leasts (ws : List Int) : List Int := ws.map least

theorem leasts_at (ws : List Int) (k : Nat) : at0 (leasts ws) k = least (at0 ws k) := by
  unfold at0 leasts
  rw [List.getElem?_map]
  cases ws[k]? with
  | none => simp; decide
  | some x => simp

/-- which kind is chosen, looking at the first k -/
def scan (ws rs : List Int) : Nat → Nat
  | 0 => 0
  | k + 1 => if at0 ws (scan ws rs k) * at0 rs k < at0 ws k * at0 rs (scan ws rs k) then k else scan ws rs k

def step (ws rs : List Int) : List Int := rs.set (scan ws rs ws.length) (at0 rs (scan ws rs ws.length) + 1)

def iter (ws : List Int) : Nat → List Int
  | 0 => leasts ws
  | j + 1 => step ws (iter ws j)

def sum : List Int → Int
  | [] => 0
  | x :: r => x + sum r

theorem iter_length (ws : List Int) : ∀ j, (iter ws j).length = ws.length
  | 0 => by simp [iter, leasts]
  | j + 1 => by simp [iter, step, iter_length ws j]

theorem scan_lt (ws rs : List Int) : ∀ k, 0 < k → scan ws rs k < k
  | 0, h => by omega
  | k + 1, _ => by
    unfold scan
    split
    · omega
    · cases k with
      | zero => simp [scan]
      | succ k => have := scan_lt ws rs (k + 1) (by omega); omega

theorem scan_le (ws rs : List Int) (k : Nat) : scan ws rs k ≤ k := by
  cases k with
  | zero => simp [scan]
  | succ k => have := scan_lt ws rs (k + 1) (by omega); omega

theorem sum_set : ∀ (rs : List Int) (i : Nat) (v : Int), i < rs.length → sum (rs.set i v) = sum rs - at0 rs i + v
  | [], i, v, h => by simp at h
  | x :: r, 0, v, _ => by simp [sum, at0]; omega
  | x :: r, i + 1, v, h => by
    have := sum_set r i v (by simpa using h)
    simp only [List.set_cons_succ, sum, this]
    simp only [at0, List.getElem?_cons_succ]
    omega

theorem iter_sum (ws : List Int) (h : 0 < ws.length) : ∀ j, sum (iter ws j) = sum (leasts ws) + j
  | 0 => by simp [iter]
  | j + 1 => by
    have ih := iter_sum ws h j
    have hl := scan_lt ws (iter ws j) ws.length h
    show sum (step ws (iter ws j)) = _
    unfold step
    rw [sum_set _ _ _ (by rw [iter_length]; exact hl), ih]
    omega

/-! ### the choice -/
theorem frac_trans {wi wm wk ri rm rk : Int} (hrm : 0 < rm) (hrk : 0 < rk) (hri : 0 < ri) (h1 : wi * rm ≤ wm * ri) (h2 : wm * rk < wk * rm) : wi * rk < wk * ri := by
  have e1 : rm * (wi * rk) = (wi * rm) * rk := by rw [← Int.mul_assoc, Int.mul_comm rm wi]
  have e2 : (wi * rm) * rk ≤ (wm * ri) * rk := Int.mul_le_mul_of_nonneg_right h1 (by omega)
  have e3 : (wm * ri) * rk = ri * (wm * rk) := by rw [Int.mul_comm wm ri, Int.mul_assoc]
  have e4 : ri * (wm * rk) < ri * (wk * rm) := Int.mul_lt_mul_of_pos_left h2 hri
  have e5 : ri * (wk * rm) = rm * (wk * ri) := by rw [Int.mul_comm wk rm, ← Int.mul_assoc, Int.mul_comm ri rm, Int.mul_assoc, Int.mul_comm ri wk]
  have : rm * (wi * rk) < rm * (wk * ri) := by omega
  exact Int.lt_of_mul_lt_mul_left this (by omega)

structure Fit (ws rs : List Int) : Prop where
  nonneg : ∀ i, 0 ≤ at0 ws i
  pos : ∀ i, 0 < at0 ws i → 0 < at0 rs i
  zero : ∀ i, 0 < i → at0 ws i = 0 → at0 rs i = 0

theorem scan_zero (ws rs : List Int) (h0 : at0 ws 0 = 0) (h1 : at0 rs 0 = 0) : ∀ k, scan ws rs k = 0
  | 0 => rfl
  | k + 1 => by
    unfold scan
    rw [scan_zero ws rs h0 h1 k, h0, h1]
    simp

theorem scan_spec (ws rs : List Int) (F : Fit ws rs) (h0 : 0 < at0 rs 0) : ∀ k,
    0 < at0 rs (scan ws rs k) ∧ (0 < at0 ws (scan ws rs k) ∨ scan ws rs k = 0) ∧
    ∀ i, i < k → 0 < at0 ws i → at0 ws i * at0 rs (scan ws rs k) ≤ at0 ws (scan ws rs k) * at0 rs i ∧ (i < scan ws rs k → at0 ws i * at0 rs (scan ws rs k) < at0 ws (scan ws rs k) * at0 rs i)
  | 0 => ⟨h0, .inr rfl, fun i hi => by omega⟩
  | k + 1 => by
    obtain ⟨a, b, c⟩ := scan_spec ws rs F h0 k
    have hle := scan_le ws rs k
    unfold scan
    generalize scan ws rs k = m at a b c hle
    have hl : k = 0 ∨ 0 < k := by omega
    split
    · rename_i h
      have hwk : 0 < at0 ws k := by
        have h1 := F.nonneg k
        rcases Int.lt_or_eq_of_le h1 with h2 | h2
        · exact h2
        · rw [← h2, Int.zero_mul] at h
          rcases hl with rfl | hl
          · have hm := Int.mul_nonneg (F.nonneg m) (by omega : 0 ≤ at0 rs 0)
            omega
          · rw [F.zero k hl h2.symm, Int.mul_zero] at h
            omega
      have hrk := F.pos k hwk
      refine ⟨hrk, .inl hwk, fun i hi hwi => ?_⟩
      by_cases e : i = k
      · subst e
        exact ⟨Int.le_refl _, fun h => by omega⟩
      · have hik : i < k := by omega
        have := frac_trans a hrk (F.pos i hwi) (c i hik hwi).1 h
        exact ⟨Int.le_of_lt this, fun _ => this⟩
    · rename_i h
      refine ⟨a, b, fun i hi hwi => ?_⟩
      by_cases e : i = k
      · subst e
        refine ⟨by omega, fun h2 => ?_⟩
        omega
      · exact c i (by omega) hwi

/-! ### what holds behind j steps -/
structure Inv (ws rs : List Int) (j : Nat) : Prop where
  ge : ∀ k, least (at0 ws k) ≤ at0 rs k
  zero : ∀ k, 0 < k → at0 ws k = 0 → at0 rs k = 0
  first : at0 ws 0 = 0 → at0 rs 0 = if j = 0 then 0 else 1
  top : ∀ k l, 0 < at0 ws k → least (at0 ws k) < at0 rs k → l ≠ k → 0 < at0 ws l → at0 ws l * (at0 rs k - 1) ≤ at0 ws k * at0 rs l ∧ (l < k → at0 ws l * (at0 rs k - 1) < at0 ws k * at0 rs l)

theorem inv_start (ws : List Int) : Inv ws (leasts ws) 0 := by
  refine ⟨fun k => by rw [leasts_at]; exact Int.le_refl _, fun k _ h => by rw [leasts_at, h, least_zero], fun h => by rw [leasts_at, h, least_zero]; rfl, fun k l _ h => ?_⟩
  rw [leasts_at] at h
  omega

theorem inv_step (ws rs : List Int) (j : Nat) (hl : rs.length = ws.length) (hn : ∀ i, 0 ≤ at0 ws i) (hp : ∃ i, i < ws.length ∧ 0 < at0 ws i) (I : Inv ws rs j) : Inv ws (step ws rs) (j + 1) := by
  obtain ⟨i0, hi0, hw0⟩ := hp
  have F : Fit ws rs := ⟨hn, fun i h => by have := I.ge i; have := least_pos h; omega, I.zero⟩
  by_cases hz : at0 ws 0 = 0 ∧ j = 0
  · obtain ⟨hz0, rfl⟩ := hz
    have hr0 : at0 rs 0 = 0 := by rw [I.first hz0]; rfl
    have hs : step ws rs = rs.set 0 1 := by unfold step; rw [scan_zero ws rs hz0 hr0, hr0]; rfl
    rw [hs]
    have h0 : at0 (rs.set 0 1) 0 = 1 := at0_set_same _ _ _ (by omega)
    have ho : ∀ k, k ≠ 0 → at0 (rs.set 0 1) k = at0 rs k := fun k hk => at0_set_other _ _ _ _ hk
    refine ⟨fun k => ?_, fun k hk h => by rw [ho k (by omega)]; exact I.zero k hk h, fun _ => by rw [h0]; rfl, fun k l hk h hlk hl' => ?_⟩
    · by_cases e : k = 0
      · subst e; rw [h0, hz0, least_zero]; decide
      · rw [ho k e]; exact I.ge k
    · have e : k ≠ 0 := fun e => by subst e; omega
      have e' : l ≠ 0 := fun e => by subst e; omega
      rw [ho k e] at h
      rw [ho k e, ho l e']
      exact I.top k l hk h hlk hl'
  · have h0 : 0 < at0 rs 0 := by
      by_cases e : at0 ws 0 = 0
      · rw [I.first e, if_neg (fun h => hz ⟨e, h⟩)]; decide
      · exact F.pos 0 (by have := hn 0; omega)
    obtain ⟨a, b, c⟩ := scan_spec ws rs F h0 ws.length
    have hlt := scan_lt ws rs ws.length (by omega)
    unfold step
    generalize scan ws rs ws.length = m at a b c hlt
    have hwm : 0 < at0 ws m := by
      have h1 := (c i0 hi0 hw0).1
      have h2 : 0 < at0 ws i0 * at0 rs m := Int.mul_pos hw0 a
      rcases Int.lt_or_eq_of_le (hn m) with h3 | h3
      · exact h3
      · rw [← h3, Int.zero_mul] at h1; omega
    have hm : at0 (rs.set m (at0 rs m + 1)) m = at0 rs m + 1 := at0_set_same _ _ _ (by omega)
    have ho : ∀ k, k ≠ m → at0 (rs.set m (at0 rs m + 1)) k = at0 rs k := fun k hk => at0_set_other _ _ _ _ hk
    refine ⟨fun k => ?_, fun k hk h => ?_, fun h => ?_, fun k l hk h hlk hl' => ?_⟩
    · by_cases e : k = m
      · subst e; rw [hm]; have := I.ge k; omega
      · rw [ho k e]; exact I.ge k
    · rw [ho k (fun e => by subst e; omega)]; exact I.zero k hk h
    · rw [ho 0 (fun e => by subst e; omega), I.first h, if_neg (fun h' => hz ⟨h, h'⟩)]; rfl
    · by_cases e : k = m
      · subst e
        rw [hm, ho l hlk]
        have hl2 : l < ws.length := by
          by_cases hh : l < ws.length
          · exact hh
          · exfalso
            unfold at0 at hl'
            rw [List.getElem?_eq_none (by omega)] at hl'
            simp at hl'
        have := c l hl2 hl'
        rw [show at0 rs k + 1 - 1 = at0 rs k by omega]
        exact this
      · rw [ho k e] at h ⊢
        have ht := I.top k l hk h hlk hl'
        by_cases e2 : l = m
        · subst e2
          rw [hm]
          have : at0 ws k * (at0 rs l + 1) = at0 ws k * at0 rs l + at0 ws k := by rw [Int.mul_add, Int.mul_one]
          rw [this]
          exact ⟨by omega, fun h => by have := ht.2 h; omega⟩
        · rw [ho l e2]; exact ht

theorem inv_iter (ws : List Int) (hn : ∀ i, 0 ≤ at0 ws i) (hp : ∃ i, i < ws.length ∧ 0 < at0 ws i) : ∀ j, Inv ws (iter ws j) j
  | 0 => inv_start ws
  | j + 1 => inv_step ws _ j (iter_length ws j) hn hp (inv_iter ws hn hp j)

/-- no kind has weight: the first gets all -/
theorem zeros_iter (ws : List Int) (hz : ∀ i, at0 ws i = 0) (h : 0 < ws.length) : ∀ j : Nat, at0 (iter ws j) 0 = j ∧ ∀ k, 0 < k → at0 (iter ws j) k = 0
  | 0 => ⟨by show at0 (leasts ws) 0 = 0; rw [leasts_at, hz, least_zero], fun k _ => by show at0 (leasts ws) k = 0; rw [leasts_at, hz, least_zero]⟩
  | j + 1 => by
    obtain ⟨a, b⟩ := zeros_iter ws hz h j
    have hs : ∀ k, scan ws (iter ws j) k = 0 := by
      intro k
      induction k with
      | zero => rfl
      | succ k ih => unfold scan; rw [ih, hz, hz]; simp
    show at0 (step ws (iter ws j)) 0 = _ ∧ ∀ k, 0 < k → at0 (step ws (iter ws j)) k = 0
    unfold step
    rw [hs]
    refine ⟨by rw [at0_set_same _ _ _ (by rw [iter_length]; exact h), a]; rfl, fun k hk => by rw [at0_set_other _ _ _ _ (by omega)]; exact b k hk⟩

/-! ### the sum of what was given -/
def sumTo (f : Nat → Int) : Nat → Int
  | 0 => 0
  | k + 1 => sumTo f k + f k

def given (ws rs : List Int) (i : Nat) : Int := if 0 < at0 ws i then at0 rs i - least (at0 ws i) else 0

theorem sumTo_congr {f g : Nat → Int} : ∀ k, (∀ i, i < k → f i = g i) → sumTo f k = sumTo g k
  | 0, _ => rfl
  | k + 1, h => by unfold sumTo; rw [sumTo_congr k (fun i hi => h i (by omega)), h k (by omega)]

theorem sumTo_sub (f g : Nat → Int) : ∀ k, sumTo (fun i => f i - g i) k = sumTo f k - sumTo g k
  | 0 => rfl
  | k + 1 => by unfold sumTo; rw [sumTo_sub f g k]; omega

theorem sumTo_shift (f : Nat → Int) : ∀ k, sumTo f (k + 1) = f 0 + sumTo (fun i => f (i + 1)) k
  | 0 => by simp [sumTo]
  | k + 1 => by
    have := sumTo_shift f k
    rw [sumTo, this, sumTo]
    omega

theorem sum_eq : ∀ rs : List Int, sum rs = sumTo (at0 rs) rs.length
  | [] => rfl
  | x :: r => by
    rw [sum, List.length_cons, sumTo_shift, sum_eq r]
    congr 1

theorem sumTo_add (f g : Nat → Int) : ∀ k, sumTo (fun i => f i + g i) k = sumTo f k + sumTo g k
  | 0 => rfl
  | k + 1 => by unfold sumTo; rw [sumTo_add f g k]; omega

theorem sumTo_first (c : Int) : ∀ k, 0 < k → sumTo (fun i => if i = 0 then c else 0) k = c
  | 0, h => by omega
  | 1, _ => by simp [sumTo]
  | k + 2, _ => by
    rw [sumTo, sumTo_first c (k + 1) (by omega)]
    simp

/-- the kinds of weight have been given all but the first kind's one row -/
theorem given_iter (ws : List Int) (hn : ∀ i, 0 ≤ at0 ws i) (hp : ∃ i, i < ws.length ∧ 0 < at0 ws i) (j : Nat) (hj : 0 < j) :
    sumTo (given ws (iter ws j)) ws.length = (j : Int) - if at0 ws 0 = 0 then 1 else 0 := by
  have I := inv_iter ws hn hp j
  have hl : 0 < ws.length := by obtain ⟨i, h, _⟩ := hp; omega
  have hs := iter_sum ws hl j
  rw [sum_eq, sum_eq, iter_length, show (leasts ws).length = ws.length by simp [leasts]] at hs
  have e : sumTo (fun i => at0 (iter ws j) i - at0 (leasts ws) i) ws.length = j := by rw [sumTo_sub]; omega
  have e2 : sumTo (fun i => at0 (iter ws j) i - at0 (leasts ws) i) ws.length = sumTo (fun i => given ws (iter ws j) i + (if i = 0 then (if at0 ws 0 = 0 then 1 else 0) else 0)) ws.length := by
    refine sumTo_congr _ fun i _ => ?_
    rw [leasts_at]
    unfold given
    have hi := hn i
    by_cases h : 0 < at0 ws i
    · rw [if_pos h]
      by_cases h0 : i = 0
      · subst h0; rw [if_pos rfl, if_neg (by omega)]; omega
      · rw [if_neg h0]; omega
    · have hz : at0 ws i = 0 := by omega
      rw [if_neg h, hz, least_zero]
      by_cases h0 : i = 0
      · subst h0; rw [if_pos rfl, if_pos hz, I.first hz, if_neg (by omega)]; rfl
      · rw [if_neg h0, I.zero i (by omega) hz]; rfl
  rw [e2, sumTo_add, sumTo_first _ _ hl] at e
  omega


/-! ### bounds -/
theorem iter_bd (ws : List Int) (h0 : ∀ i, 0 ≤ at0 ws i) (h1 : ∀ i, at0 ws i ≤ 1048576) : ∀ (j : Nat) (i : Nat), 0 ≤ at0 (iter ws j) i ∧ at0 (iter ws j) i ≤ 2622 + (j : Int)
  | 0, i => by
    show 0 ≤ at0 (leasts ws) i ∧ at0 (leasts ws) i ≤ _
    rw [leasts_at]
    have := least_nonneg (h0 i)
    have := least_le (h1 i)
    omega
  | j + 1, i => by
    show 0 ≤ at0 (step ws (iter ws j)) i ∧ at0 (step ws (iter ws j)) i ≤ _
    unfold step
    have hi := iter_bd ws h0 h1 j i
    generalize scan ws (iter ws j) ws.length = m
    have hm := iter_bd ws h0 h1 j m
    by_cases e : i = m
    · subst e
      by_cases hl : i < (iter ws j).length
      · rw [at0_set_same _ _ _ hl]; omega
      · rw [List.set_eq_of_length_le (by omega)]; omega
    · rw [at0_set_other _ _ _ _ e]; omega

theorem prod_bd {a b : Int} (h0 : 0 ≤ a) (h1 : a ≤ 1048576) (g0 : 0 ≤ b) (g1 : b ≤ 131072) : 0 ≤ a * b ∧ a * b ≤ 137438953472 := by
  refine ⟨Int.mul_nonneg h0 g0, ?_⟩
  have h2 : a * b ≤ 1048576 * b := Int.mul_le_mul_of_nonneg_right h1 g0
  omega

theorem sumTo_bd (ws : List Int) (h0 : ∀ i, 0 ≤ at0 ws i) (h1 : ∀ i, at0 ws i ≤ 1048576) : ∀ k : Nat, 0 ≤ sumTo (fun i => least (at0 ws i)) k ∧ sumTo (fun i => least (at0 ws i)) k ≤ 2622 * (k : Int)
  | 0 => by simp [sumTo]
  | k + 1 => by
    have := sumTo_bd ws h0 h1 k
    have := least_nonneg (h0 k)
    have := least_le (h1 k)
    unfold sumTo
    omega

theorem at0_big (ws : List Int) (i : Nat) (h : ws.length ≤ i) : at0 ws i = 0 := by
  unfold at0
  rw [List.getElem?_eq_none h]
  rfl

theorem at0_leasts_small (ws : List Int) (k i : Nat) : (if i < k + 1 then least (at0 ws i) else (0 : Int)) = if i = k then least (at0 ws k) else if i < k then least (at0 ws i) else 0 := by
  by_cases e : i = k
  · subst e; simp
  · by_cases h : i < k
    · rw [if_pos (by omega), if_neg e, if_pos h]
    · rw [if_neg (by omega), if_neg e, if_neg h]

end Go.Proofs.Qxb6601439a.Plain
