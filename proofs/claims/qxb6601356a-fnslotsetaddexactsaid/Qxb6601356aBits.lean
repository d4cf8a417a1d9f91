/-
  The bits of a uint64 one by one: the plain mathematics.
-/
import Derived.Laws.BitsAllLaws
import Derived.Laws.Bits64
namespace Go.Proofs.Qxb6601356a
open Go

def hasBit (low v : Int) : Bool := bits .and .u64 low (IntKind.u64.wrap (2 ^ v.toNat)) != 0
def orBit (low v : Int) : Int := bits .or .u64 low (IntKind.u64.wrap (2 ^ v.toNat))

theorem wrap_pow (v : Nat) (h : v < 64) : IntKind.u64.wrap ((2 : Int) ^ v) = ((2 ^ v : Nat) : Int) := by
  rw [IntKind.wrap_u64]
  have h1 : (2 : Nat) ^ v < 2 ^ 64 := Nat.pow_lt_pow_right (by decide) h
  have h2 : ((2 : Int) ^ v) = ((2 ^ v : Nat) : Int) := by simp
  rw [h2]
  have h3 : (2 : Nat) ^ 64 = 18446744073709551616 := by decide
  generalize 2 ^ v = p at h1
  omega

theorem pow_lt64 (v : Nat) (h : v < 64) : 2 ^ v < 18446744073709551616 := by
  have h1 : (2 : Nat) ^ v < 2 ^ 64 := Nat.pow_lt_pow_right (by decide) h
  have h3 : (2 : Nat) ^ 64 = 18446744073709551616 := by decide
  omega

theorem hasBit_nat (n v : Nat) (hn : n < 18446744073709551616) (hv : v < 64) : hasBit (n : Int) (v : Int) = n.testBit v := by
  unfold hasBit
  rw [Int.toNat_natCast, wrap_pow v hv, u64_and_nat n _ hn (pow_lt64 v hv)]
  have key : (n &&& 2 ^ v = 0) ↔ n.testBit v = false := by
    constructor
    · intro h
      have := congrArg (fun m => Nat.testBit m v) h
      simpa [Nat.testBit_and, Nat.testBit_two_pow] using this
    · intro h
      refine Nat.eq_of_testBit_eq fun j => ?_
      rw [Nat.testBit_and, Nat.testBit_two_pow]
      by_cases e : v = j
      · subst e; simp [h]
      · simp [e]
  cases ht : n.testBit v
  · rw [key.2 ht]; rfl
  · have : n &&& 2 ^ v ≠ 0 := fun h => by rw [key.1 h] at ht; cases ht
    simp only [bne_iff_ne, ne_eq]
    omega

theorem orBit_nat (n v : Nat) (hn : n < 18446744073709551616) (hv : v < 64) : orBit (n : Int) (v : Int) = ((n ||| 2 ^ v : Nat) : Int) := by
  unfold orBit
  rw [Int.toNat_natCast, wrap_pow v hv, u64_or_nat n _ hn (pow_lt64 v hv)]

theorem or_lt64 (n v : Nat) (hn : n < 18446744073709551616) (hv : v < 64) : n ||| 2 ^ v < 18446744073709551616 := by
  have h3 : (2 : Nat) ^ 64 = 18446744073709551616 := by decide
  have := Nat.or_lt_two_pow (x := n) (y := 2 ^ v) (n := 64) (by omega) (by have := pow_lt64 v hv; omega)
  omega

/-- A number that fits a uint64. -/
def Fits (low : Int) : Prop := 0 ≤ low ∧ low < 18446744073709551616

theorem fits_zero : Fits 0 := by unfold Fits; omega
theorem nat_of {low : Int} (h : Fits low) : ∃ n : Nat, n < 18446744073709551616 ∧ low = n := ⟨low.toNat, by unfold Fits at h; omega, by unfold Fits at h; omega⟩

theorem orBit_fits {low v : Int} (h : Fits low) (h0 : 0 ≤ v) (h64 : v < 64) : Fits (orBit low v) := by
  obtain ⟨n, hn, rfl⟩ := nat_of h
  obtain ⟨k, rfl⟩ : ∃ k : Nat, v = k := ⟨v.toNat, by omega⟩
  rw [orBit_nat n k hn (by omega)]
  have := or_lt64 n k hn (by omega)
  unfold Fits
  omega

theorem hasBit_or {low v u : Int} (h : Fits low) (h0 : 0 ≤ v) (h64 : v < 64) (g0 : 0 ≤ u) (g64 : u < 64) : hasBit (orBit low v) u = (hasBit low u || decide (v = u)) := by
  obtain ⟨n, hn, rfl⟩ := nat_of h
  obtain ⟨k, rfl⟩ : ∃ k : Nat, v = k := ⟨v.toNat, by omega⟩
  obtain ⟨j, rfl⟩ : ∃ j : Nat, u = j := ⟨u.toNat, by omega⟩
  rw [orBit_nat n k hn (by omega), hasBit_nat _ j (or_lt64 n k hn (by omega)) (by omega), hasBit_nat n j hn (by omega), Nat.testBit_or, Nat.testBit_two_pow]
  congr 1
  simp only [decide_eq_decide]
  omega

theorem orBit_of {low v : Int} (h : Fits low) (h0 : 0 ≤ v) (h64 : v < 64) (hb : hasBit low v = true) : orBit low v = low := by
  obtain ⟨n, hn, rfl⟩ := nat_of h
  obtain ⟨k, rfl⟩ : ∃ k : Nat, v = k := ⟨v.toNat, by omega⟩
  rw [orBit_nat n k hn (by omega)]
  rw [hasBit_nat n k hn (by omega)] at hb
  congr 1
  refine Nat.eq_of_testBit_eq fun j => ?_
  rw [Nat.testBit_or, Nat.testBit_two_pow]
  by_cases e : k = j
  · subst e; simp [hb]
  · simp [e]

theorem hasBit_zero {v : Int} (h0 : 0 ≤ v) (h64 : v < 64) : hasBit 0 v = false := by
  obtain ⟨k, rfl⟩ : ∃ k : Nat, v = k := ⟨v.toNat, by omega⟩
  have := hasBit_nat 0 k (by decide) (by omega)
  simpa using this

end Go.Proofs.Qxb6601356a
