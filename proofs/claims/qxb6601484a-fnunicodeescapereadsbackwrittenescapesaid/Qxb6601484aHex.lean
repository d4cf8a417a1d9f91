/-
  hexDigit (14), unicodeEscape (18) through ZZUnicodeEscape (15): their contracts.
-/
import Derived.Test.Qxb6601484aClone
import Derived.Laws.BitsAllLaws
namespace Go.Proofs.Qxb6601484a
open Go.RowKit Go.Deep
set_option linter.unusedVariables false

/-- c is a hexadecimal digit of value d -/
def IsHex (c d : Int) : Prop := 0 ≤ d ∧ d < 16 ∧ ((48 ≤ c ∧ c ≤ 57 ∧ c - 48 = d) ∨ (97 ≤ c ∧ c ≤ 102 ∧ c - 97 + 10 = d) ∨ (65 ≤ c ∧ c ≤ 70 ∧ c - 65 + 10 = d))

theorem hexDigit_any (d : Int) (up : Bool) (w : World) (h0 : 0 ≤ d) (h1 : d < 16) : Calls Try.prog 14 #[.int .i64 d, .bool up] w fun e w' => ∃ c, e = .returned (.int .u8 c) ∧ IsHex c d ∧ w = w' := by
  have hd : d = 0 ∨ d = 1 ∨ d = 2 ∨ d = 3 ∨ d = 4 ∨ d = 5 ∨ d = 6 ∨ d = 7 ∨ d = 8 ∨ d = 9 ∨ d = 10 ∨ d = 11 ∨ d = 12 ∨ d = 13 ∨ d = 14 ∨ d = 15 := by omega
  clear h0 h1
  rcases hd with rfl | rfl | rfl | rfl | rfl | rfl | rfl | rfl | rfl | rfl | rfl | rfl | rfl | rfl | rfl | rfl
  all_goals
    cases up
    all_goals
      go_enter Try.func14, Try.ntmps14
      go_wp2
      go_ret
      exact ⟨_, rfl, by unfold IsHex; decide, rfl⟩

theorem or_i32 (v d : Int) (h0 : 0 ≤ v) (h1 : v ≤ 4095) (h2 : 0 ≤ d) (h3 : d < 16) : bits .or .i32 (v * 16) d = v * 16 + d := by
  obtain ⟨A, rfl⟩ := Int.eq_ofNat_of_zero_le h0
  obtain ⟨B, rfl⟩ := Int.eq_ofNat_of_zero_le h2
  have hA : ((A : Int) * 16) = ((2 ^ 4 * A : Nat) : Int) := by omega
  have ho : 2 ^ 4 * A ||| B = 2 ^ 4 * A + B := (Nat.two_pow_add_eq_or_of_lt (by omega) A).symm
  rw [hA]
  show IntKind.i32.wrap ((BitVec.ofInt 32 ((2 ^ 4 * A : Nat) : Int) ||| BitVec.ofInt 32 (B : Int)).toNat : Int) = _
  rw [BitVec.toNat_or, ofInt_u32 _ (by omega), ofInt_u32 _ (by omega), ho]
  simp [IntKind.wrap, IntKind.bits, IntKind.signed]
  omega

theorem and_i64 (x : Int) (h0 : 0 ≤ x) (h1 : x ≤ 65535) : bits .and .i64 x 15 = x % 16 := by
  obtain ⟨A, rfl⟩ := Int.eq_ofNat_of_zero_le h0
  have ho : A &&& 15 = A % 16 := Nat.and_two_pow_sub_one_eq_mod A 4
  show IntKind.i64.wrap ((BitVec.ofInt 64 (A : Int) &&& BitVec.ofInt 64 ((15 : Nat) : Int)).toNat : Int) = _
  rw [BitVec.toNat_and, ofInt_u64 _ (by omega), ofInt_u64 _ (by omega), ho]
  simp [IntKind.wrap, IntKind.bits, IntKind.signed]
  omega

/-- the number that the first k digits spell -/
def val (ds : Nat → Int) : Nat → Int
  | 0 => 0
  | k + 1 => val ds k * 16 + ds k

theorem val_bd (ds : Nat → Int) (k : Nat) (hk : k < 4) (h : ∀ j, j < 4 → 0 ≤ ds j ∧ ds j < 16) : 0 ≤ val ds k ∧ val ds k ≤ 4095 := by
  have h0 := h 0 (by omega)
  have h1 := h 1 (by omega)
  have h2 := h 2 (by omega)
  match k, hk with
  | 0, _ => simp [val]
  | 1, _ => simp [val]; omega
  | 2, _ => simp [val]; omega
  | 3, _ => simp [val]; omega

set_option maxHeartbeats 1600000 in
theorem escape_any (g L n cap : Nat) (c ds : Nat → Int) (w : World) (hn : L + 6 ≤ n) (hc : n ≤ cap) (hm : cap ≤ 2097152) (h0 : w.cell? ⟨g, L, none⟩ = some (.int .u8 92)) (h1 : w.cell? ⟨g, L + 1, none⟩ = some (.int .u8 117))
    (h2 : ∀ k, k < 4 → w.cell? ⟨g, L + 2 + k, none⟩ = some (.int .u8 (c k))) (hx : ∀ k, k < 4 → IsHex (c k) (ds k)) :
    Calls Try.prog 18 #[.slice (some ⟨g, 0, none⟩) n cap, .int .i64 L] w fun e w' => e = .returned (.tuple #[.int .i32 (val ds 4), .bool true]) ∧ w = w' := by
  go_enter Try.func18, Try.ntmps18
  go_wp2
  go_loop [4, 35] (fun u i => ∃ k : Nat, k ≤ 4 ∧ i = .int .i64 k ∧ u = .int .i32 (val ds k)) (fun _ i => 4 - (intOf i).toNat)
  case atStart => exact ⟨0, by omega, rfl, rfl⟩
  case round =>
    obtain ⟨k, hk, rfl, rfl⟩ := hrel
    by_cases hlt : k < 4
    · have hck := h2 k hlt
      obtain ⟨d0, d1, hcls⟩ := hx k hlt
      have vb := val_bd ds k hlt (fun j hj => ⟨(hx j hj).1, (hx j hj).2.1⟩)
      clear h2 hx h0 h1
      rcases hcls with ⟨e1, e2, e3⟩ | ⟨e1, e2, e3⟩ | ⟨e1, e2, e3⟩
      · have HD : Hid (c k - 48 = ds k) := e3
        clear e3
        have g1 : decide (48 ≤ c k) = true := by simpa using e1
        go_wp2
        go_round
        case rel => exact ⟨k + 1, by omega, by go_num, by rw [HD.out, or_i32 _ _ vb.1 vb.2 d0 d1]; rfl⟩
        case measure => simp [intOf]; omega
      · have HD : Hid (c k - 97 + 10 = ds k) := e3
        clear e3
        have g1 : decide (48 ≤ c k) = true := by simpa using (by omega : 48 ≤ c k)
        have g2 : decide (97 ≤ c k) = true := by simpa using e1
        go_wp2
        go_round
        case rel => exact ⟨k + 1, by omega, by go_num, by rw [HD.out, or_i32 _ _ vb.1 vb.2 d0 d1]; rfl⟩
        case measure => simp [intOf]; omega
      · have HD : Hid (c k - 65 + 10 = ds k) := e3
        clear e3
        have g1 : decide (48 ≤ c k) = true := by simpa using (by omega : 48 ≤ c k)
        have g2 : decide (97 ≤ c k) = false := by simpa using (by omega : c k < 97)
        have g3 : decide (65 ≤ c k) = true := by simpa using e1
        go_wp2
        go_round
        case rel => exact ⟨k + 1, by omega, by go_num, by rw [HD.out, or_i32 _ _ vb.1 vb.2 d0 d1]; rfl⟩
        case measure => simp [intOf]; omega
    · obtain rfl : k = 4 := by omega
      go_wp2
      go_ret2
      exact ⟨rfl, rfl⟩

theorem zescape (g L n cap : Nat) (c ds : Nat → Int) (w : World) (hn : L + 6 ≤ n) (hc : n ≤ cap) (hm : cap ≤ 2097152) (h0 : w.cell? ⟨g, L, none⟩ = some (.int .u8 92)) (h1 : w.cell? ⟨g, L + 1, none⟩ = some (.int .u8 117))
    (h2 : ∀ k, k < 4 → w.cell? ⟨g, L + 2 + k, none⟩ = some (.int .u8 (c k))) (hx : ∀ k, k < 4 → IsHex (c k) (ds k)) :
    Calls Try.prog 15 #[.slice (some ⟨g, 0, none⟩) n cap, .int .i64 L] w fun e w' => e = .returned (.tuple #[.int .i32 (val ds 4), .bool true]) ∧ w = w' := by
  go_enter Try.func15, Try.ntmps15
  go_wp2_with (first | (go_at_call 18; refine (escape_any g L n cap c ds _ hn hc hm h0 h1 h2 hx).mono ?_; rintro e w' ⟨rfl, rfl⟩))
  go_ret2
  exact ⟨rfl, rfl⟩
end Go.Proofs.Qxb6601484a
