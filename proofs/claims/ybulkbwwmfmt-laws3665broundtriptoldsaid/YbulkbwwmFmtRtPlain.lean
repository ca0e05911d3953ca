/-
  THE PLAIN ROUND TRIP: what the hand-written encoder writes reads back as the number.
-/
import Derived.Test.YbulkbwwmFmtUv
import Derived.Laws.BitsAllLaws
namespace Go.Proofs.YbulkbwwmFmt
open Go.RowKit

/-- What 'zzs3665bencode' writes: at most f groups that go on, then the last byte. -/
def encL : Nat → Int → List Int
  | 0, x => [x % 256]
  | f + 1, x => if 128 ≤ x then (x % 128 + 128) :: encL f (x / 128) else [x % 256]

theorem or_shift (X c : Int) (k : Nat) (hX0 : 0 ≤ X) (hX : X < 2 ^ (7 * k)) (hc : 0 ≤ c) (hk : c * 2 ^ (7 * k) + 2 ^ (7 * k) ≤ 18446744073709551616) :
    bits .or .u64 X (IntKind.u64.wrap (c * 2 ^ (7 * k))) = X + c * 2 ^ (7 * k) := by
  obtain ⟨x, rfl⟩ := Int.eq_ofNat_of_zero_le hX0
  obtain ⟨d, rfl⟩ := Int.eq_ofNat_of_zero_le hc
  have hX' : x < 2 ^ (7 * k) := by exact_mod_cast hX
  have e : ((d : Int) * 2 ^ (7 * k)) = ((d * 2 ^ (7 * k) : Nat) : Int) := by simp
  have e3 : ((2 : Int) ^ (7 * k)) = ((2 ^ (7 * k) : Nat) : Int) := by simp
  rw [e, e3] at hk
  have hk' : d * 2 ^ (7 * k) + 2 ^ (7 * k) ≤ 18446744073709551616 := by omega
  rw [e]
  have hlt : d * 2 ^ (7 * k) < 18446744073709551616 := by omega
  rw [IntWalk.u64_in _ ⟨by omega, by omega⟩, bits_or_u64_nat _ _ (by omega) hlt]
  have h := Nat.two_pow_add_eq_or_of_lt hX' d
  have e2 : 2 ^ (7 * k) * d = d * 2 ^ (7 * k) := Nat.mul_comm _ _
  rw [e2] at h
  rw [Nat.or_comm, ← h]
  omega

theorem encL_pos (f : Nat) (x : Int) : 0 < (encL f x).length := by
  cases f with
  | zero => simp [encL]
  | succ f => unfold encL; split <;> simp
theorem encL_range : ∀ (f : Nat) (x : Int), ∀ c ∈ encL f x, 0 ≤ c ∧ c ≤ 255
  | 0, x, c, h => by simp [encL] at h; omega
  | f + 1, x, c, h => by
    unfold encL at h
    split at h
    · rcases List.mem_cons.1 h with h | h
      · omega
      · exact encL_range f _ c h
    · simp at h; omega

theorem pow7 (k : Nat) : (2 : Int) ^ (7 * (k + 1)) = 128 * 2 ^ (7 * k) := by
  rw [show 7 * (k + 1) = 7 * k + 7 from by omega, Int.pow_add]
  omega

theorem bound_of (y : Int) (k : Nat) (hk : k ≤ 9) (hy : y < 2 ^ (64 - 7 * k)) : y * 2 ^ (7 * k) + 2 ^ (7 * k) ≤ 18446744073709551616 := by
  have h : (y + 1) * 2 ^ (7 * k) ≤ 2 ^ (64 - 7 * k) * 2 ^ (7 * k) := Int.mul_le_mul_of_nonneg_right (by omega) (Int.le_of_lt (Int.pow_pos (by omega)))
  rw [← Int.pow_add, show 64 - 7 * k + 7 * k = 64 from by omega, Int.add_mul, Int.one_mul] at h
  exact Int.le_trans h (by decide)
theorem half_of (y : Int) (k : Nat) (hk : k ≤ 8) (hy : y < 2 ^ (64 - 7 * k)) : y / 128 < 2 ^ (64 - 7 * (k + 1)) := by
  have e : (2 : Int) ^ (64 - 7 * k) = 2 ^ (64 - 7 * (k + 1)) * 128 := by
    rw [show 64 - 7 * k = 64 - 7 * (k + 1) + 7 from by omega, Int.pow_add]; rfl
  rw [e] at hy
  omega
theorem nine_of (y : Int) (hy : y < 2 ^ (64 - 7 * 9)) : y < 2 := by simpa using hy

theorem dec_encL : ∀ (f k : Nat) (X y : Int) (tail : List Int), f + k = 10 → 0 < f → 0 ≤ X → X < 2 ^ (7 * k) → 0 ≤ y → y < 2 ^ (64 - 7 * k) →
    dec X k (encL f y ++ tail) = (X + y * 2 ^ (7 * k), (k : Int) + (encL f y).length)
  | 0, _, _, _, _, _, h, _, _, _, _ => absurd h (by omega)
  | f + 1, k, X, y, tail, hf, _, hX0, hX, hy0, hy => by
    have hk10 : k ≠ 10 := by omega
    have hp : (0 : Int) < 2 ^ (7 * k) := Int.pow_pos (by omega)
    have hb := bound_of y k (by omega) hy
    by_cases h : 128 ≤ y
    · have e : encL (f + 1) y = (y % 128 + 128) :: encL f (y / 128) := by rw [encL, if_pos h]
      have hkf : 0 < f := by
        rcases Nat.eq_zero_or_pos f with h0 | h0
        · subst h0
          obtain rfl : k = 9 := by omega
          have := nine_of y hy
          omega
        · exact h0
      have hmod : (y % 128 + 128) % 128 = y % 128 := by omega
      have hdiv : y = 128 * (y / 128) + y % 128 := by omega
      have hm0 : 0 ≤ y % 128 := by omega
      have hm1 : y % 128 ≤ 127 := by omega
      have hd0 : 0 ≤ y / 128 := by omega
      have hle : (y % 128) * 2 ^ (7 * k) ≤ 127 * 2 ^ (7 * k) := Int.mul_le_mul_of_nonneg_right hm1 (by omega)
      have hnn : 0 ≤ (y % 128) * 2 ^ (7 * k) := Int.mul_nonneg hm0 (by omega)
      have hyq : y * 2 ^ (7 * k) = (y / 128) * 2 ^ (7 * (k + 1)) + (y % 128) * 2 ^ (7 * k) := by
        rw [pow7]
        have e4 : (y / 128) * (128 * 2 ^ (7 * k)) = 128 * (y / 128) * 2 ^ (7 * k) := by rw [← Int.mul_assoc, Int.mul_comm (y / 128) 128]
        rw [e4, ← Int.add_mul, ← hdiv]
      have hq0 : 0 ≤ (y / 128) * 2 ^ (7 * (k + 1)) := Int.mul_nonneg hd0 (Int.le_of_lt (Int.pow_pos (by omega)))
      rw [e, List.cons_append, dec, if_neg hk10, if_neg (by omega), hmod, or_shift X (y % 128) k hX0 hX hm0 (by omega)]
      rw [dec_encL f (k + 1) _ (y / 128) tail (by omega) hkf (by omega) (by rw [pow7]; omega) hd0 (half_of y k (by omega) hy)]
      rw [hyq]
      simp only [List.length_cons, Prod.mk.injEq]
      omega
    · have e : encL (f + 1) y = [y] := by rw [encL, if_neg h]; congr 1; omega
      rw [e, List.cons_append, dec, if_neg hk10, if_pos (by omega)]
      have h9 : ¬ (k = 9 ∧ 1 < y) := by
        rintro ⟨rfl, h1⟩
        have := nine_of y hy
        omega
      rw [if_neg h9, or_shift X y k hX0 hX hy0 hb]
      simp

theorem roundtrip (x : Int) (h0 : 0 ≤ x) (h1 : x < 18446744073709551616) (tail : List Int) : dec 0 0 (encL 10 x ++ tail) = (x, ((encL 10 x).length : Int)) := by
  have := dec_encL 10 0 0 x tail rfl (by omega) (by omega) (by simp) h0 (by simpa using h1)
  rw [this]
  simp
end Go.Proofs.YbulkbwwmFmt
