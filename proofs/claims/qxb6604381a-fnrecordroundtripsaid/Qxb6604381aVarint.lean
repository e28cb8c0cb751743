/-
  PLAIN: varints, no Go in sight: what is encoded is decoded; the bytes of a varint, one by one.
-/
import Derived.Lib.Varint
import Derived.Lib.VarintDec
import Derived.Laws.Bits64
namespace Go.Proofs.Qxb6604381a
open Go.Lib

theorem toUInt8_val {n : Nat} (h : n < 256) : n.toUInt8.toNat = n := by
  simp [Nat.toUInt8]; omega

theorem from_enc : ∀ (k i acc x : Nat) (r : List UInt8), i + k = 9 → x < 2 * 128 ^ k → uvarintFrom i acc (uvarint x ++ r) = (acc + x * 2 ^ (7 * i), (i : Int) + ((uvarint x).length : Int))
  | 0, i, acc, x, r, hi, hx => by
    have hx2 : x < 2 := by simpa using hx
    rw [uvarint_small (by omega)]
    simp only [List.cons_append, List.nil_append, uvarintFrom, toUInt8_val (show x < 256 by omega), List.length_singleton]
    rw [if_neg (by omega), if_pos (by omega), if_neg (by omega)]
    rfl
  | k + 1, i, acc, x, r, hi, hx => by
    by_cases h : x < 128
    · rw [uvarint_small h]
      simp only [List.cons_append, List.nil_append, uvarintFrom, toUInt8_val (show x < 256 by omega), List.length_singleton]
      rw [if_neg (by omega), if_pos h, if_neg (by omega)]
      rfl
    · rw [uvarint_big (by omega)]
      simp only [List.cons_append, uvarintFrom, toUInt8_val (show x % 128 + 128 < 256 by omega), List.length_cons]
      rw [if_neg (by omega), if_neg (by omega)]
      have hx' : x / 128 < 2 * 128 ^ k := by
        rw [Nat.pow_succ] at hx
        apply Nat.div_lt_of_lt_mul
        omega
      rw [from_enc k (i + 1) _ (x / 128) r (by omega) hx']
      have e1 : (2 : Nat) ^ (7 * (i + 1)) = 2 ^ (7 * i) * 128 := by rw [Nat.mul_add, Nat.pow_add]
      have e2 : (x % 128 + 128) % 128 = x % 128 := by omega
      rw [e1, e2]
      congr 1
      · have e3 : x = x % 128 + 128 * (x / 128) := by omega
        rw [Nat.add_assoc]
        congr 1
        rw [← Nat.mul_assoc, Nat.mul_comm (x / 128) (2 ^ (7 * i)), Nat.mul_assoc, Nat.mul_comm (x % 128), ← Nat.mul_add, Nat.mul_comm x]
        congr 1
        omega
      · omega

/-- What is encoded is decoded, whatever follows. -/
theorem dec_enc (x : Nat) (r : List UInt8) (hx : x < 18446744073709551616) : uvarintDec (uvarint x ++ r) = (x, ((uvarint x).length : Int)) := by
  have h := from_enc 9 0 0 x r (by omega) (by have : 2 * 128 ^ 9 = 18446744073709551616 := by decide
                                              omega)
  unfold uvarintDec
  rw [h]
  simp

/-- How many bytes bear the bit 128: all but the last. -/
def ups (x : Nat) : Nat := (uvarint x).length - 1

theorem len_ups (x : Nat) : (uvarint x).length = ups x + 1 := by
  have := uvarint_pos x; unfold ups; omega

theorem ups_small {x : Nat} (h : x < 128) : ups x = 0 := by unfold ups; rw [uvarint_small h]; rfl
theorem ups_big {x : Nat} (h : 128 ≤ x) : ups x = ups (x / 128) + 1 := by
  have := uvarint_pos (x / 128)
  unfold ups; rw [uvarint_big h, List.length_cons]; omega

theorem ups_le {x : Nat} (h : x < 18446744073709551616) : ups x ≤ 9 := by
  have := uvarint_length64 h; unfold ups; omega

/-- The bytes ahead of the last. -/
theorem byte_up : ∀ (k x : Nat), k < ups x → (uvarint x)[k]? = some ((x / 128 ^ k) % 128 + 128).toUInt8
  | 0, x, h => by
    have hx : 128 ≤ x := by
      by_cases hx : x < 128
      · rw [ups_small hx] at h; omega
      · omega
    rw [uvarint_big hx]; simp
  | k + 1, x, h => by
    have hx : 128 ≤ x := by
      by_cases hx : x < 128
      · rw [ups_small hx] at h; omega
      · omega
    rw [ups_big hx] at h
    rw [uvarint_big hx, List.getElem?_cons_succ, byte_up k (x / 128) (by omega), Nat.div_div_eq_div_mul, Nat.pow_succ, Nat.mul_comm 128]

/-- The last byte. -/
theorem byte_last : ∀ (n x : Nat), ups x = n → (uvarint x)[n]? = some (x / 128 ^ n).toUInt8 ∧ x / 128 ^ n < 128
  | 0, x, h => by
    have hx : x < 128 := by
      by_cases hx : x < 128
      · exact hx
      · rw [ups_big (by omega)] at h; omega
    rw [uvarint_small hx]; simp [hx]
  | n + 1, x, h => by
    have hx : 128 ≤ x := by
      by_cases hx : x < 128
      · rw [ups_small hx] at h; omega
      · omega
    rw [ups_big hx] at h
    have := byte_last n (x / 128) (by omega)
    rw [uvarint_big hx, List.getElem?_cons_succ]
    rw [Nat.div_div_eq_div_mul, Nat.mul_comm 128, ← Nat.pow_succ] at this
    exact this

theorem last_nine {x : Nat} (h : x < 18446744073709551616) : x / 128 ^ 9 ≤ 1 := by
  have e : (128 : Nat) ^ 9 = 9223372036854775808 := by decide
  rw [e]; omega

/-- One step back: seven bits more. -/
theorem step_back (x k : Nat) : (x / 128 ^ (k + 1)) * 128 + (x / 128 ^ k) % 128 = x / 128 ^ k := by
  rw [Nat.pow_succ, ← Nat.div_div_eq_div_mul]; omega

theorem wr_u64 (n : Int) (h₀ : 0 ≤ n) (h₁ : n < 2 ^ 64) : IntKind.u64.wrap n = n := by rw [IntKind.wrap_u64]; omega

/-- 'v << 7 | low'. -/
theorem or_low7 (v low : Nat) (h : low < 128) (hv : v * 128 < 18446744073709551616) : bits .or .u64 ((v : Int) * 128) (low : Int) = ((v * 128 + low : Nat) : Int) := by
  have p64 : (2 : Nat) ^ 64 = 18446744073709551616 := by decide
  have hb := (bits_nat .u64 64 (by decide) wr_u64 (v * 128) low (by omega) (by omega)).2
  have e : ((v * 128 : Nat) : Int) = (v : Int) * 128 := by omega
  rw [e] at hb
  rw [hb]
  congr 1
  have := Nat.two_pow_add_eq_or_of_lt (i := 7) h v
  rw [show (2 : Nat) ^ 7 = 128 by decide] at this
  rw [Nat.mul_comm v 128, ← this]

/-- The key's low bits are the start. -/
theorem key_low (h p : Nat) (hp : p < 33554432) : bits .and .u64 (bits .or .u64 ((h * 33554432 % 18446744073709551616 : Nat) : Int) (p : Int)) 33554431 = (p : Int) := by
  have p64 : (2:Nat)^64 = 18446744073709551616 := by decide
  have h1 := (bits_nat .u64 64 (by decide) wr_u64 (h * 33554432 % 18446744073709551616) p (by omega) (by omega)).2
  rw [h1]
  have hlt : (h * 33554432 % 18446744073709551616) ||| p < 2 ^ 64 := Nat.or_lt_two_pow (by omega) (by omega)
  have h2 := (bits_nat .u64 64 (by decide) wr_u64 ((h * 33554432 % 18446744073709551616) ||| p) 33554431 hlt (by omega)).1
  have e : ((33554431 : Nat) : Int) = 33554431 := rfl
  rw [e] at h2
  rw [h2]
  congr 1
  have e2 : (33554431 : Nat) = 2 ^ 25 - 1 := by decide
  rw [e2, Nat.and_two_pow_sub_one_eq_mod, Nat.or_mod_two_pow]
  have e3 : h * 33554432 % 18446744073709551616 % 2 ^ 25 = 0 := by
    have : (2 : Nat) ^ 25 = 33554432 := by decide
    rw [this]; omega
  rw [e3, Nat.zero_or]
  exact Nat.mod_eq_of_lt (by have : (2 : Nat) ^ 25 = 33554432 := by decide
                             omega)
end Go.Proofs.Qxb6604381a
