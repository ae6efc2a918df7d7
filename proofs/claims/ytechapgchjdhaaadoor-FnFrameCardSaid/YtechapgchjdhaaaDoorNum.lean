/- Plain arithmetic of bytes: numbers put together of bytes, their digits, a mask laid over them. No program. -/
import Derived.WalkKit
namespace Go.Proofs.YtechapgchjdhaaaDoor
open Go.RowKit

/-- What has been put together when the bytes f 0, f 1, .. f (i - 1) have been read, the first one highest. -/
def acc (f : Nat → UInt8) : Nat → Nat
  | 0 => 0
  | i + 1 => acc f i * 256 + (f i).toNat

theorem u8lt (b : UInt8) : b.toNat < 256 := b.toNat_lt

theorem acc_lt (f : Nat → UInt8) (i : Nat) : acc f i < 256 ^ i := by
  induction i with
  | zero => simp [acc]
  | succ i ih =>
    have := u8lt (f i)
    rw [acc, Nat.pow_succ]
    omega

theorem acc_congr {f g : Nat → UInt8} {n : Nat} (h : ∀ i, i < n → f i = g i) : acc f n = acc g n := by
  induction n with
  | zero => rfl
  | succ n ih => rw [acc, acc, ih (fun i hi => h i (by omega)), h n (by omega)]

theorem acc_digit (f : Nat → UInt8) (n i : Nat) (h : i < n) : acc f n / 256 ^ i % 256 = (f (n - 1 - i)).toNat := by
  induction n generalizing i with
  | zero => omega
  | succ n ih =>
    have hb := u8lt (f n)
    cases i with
    | zero =>
      simp only [acc, Nat.pow_zero, Nat.div_one, Nat.add_sub_cancel, Nat.sub_zero]
      omega
    | succ i =>
      have e : acc f (n + 1) / 256 ^ (i + 1) = acc f n / 256 ^ i := by
        rw [Nat.pow_succ, Nat.mul_comm, ← Nat.div_div_eq_div_mul, acc]
        congr 1
        omega
      rw [e, ih i (by omega)]
      congr 2
      omega

theorem or_add (a b : Nat) (h : b < 256) : a * 256 ||| b = a * 256 + b := by
  have := Nat.shiftLeft_add_eq_or_of_lt (i := 8) (b := b) (by omega) a
  rw [Nat.shiftLeft_eq] at this
  exact this.symm

theorem or_step_u64 (a : Nat) (b : UInt8) (ha : a < 72057594037927936) : bits .or .u64 ((a : Int) * 256) (b.toNat : Int) = ((a * 256 + b.toNat : Nat) : Int) := by
  have hb := u8lt b
  have := u64_or_nat (a * 256) b.toNat (by omega) (by omega)
  rw [or_add _ _ hb] at this
  rw [← this]
  congr 1

theorem or_step_u32 (a : Nat) (b : UInt8) (ha : a < 16777216) : bits .or .u32 ((a : Int) * 256) (b.toNat : Int) = ((a * 256 + b.toNat : Nat) : Int) := by
  have hb := u8lt b
  have := u32_or_nat (a * 256) b.toNat (by omega) (by omega)
  rw [or_add _ _ hb] at this
  rw [← this]
  congr 1

theorem or_step_u16 (a : Nat) (b : UInt8) (ha : a < 256) : bits .or .u16 ((a : Int) * 256) (b.toNat : Int) = ((a * 256 + b.toNat : Nat) : Int) := by
  have hb := u8lt b
  have := u16_or_nat (a * 256) b.toNat (by omega) (by omega)
  rw [or_add _ _ hb] at this
  rw [← this]
  congr 1

theorem xor_digit (x y i : Nat) : (x ^^^ y) / 256 ^ i % 256 = (x / 256 ^ i % 256) ^^^ (y / 256 ^ i % 256) := by
  have e : (256 : Nat) ^ i = 2 ^ (8 * i) := by rw [show (256 : Nat) = 2 ^ 8 from rfl, ← Nat.pow_mul]
  rw [e, ← Nat.shiftRight_eq_div_pow, ← Nat.shiftRight_eq_div_pow, ← Nat.shiftRight_eq_div_pow, Nat.shiftRight_xor_distrib]
  exact Nat.xor_mod_two_pow (n := 8)

theorem xor_bits (a b : UInt8) : bits .xor .u8 (a.toNat : Int) (b.toNat : Int) = ((a ^^^ b).toNat : Int) := by
  rw [u8_xor_nat _ _ (u8lt a) (u8lt b)]
  simp

/-- A byte of a number: the digit at i. -/
def digit (v i : Nat) : UInt8 := UInt8.ofNat (v / 256 ^ i)
theorem digit_toNat (v i : Nat) : (digit v i).toNat = v / 256 ^ i % 256 := by simp [digit]
theorem digit_acc (f : Nat → UInt8) (n i : Nat) (h : i < n) : digit (acc f n) i = f (n - 1 - i) := by
  apply UInt8.toNat_inj.1
  rw [digit_toNat, acc_digit f n i h]
theorem digit_xor (x y i : Nat) : digit (x ^^^ y) i = digit x i ^^^ digit y i := by
  apply UInt8.toNat_inj.1
  rw [UInt8.toNat_xor, digit_toNat, digit_toNat, digit_toNat, xor_digit]

theorem digit_int (v i : Nat) : (v : Int) / 2 ^ (8 * i) % 256 = ((digit v i).toNat : Int) := by
  rw [digit_toNat, show (256 : Nat) ^ i = 2 ^ (8 * i) from by rw [show (256 : Nat) = 2 ^ 8 from rfl, ← Nat.pow_mul]]
  simp

/-- The mask of four bytes, twice, as one number. -/
theorem mask_twice (M : Nat → UInt8) : acc (fun j => M (3 - j)) 4 * 4294967296 + acc (fun j => M (3 - j)) 4 = acc (fun j => M ((7 - j) % 4)) 8 := by
  simp [acc]
  omega
theorem or_twice (m : Nat) (h : m < 4294967296) : bits .or .u64 ((m : Int) * 4294967296) (m : Int) = ((m * 4294967296 + m : Nat) : Int) := by
  have := u64_or_nat (m * 4294967296) m (by omega) (by omega)
  have e := Nat.shiftLeft_add_eq_or_of_lt (i := 32) (b := m) (by omega) m
  rw [Nat.shiftLeft_eq] at e
  rw [show m * 4294967296 ||| m = m * 4294967296 + m from e.symm] at this
  rw [← this]
  congr 1

/-- Bytes with a mask laid over them, from place k of it on. -/
def laid (bs : List UInt8) (M : Nat → UInt8) (k : Nat) : List UInt8 := bs.mapIdx fun i b => b ^^^ M ((k + i) % 4)
theorem laid_length (bs : List UInt8) (M : Nat → UInt8) (k : Nat) : (laid bs M k).length = bs.length := by simp [laid]
theorem laid_get (bs : List UInt8) (M : Nat → UInt8) (k i : Nat) (h : i < bs.length) : (laid bs M k)[i]'(by rw [laid_length]; exact h) = bs[i] ^^^ M ((k + i) % 4) := by simp [laid]
theorem laid_laid (bs : List UInt8) (M : Nat → UInt8) (k : Nat) : laid (laid bs M k) M k = bs := by
  apply List.ext_getElem
  · simp [laid]
  · intro i h1 h2
    rw [laid_get _ M k i (by rw [laid_length]; exact h2), laid_get bs M k i h2, UInt8.xor_assoc, UInt8.xor_self, UInt8.xor_zero]
theorem laid_mod (bs : List UInt8) (M : Nat → UInt8) (k : Nat) : laid bs M (k % 4) = laid bs M k := by
  unfold laid
  congr 1
  funext i b
  rw [show (k % 4 + i) % 4 = (k + i) % 4 from by omega]
theorem laid_append (a b : List UInt8) (M : Nat → UInt8) (k : Nat) : laid (a ++ b) M k = laid a M k ++ laid b M (k + a.length) := by
  unfold laid
  rw [List.mapIdx_append]
  congr 1
  apply List.ext_getElem
  · simp
  · intro i h1 h2
    simp only [List.getElem_mapIdx]
    rw [show k + (i + a.length) = k + a.length + i from by omega]
end Go.Proofs.YtechapgchjdhaaaDoor
