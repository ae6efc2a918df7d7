/- The bytes of a header, in plain Lean. -/
import Derived.Test.YtechapgchjdhaaaDoorStr
import Derived.Test.YtechapgchjdhaaaDoorHdr
namespace Go.Proofs.YtechapgchjdhaaaDoor
open Go.RowKit

/-- The first byte; the seven bits of the length; the second byte; the longer length, the highest byte first; the whole. -/
def B0 (fin : Bool) (r o : Nat) : UInt8 := UInt8.ofNat (r * 16 + o + if fin then 128 else 0)
def L7 (n : Nat) : Nat := if n < 126 then n else if n < 65536 then 126 else 127
def B1 (mk : Bool) (n : Nat) : UInt8 := UInt8.ofNat ((if mk then 128 else 0) + L7 n)
def be (k n : Nat) : List UInt8 := (List.range k).map fun i => digit n (k - 1 - i)
def ext (n : Nat) : List UInt8 := if n < 126 then [] else if n < 65536 then be 2 n else be 8 n
def tail4 (mk : Bool) (M : Nat → UInt8) : List UInt8 := if mk then [M 0, M 1, M 2, M 3] else []
def hbytes (fin : Bool) (r o : Nat) (mk : Bool) (M : Nat → UInt8) (n : Nat) : List UInt8 := B0 fin r o :: B1 mk n :: (ext n ++ tail4 mk M)

theorem be_length (k n : Nat) : (be k n).length = k := by simp [be]
theorem be_get (k n i : Nat) (h : i < k) : (be k n)[i]'(by rw [be_length]; exact h) = digit n (k - 1 - i) := by simp [be]
theorem be_take (k n j : Nat) (h : j < k) : (be k n).take (j + 1) = (be k n).take j ++ [digit n (k - 1 - j)] := by
  rw [List.take_add_one, List.getElem?_eq_getElem (by rw [be_length]; exact h), be_get k n j h]
  rfl
theorem be_all (k n : Nat) : (be k n).take k = be k n := List.take_of_length_le (by rw [be_length]; exact Nat.le_refl _)

theorem L7_lt (n : Nat) : L7 n < 128 := by unfold L7; split <;> (try split) <;> omega
theorem B0_int (fin : Bool) (r o : Nat) (hr : r < 8) (ho : o < 16) : ((B0 fin r o).toNat : Int) = (r : Int) * 16 + o + if fin then 128 else 0 := by
  unfold B0
  rw [UInt8.toNat_ofNat']
  cases fin <;> simp <;> omega
theorem B1_int (mk : Bool) (n : Nat) : ((B1 mk n).toNat : Int) = (if mk then 128 else 0) + (L7 n : Int) := by
  have := L7_lt n
  unfold B1
  rw [UInt8.toNat_ofNat']
  cases mk <;> simp <;> omega

theorem or_i64 : ∀ r : Nat, r < 8 → ∀ o : Nat, o < 16 → bits .or .i64 ((r : Int) * 16) (o : Int) = (r : Int) * 16 + (o : Int) := by decide +kernel
theorem or_128 : ∀ x, x < 128 → bits .or .u8 ((x : Nat) : Int) 128 = ((x : Nat) : Int) + 128 := by decide +kernel
theorem or_l : ∀ x, x < 128 → bits .or .u8 128 ((x : Nat) : Int) = 128 + ((x : Nat) : Int) := by decide +kernel
theorem or_0 : ∀ x, x < 128 → bits .or .u8 0 ((x : Nat) : Int) = ((x : Nat) : Int) := by decide +kernel
end Go.Proofs.YtechapgchjdhaaaDoor
