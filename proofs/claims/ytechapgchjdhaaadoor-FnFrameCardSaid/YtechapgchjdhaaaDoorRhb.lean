/- The bits of a header's first two bytes, and a number put together of its bytes again; beUint64: plain Lean and one walk. -/
import Derived.Test.YtechapgchjdhaaaDoorRfl
namespace Go.Proofs.YtechapgchjdhaaaDoor
open Go.RowKit

theorem and_fin : ∀ fin : Bool, ∀ r, r < 8 → ∀ o, o < 16 → bits .and .u8 ((B0 fin r o).toNat : Int) 128 = if fin then 128 else 0 := by decide +kernel
theorem and_rsv : ∀ fin : Bool, ∀ r, r < 8 → ∀ o, o < 16 → bits .and .u8 ((B0 fin r o).toNat : Int) 112 = (r : Int) * 16 := by decide +kernel
theorem and_op : ∀ fin : Bool, ∀ r, r < 8 → ∀ o, o < 16 → bits .and .u8 ((B0 fin r o).toNat : Int) 15 = (o : Int) := by decide +kernel
theorem and_mk' : ∀ mk : Bool, ∀ x, x < 128 → bits .and .u8 (((UInt8.ofNat ((if mk then 128 else 0) + x)).toNat : Nat) : Int) 128 = if mk then 128 else 0 := by decide +kernel
theorem and_len' : ∀ mk : Bool, ∀ x, x < 128 → bits .and .u8 (((UInt8.ofNat ((if mk then 128 else 0) + x)).toNat : Nat) : Int) 127 = (x : Int) := by decide +kernel
theorem and_mk (mk : Bool) (n : Nat) : bits .and .u8 ((B1 mk n).toNat : Int) 128 = if mk then 128 else 0 := and_mk' mk (L7 n) (L7_lt n)
theorem and_len (mk : Bool) (n : Nat) : bits .and .u8 ((B1 mk n).toNat : Int) 127 = (L7 n : Int) := and_len' mk (L7 n) (L7_lt n)
theorem and_top : ∀ x, x < 128 → bits .and .u8 ((x : Nat) : Int) 128 = 0 := by decide +kernel

theorem acc_be (n k : Nat) : ∀ j, j ≤ k → acc (fun i => digit n (k - 1 - i)) j = n / 256 ^ (k - j) % 256 ^ j := by
  intro j
  induction j with
  | zero => intro _; simp [acc, Nat.mod_one]
  | succ j ih =>
    intro hj
    have h1 := ih (by omega)
    rw [acc, h1, digit_toNat, show k - 1 - j = k - (j + 1) by omega]
    have e : n / 256 ^ (k - j) = n / 256 ^ (k - (j + 1)) / 256 := by
      rw [Nat.div_div_eq_div_mul, ← Nat.pow_succ, show (k - (j + 1)).succ = k - j by omega]
    rw [e]
    generalize n / 256 ^ (k - (j + 1)) = q
    have := Nat.mod_mul (a := 256) (b := 256 ^ j) (x := q)
    rw [Nat.pow_succ, Nat.mul_comm (256 ^ j) 256, this]
    omega
theorem acc_all (n k : Nat) (h : n < 256 ^ k) : acc (fun i => digit n (k - 1 - i)) k = n := by
  rw [acc_be n k k (Nat.le_refl _), Nat.sub_self, Nat.pow_zero, Nat.div_one, Nat.mod_eq_of_lt h]

set_option maxHeartbeats 400000 in
theorem beUint64_any (w : World) (g off n c : Nat) (b : Nat → UInt8) (hn : 8 ≤ n) (hn' : n ≤ 9223372036854775807) (hb : ∀ i, i < 8 → w.cell? ⟨g, off + i, none⟩ = some (bv (b i))) :
    Calls Tryd.prog 103 #[.slice (some ⟨g, off, none⟩) n c] w fun e w' => e = .returned (.int .u64 (acc b 8)) ∧ w = w' := by
  have h7 := hb 7 (by omega)
  go_enter Tryd.func103, Tryd.ntmps103
  go_wp2
  go_loop [3, 4] (fun v i => ∃ k : Nat, k ≤ 8 ∧ i = .int .i64 k ∧ v = .int .u64 (acc b k)) (fun _ i => 8 - (intOf i).toNat)
  case atStart => exact ⟨0, by omega, rfl, rfl⟩
  case round =>
    obtain ⟨k, hk, rfl, rfl⟩ := hrel
    by_cases hlt : k < 8
    · have hc := hb k (by omega)
      have ha : acc b k < 72057594037927936 := Nat.lt_of_lt_of_le (acc_lt _ k) (Nat.le_trans (Nat.pow_le_pow_right (by omega) (show k ≤ 7 by omega)) (by decide))
      have hbb := u8lt (b k)
      clear hb h7
      go_wp2
      go_round
      case rel => exact ⟨k + 1, by omega, by go_num, by rw [or_step_u64 _ _ ha]; rfl⟩
      case measure => simp [intOf]; omega
    · obtain rfl : k = 8 := by omega
      go_wp2
      go_ret
      exact ⟨rfl, rfl⟩
end Go.Proofs.YtechapgchjdhaaaDoor
