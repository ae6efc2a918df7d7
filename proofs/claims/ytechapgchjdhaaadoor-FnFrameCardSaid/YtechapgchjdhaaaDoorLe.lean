/- The little functions that put numbers together of bytes and take them apart (leUint32, leUint64, beUint16, beUint64, lePutUint64, bePutUint16, bePutUint64): the walks. -/
import Derived.Test.YtechapgchjdhaaaDoorQui
namespace Go.Proofs.YtechapgchjdhaaaDoor
open Go.RowKit

/-- A row of cells whose n cells from off on have been written with these bytes. -/
structure Upd (cs cs' : Array Value) (off n : Nat) (F : Nat → UInt8) : Prop where
  size : cs'.size = cs.size
  new : ∀ i, i < n → cs'[off + i]? = some (bv (F i))
  old : ∀ j, j < off ∨ off + n ≤ j → cs'[j]? = cs[j]?
theorem Upd.zero (cs : Array Value) (off : Nat) (F : Nat → UInt8) : Upd cs cs off 0 F := ⟨rfl, fun i hi => by omega, fun _ _ => rfl⟩
theorem Upd.step {cs cs' : Array Value} {off k : Nat} {F : Nat → UInt8} (h : Upd cs cs' off k F) (hs : off + k < cs.size) : Upd cs (cs'.setIfInBounds (off + k) (bv (F k))) off (k + 1) F := by
  refine ⟨by simpa using h.size, fun i hi => ?_, fun j hj => ?_⟩
  · by_cases he : i = k
    · subst he
      rw [Array.getElem?_setIfInBounds_self_of_lt (by rw [h.size]; exact hs)]
    · rw [Array.getElem?_setIfInBounds_ne (by omega)]
      exact h.new i (by omega)
  · rw [Array.getElem?_setIfInBounds_ne (by omega)]
    exact h.old j (by omega)

theorem ret_int {k : IntKind} {a b : Int} (h : a = b) : Ending.returned (.int k a) = .returned (.int k b) := by rw [h]

set_option maxHeartbeats 400000 in
theorem leUint64_any (w : World) (g off n c : Nat) (b : Nat → UInt8) (hn : 8 ≤ n) (hn' : n ≤ 9223372036854775807) (hb : ∀ i, i < 8 → w.cell? ⟨g, off + i, none⟩ = some (bv (b i))) :
    Calls Tryd.prog 70 #[.slice (some ⟨g, off, none⟩) n c] w fun e w' => e = .returned (.int .u64 (acc (fun j => b (7 - j)) 8)) ∧ w = w' := by
  have h7 := hb 7 (by omega)
  go_enter Tryd.func70, Tryd.ntmps70
  go_wp2
  go_loop [3, 4] (fun v i => ∃ k : Nat, k ≤ 8 ∧ i = .int .i64 k ∧ v = .int .u64 (acc (fun j => b (7 - j)) k)) (fun _ i => 8 - (intOf i).toNat)
  case atStart => exact ⟨0, by omega, rfl, rfl⟩
  case round =>
    obtain ⟨k, hk, rfl, rfl⟩ := hrel
    by_cases hlt : k < 8
    · have hc := hb (7 - k) (by omega)
      have ha : acc (fun j => b (7 - j)) k < 72057594037927936 := Nat.lt_of_lt_of_le (acc_lt _ k) (Nat.le_trans (Nat.pow_le_pow_right (by omega) (show k ≤ 7 by omega)) (by decide))
      have hbb := u8lt (b (7 - k))
      clear hb h7
      go_wp2
      go_round
      case rel => exact ⟨k + 1, by omega, by go_num, by rw [or_step_u64 _ _ ha]; rfl⟩
      case measure => simp [intOf]; omega
    · obtain rfl : k = 8 := by omega
      go_wp2
      go_ret
      exact ⟨rfl, rfl⟩

set_option maxHeartbeats 400000 in
theorem leUint32_any (w : World) (g off n c : Nat) (b : Nat → UInt8) (hn : 4 ≤ n) (hn' : n ≤ 9223372036854775807) (hb : ∀ i, i < 4 → w.cell? ⟨g, off + i, none⟩ = some (bv (b i))) :
    Calls Tryd.prog 69 #[.slice (some ⟨g, off, none⟩) n c] w fun e w' => e = .returned (.int .u32 (acc (fun j => b (3 - j)) 4)) ∧ w = w' := by
  have h7 := hb 3 (by omega)
  go_enter Tryd.func69, Tryd.ntmps69
  go_wp2
  go_loop [3, 4] (fun v i => ∃ k : Nat, k ≤ 4 ∧ i = .int .i64 k ∧ v = .int .u32 (acc (fun j => b (3 - j)) k)) (fun _ i => 4 - (intOf i).toNat)
  case atStart => exact ⟨0, by omega, rfl, rfl⟩
  case round =>
    obtain ⟨k, hk, rfl, rfl⟩ := hrel
    by_cases hlt : k < 4
    · have hc := hb (3 - k) (by omega)
      have ha : acc (fun j => b (3 - j)) k < 16777216 := Nat.lt_of_lt_of_le (acc_lt _ k) (Nat.le_trans (Nat.pow_le_pow_right (by omega) (show k ≤ 3 by omega)) (by decide))
      have hbb := u8lt (b (3 - k))
      clear hb h7
      go_wp2
      go_round
      case rel => exact ⟨k + 1, by omega, by go_num, by rw [or_step_u32 _ _ ha]; rfl⟩
      case measure => simp [intOf]; omega
    · obtain rfl : k = 4 := by omega
      go_wp2
      go_ret
      exact ⟨rfl, rfl⟩

set_option maxHeartbeats 400000 in
theorem lePutUint64_any (w : World) (g off n c v : Nat) (t : TypeId) (cs : Array Value) (hn : 8 ≤ n) (hn' : n ≤ 9223372036854775807) (hb : Blk w g t cs) (hs : off + 8 ≤ cs.size) :
    Calls Tryd.prog 71 #[.slice (some ⟨g, off, none⟩) n c, .int .u64 v] w fun e w' => e = .returned (.tuple #[]) ∧ ∃ cs', Blk w' g t cs' ∧ Upd cs cs' off 8 (digit v) ∧ Kp (· ≠ g) w w' := by
  have h7 : w.cell? ⟨g, off + 7, none⟩ = some (cs[off + 7]'(by omega)) := (hb.cell _).trans (Array.getElem?_eq_getElem (by omega))
  go_enter Tryd.func71, Tryd.ntmps71
  go_wp2
  go_loopw [4] (fun i wr => ∃ k : Nat, k ≤ 8 ∧ i = .int .i64 k ∧ ∃ cs', Blk wr g t cs' ∧ Upd cs cs' off k (digit v) ∧ Kp (· ≠ g) w wr) (fun i _ => 8 - (intOf i).toNat)
  case atStart => exact ⟨0, by omega, rfl, cs, hb, Upd.zero _ _ _, Kp.refl _ _⟩
  case round =>
    obtain ⟨k, hk, rfl, cs', hb', hu, hkp⟩ := hrel
    by_cases hlt : k < 8
    · have hc : wr.cell? ⟨g, off + k, none⟩ = some (cs'[off + k]'(by have := hu.size; omega)) := (hb'.cell _).trans (Array.getElem?_eq_getElem (by have := hu.size; omega))
      have hf := hb'.frozen (off + k)
      clear hb h7
      go_wp2
      go_roundw
      case rel => exact ⟨k + 1, by omega, by go_num, _, by rw [digit_int]; exact hb'.set_ _ _, hu.step (by omega), hkp.setCell (by simp) _⟩
      case measure => simp [intOf]; omega
    · obtain rfl : k = 8 := by omega
      go_wp2
      go_end0
      exact ⟨rfl, cs', hb', hu, hkp⟩
end Go.Proofs.YtechapgchjdhaaaDoor
