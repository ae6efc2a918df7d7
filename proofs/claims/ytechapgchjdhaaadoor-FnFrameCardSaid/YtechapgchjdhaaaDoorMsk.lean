/- make([]byte, n) as an equation; spec.Masked: the walk. -/
import Derived.Test.YtechapgchjdhaaaDoorImc
namespace Go.Proofs.YtechapgchjdhaaaDoor
open Go.RowKit

/-- n bytes, all of them 0. -/
def zrow (n : Nat) : Array Value := (Array.range n).map fun _ => bv 0
theorem zrow_size (n : Nat) : (zrow n).size = n := by simp [zrow]
theorem zrow_get (n i : Nat) (h : i < n) : (zrow n)[i]? = some (bv 0) := by simp [zrow, h]

theorem run_make_bytes (n c : Nat) (hnc : n ≤ c) (hc : c ≤ 140737488355328) (w : World) :
    (Instr.makeSlice 22 (.int .i64 (n : Int)) (.int .i64 (c : Int))).run Tryd.prog w = .ok (.slice (some ⟨w.heap.size, 0, none⟩) n c) (w.alloc (.cells (zrow c) 5)) := by
  obtain ⟨i0, hi, hz0, hz1, hz2⟩ := info_parts info5
  have hr := run_make (P := Tryd.prog) w 22 5 i0 (.int .u8 0) Tryd.underlying22 hi hz0 .i64 .i64 n c (by omega) (by omega) (by rw [hz2]; omega) (by omega)
  simp only [Int.toNat_natCast] at hr
  rw [hr]
  have e : madeCells (Value.cells (.int .u8 0)) (c * i0.size) = zrow c := by
    rw [hz1, Nat.mul_one]
    unfold madeCells zrow
    apply Array.ext
    · simp
    · intro i h1 h2
      simp only [Array.getElem_map]
      show (#[Value.int .u8 0])[(Array.range c)[i]'(by simpa using h1) % 1]! = bv 0
      rw [Nat.mod_one]
      rfl
  rw [e]

theorem mask_cell {w : World} {g : Nat} {M : Nat → UInt8} (h : Blk w g 23 #[bv (M 0), bv (M 1), bv (M 2), bv (M 3)]) (j : Nat) (hj : j < 4) : w.cell? ⟨g, j, none⟩ = some (bv (M j)) := by
  rw [h.cell]
  rcases (show j = 0 ∨ j = 1 ∨ j = 2 ∨ j = 3 by omega) with h | h | h | h <;> rw [h] <;> rfl

theorem Upd.byt {cs cs' : Array Value} {off : Nat} {bs : List UInt8} {w : World} {g : Nat} {t : TypeId} (hb : Blk w g t cs') (h : Upd cs cs' off bs.length (fun i => bs.getD i 0)) : Byt w g off bs := fun i hi => by
  rw [hb.cell, h.new i hi]
  simp [List.getD, List.getElem?_eq_getElem hi]

set_option maxRecDepth 100000 in
set_option maxHeartbeats 1000000 in
theorem masked_any (w : World) (A : Option Addr) (c o : Nat) (bs : List UInt8) (M : Nat → UInt8) (hr : Rd w w.heap.size A bs) (hlen : bs.length ≤ 140737488355328) (ho : o ≤ 9000000000000000000) :
    Calls Tryd.prog 15 #[.slice A bs.length c, mval M, .int .i64 o] w fun e w' => Got w w' (laid bs M o) e := by
  have hmk := run_make_bytes bs.length bs.length (Nat.le_refl _) hlen
  obtain ⟨F, hF⟩ : ∃ F : Nat → UInt8, F = fun i => (laid bs M o).getD i 0 := ⟨_, rfl⟩
  have HF := hide hF
  clear hF
  go_enter Tryd.func15, Tryd.ntmps15
  go_wp2
  go_loopw [15] (fun i wr => ∃ k : Nat, k ≤ bs.length ∧ i = .int .i64 k ∧ ∃ cs', Blk wr (w.heap.size + 1) 5 cs' ∧ Upd (zrow bs.length) cs' 0 k F ∧ Kp (fun _ => True) w wr ∧ Blk wr w.heap.size 23 #[bv (M 0), bv (M 1), bv (M 2), bv (M 3)]) (fun i _ => bs.length - (intOf i).toNat)
  case atStart => exact ⟨0, by omega, rfl, _, Blk.new2 w _ 5 _, Upd.zero _ _ _, ((Kp.refl _ w).alloc _).alloc _, (Blk.new w 23 _).alloc _⟩
  case round =>
    obtain ⟨k, hk, rfl, cs', hb', hu, hkp, hm⟩ := hrel
    by_cases hlt : k < bs.length
    · obtain ⟨ga, offa, rfl, hga, hby⟩ := hr (by intro h; rw [h] at hlt; simp at hlt)
      have hc : wr.cell? ⟨ga, offa + k, none⟩ = some (bv bs[k]) := (hkp.cell (p := ⟨ga, offa + k, none⟩) hga trivial).trans (hby k hlt)
      have hmc := mask_cell hm ((o + k) % 4) (by omega)
      have hcur : wr.cell? ⟨w.heap.size + 1, k, none⟩ = some (cs'[k]'(by have := hu.size; rw [zrow_size] at this; omega)) := (hb'.cell _).trans (Array.getElem?_eq_getElem (by have := hu.size; rw [zrow_size] at this; omega))
      have hfz := hb'.frozen k
      clear hr hby hmk
      go_wp2
      have hFk : F k = bs[k] ^^^ M ((o + k) % 4) := by
        rw [HF.out]
        simp only [List.getD]
        rw [List.getElem?_eq_getElem (by rw [laid_length]; exact hlt), Option.getD_some, laid_get]
      go_roundw
      case rel => exact ⟨k + 1, by omega, by go_num, _, by rw [xor_bits]; exact hb'.set_ _ _, by have := hu.step (by rw [zrow_size]; omega); rw [hFk, Nat.zero_add] at this; exact this, hkp.setCell (fun h => absurd h (by simp)) _, hm.far (p := ⟨w.heap.size + 1, k, none⟩) (show w.heap.size ≠ w.heap.size + 1 by omega) _⟩
      case measure => simp [intOf]; omega
    · obtain rfl : k = bs.length := by omega
      clear hr
      go_wp2
      go_ret
      rw [HF.out] at hu
      refine ⟨w.heap.size + 1, _, by rw [laid_length]; rfl, by omega, hb'.lt, Upd.byt hb' (by rw [laid_length]; exact hu), by rw [laid_length]; omega, by omega, hkp⟩
end Go.Proofs.YtechapgchjdhaaaDoor
