/- Cipher: a mask laid over bytes in place: the walk. -/
import Derived.Test.YtechapgchjdhaaaDoorLe
namespace Go.Proofs.YtechapgchjdhaaaDoor
open Go.RowKit

/-- The mask as a value, and as the cells of a block. -/
abbrev mval (M : Nat → UInt8) : Value := .agg #[bv (M 0), bv (M 1), bv (M 2), bv (M 3)]

/-- Of the n cells from off on those at which D says yes hold the new byte, the others the old one; the rest of the row is as it was. -/
structure Part (cs cs' : Array Value) (off n : Nat) (B F : Nat → UInt8) (D : Nat → Bool) : Prop where
  size : cs'.size = cs.size
  here : ∀ i, i < n → cs'[off + i]? = some (bv (if D i then F i else B i))
  old : ∀ j, j < off ∨ off + n ≤ j → cs'[j]? = cs[j]?

theorem Part.step {cs cs' : Array Value} {off n k : Nat} {B F : Nat → UInt8} {D D' : Nat → Bool} (h : Part cs cs' off n B F D) (hk : k < n) (hd : ∀ i, i < n → D' i = (D i || i == k)) {u : UInt8} (hu : u = F k) :
    Part cs (cs'.setIfInBounds (off + k) (bv u)) off n B F D' := by
  subst hu
  have hs : off + k < cs'.size := (Array.getElem?_eq_some_iff.1 (h.here k hk)).1
  refine ⟨by simpa using h.size, fun i hi => ?_, fun j hj => ?_⟩
  · rw [hd i hi]
    by_cases he : i = k
    · subst he
      rw [Array.getElem?_setIfInBounds_self_of_lt hs]
      simp
    · rw [Array.getElem?_setIfInBounds_ne (by omega), h.here i hi]
      simp [he]
  · rw [Array.getElem?_setIfInBounds_ne (by omega)]
    exact h.old j hj

theorem Part.chunk {cs cs' cs1 cs2 : Array Value} {off n J : Nat} {B F G1 G2 : Nat → UInt8} {D D' : Nat → Bool} (h : Part cs cs' off n B F D) (h1 : Upd cs' cs1 (off + J) 8 G1) (h2 : Upd cs1 cs2 (off + J + 8) 8 G2)
    (e1 : ∀ i, i < 8 → G1 i = F (J + i)) (e2 : ∀ i, i < 8 → G2 i = F (J + 8 + i)) (hJ : J + 16 ≤ n) (hd : ∀ i, i < n → D' i = (D i || decide (J ≤ i ∧ i < J + 16))) : Part cs cs2 off n B F D' := by
  refine ⟨h2.size.trans (h1.size.trans h.size), fun i hi => ?_, fun j hj => ?_⟩
  · rw [hd i hi]
    by_cases ha : J + 8 ≤ i ∧ i < J + 16
    · obtain ⟨k, rfl⟩ : ∃ k, i = J + 8 + k := ⟨i - (J + 8), by omega⟩
      have := h2.new k (by omega)
      rw [show off + J + 8 + k = off + (J + 8 + k) by omega, e2 k (by omega)] at this
      rw [this, if_pos (by simp; omega)]
    · rw [h2.old _ (by omega)]
      by_cases hb : J ≤ i ∧ i < J + 8
      · obtain ⟨k, rfl⟩ : ∃ k, i = J + k := ⟨i - J, by omega⟩
        have := h1.new k (by omega)
        rw [show off + J + k = off + (J + k) by omega, e1 k (by omega)] at this
        rw [this, if_pos (by simp; omega)]
      · rw [h1.old _ (by omega), h.here i hi, show decide (J ≤ i ∧ i < J + 16) = false from by simp; omega, Bool.or_false]
  · rw [h2.old _ (by omega), h1.old _ (by omega), h.old _ hj]

theorem digit_mask (B M : Nat → UInt8) (o J K i : Nat) (hi : i < 8) (hJ : (o + J) % 4 = 0) (hK : J % 4 = K % 4) :
    digit (acc (fun j => B (K + (7 - j))) 8 ^^^ acc (fun j => M ((7 - j) % 4)) 8) i = B (K + i) ^^^ M ((o + (K + i)) % 4) := by
  rw [digit_xor, digit_acc _ 8 i hi, digit_acc _ 8 i hi]
  rw [show K + (7 - (8 - 1 - i)) = K + i by omega, show (7 - (8 - 1 - i)) % 4 = (o + (K + i)) % 4 by omega]

set_option maxRecDepth 100000 in
set_option maxHeartbeats 1000000 in
theorem cipher_short (w : World) (g off n c o : Nat) (t : TypeId) (cs : Array Value) (B M : Nat → UInt8) (hn : n < 8) (ho : o ≤ 9000000000000000000) (hb : Blk w g t cs) (hB : ∀ i, i < n → cs[off + i]? = some (bv (B i))) :
    Calls Tryd.prog 40 #[.slice (some ⟨g, off, none⟩) n c, mval M, .int .i64 o] w fun e w' => e = .returned (.tuple #[]) ∧
      ∃ cs', Blk w' g t cs' ∧ Part cs cs' off n B (fun i => B i ^^^ M ((o + i) % 4)) (fun _ => true) ∧ Kp (· ≠ g) w w' := by
  have hg := hb.lt
  go_enter Tryd.func40, Tryd.ntmps40
  go_wp2
  go_loopw [7] (fun i wr => ∃ k : Nat, k ≤ n ∧ i = .int .i64 k ∧ ∃ cs', Blk wr g t cs' ∧ Part cs cs' off n B (fun i => B i ^^^ M ((o + i) % 4)) (fun i => decide (i < k)) ∧ Kp (· ≠ g) w wr ∧ Blk wr w.heap.size 23 #[bv (M 0), bv (M 1), bv (M 2), bv (M 3)]) (fun i _ => n - (intOf i).toNat)
  case atStart => exact ⟨0, by omega, rfl, cs, hb.alloc _, ⟨rfl, fun i hi => by simpa using hB i hi, fun _ _ => rfl⟩, (Kp.refl _ _).alloc _, Blk.new _ _ _⟩
  case round =>
    obtain ⟨k, hk, rfl, cs', hb', hp, hkp, hm⟩ := hrel
    by_cases hlt : k < n
    · have hc : wr.cell? ⟨g, off + k, none⟩ = some (bv (B k)) := (hb'.cell _).trans (by rw [hp.here k hlt]; simp)
      have hf := hb'.frozen (off + k)
      have hmc : wr.cell? ⟨w.heap.size, (o + k) % 4, none⟩ = some (bv (M ((o + k) % 4))) := by
        rw [hm.cell]
        have : (o + k) % 4 < 4 := Nat.mod_lt _ (by omega)
        rcases (show (o + k) % 4 = 0 ∨ (o + k) % 4 = 1 ∨ (o + k) % 4 = 2 ∨ (o + k) % 4 = 3 by omega) with h | h | h | h <;> rw [h] <;> rfl
      clear hb hB
      go_wp2

      go_region
      go_wp2
      go_roundw
      case rel => exact ⟨k + 1, by omega, by go_num, _, by rw [xor_bits]; exact (hb'.set_ _ _).drew, hp.step hlt (fun i hi => by rw [Bool.eq_iff_iff]; simp only [decide_eq_true_eq, Bool.or_eq_true, beq_iff_eq]; omega) rfl, (hkp.setCell (fun _ h => h rfl) _).drew, ((hm.far (p := ⟨g, off + k, none⟩) (show w.heap.size ≠ g by omega) _).drew)⟩
      case measure => simp [intOf]; omega
    · obtain rfl : k = n := by omega
      go_wp2
      refine bodyPost_ret (results_none rfl _ _ _) rfl ?_
      exact ⟨rfl, cs', hb', ⟨hp.size, fun i hi => by rw [hp.here i hi]; simp [hi], hp.old⟩, hkp⟩

/-- The table 'remain', as it lies. -/
def Rem (w : World) : Prop := ∀ i, i < 4 → w.cell? ⟨0, i, none⟩ = some (.int .i64 (((4 - i) % 4 : Nat) : Int))
theorem Rem.lt {w : World} (h : Rem w) : 0 < w.heap.size := World.block_lt_of_cell? w _ (h 0 (by omega))
theorem Rem.kp {S : Nat → Prop} {w w' : World} (h : Rem w) (hk : Kp S w w') (hs : S 0) : Rem w' := fun i hi => (hk.cell (p := ⟨0, i, none⟩) h.lt hs).trans (h i hi)

set_option maxRecDepth 100000 in
set_option maxHeartbeats 2000000 in
theorem cipher_long (w : World) (g off n c o : Nat) (t : TypeId) (cs : Array Value) (B M : Nat → UInt8) (hn : 8 ≤ n) (hnc : n ≤ c) (hnm : n ≤ 140737488355328) (hcm : c ≤ 9223372036854775807) (ho : o ≤ 9000000000000000000) (hrem : Rem w)
    (hb : Blk w g t cs) (hB : ∀ i, i < n → cs[off + i]? = some (bv (B i))) :
    Calls Tryd.prog 40 #[.slice (some ⟨g, off, none⟩) n c, mval M, .int .i64 o] w fun e w' => e = .returned (.tuple #[]) ∧
      ∃ cs', Blk w' g t cs' ∧ Part cs cs' off n B (fun i => B i ^^^ M ((o + i) % 4)) (fun _ => true) ∧ Kp (· ≠ g) w w' := by
  have hg := hb.lt
  have h0 := hrem.lt
  have hr : w.cell? ⟨0, o % 4, none⟩ = some (.int .i64 (((4 - o % 4) % 4 : Nat) : Int)) := hrem _ (by omega)
  obtain ⟨L, hL⟩ : ∃ L, L = (4 - o % 4) % 4 := ⟨_, rfl⟩
  rw [← hL] at hr
  have hL4 : L < 4 := by omega
  have HL := hide hL
  clear hL
  go_enter Tryd.func40, Tryd.ntmps40
  go_wp2
  go_loopw [11] (fun i wr => ∃ k : Nat, k ≤ L ∧ i = .int .i64 k ∧ ∃ cs', Blk wr g t cs' ∧ Part cs cs' off n B (fun i => B i ^^^ M ((o + i) % 4)) (fun i => decide (i < k)) ∧ Kp (· ≠ g) w wr ∧ Blk wr w.heap.size 23 #[bv (M 0), bv (M 1), bv (M 2), bv (M 3)]) (fun i _ => L - (intOf i).toNat)
  case atStart => exact ⟨0, by omega, rfl, cs, hb.alloc _, ⟨rfl, fun i hi => by simpa using hB i hi, fun _ _ => rfl⟩, (Kp.refl _ _).alloc _, Blk.new _ _ _⟩
  case round =>
    obtain ⟨k, hk, rfl, cs', hb', hp, hkp, hm⟩ := hrel
    by_cases hlt : k < L
    · have hc : wr.cell? ⟨g, off + k, none⟩ = some (bv (B k)) := (hb'.cell _).trans (by rw [hp.here k (by omega)]; simp)
      have hf := hb'.frozen (off + k)
      have hmc : wr.cell? ⟨w.heap.size, (o + k) % 4, none⟩ = some (bv (M ((o + k) % 4))) := by
        rw [hm.cell]
        have : (o + k) % 4 < 4 := Nat.mod_lt _ (by omega)
        rcases (show (o + k) % 4 = 0 ∨ (o + k) % 4 = 1 ∨ (o + k) % 4 = 2 ∨ (o + k) % 4 = 3 by omega) with h | h | h | h <;> rw [h] <;> rfl
      clear hb hB
      go_wp2
      go_region
      go_wp2
      go_roundw
      case rel => exact ⟨k + 1, by omega, by go_num, _, by rw [xor_bits]; exact (hb'.set_ _ _).drew, hp.step (by omega) (fun i hi => by rw [Bool.eq_iff_iff]; simp only [decide_eq_true_eq, Bool.or_eq_true, beq_iff_eq]; omega) rfl, (hkp.setCell (fun _ h => h rfl) _).drew, ((hm.far (p := ⟨g, off + k, none⟩) (show w.heap.size ≠ g by omega) _).drew)⟩
      case measure => simp [intOf]; omega
    · obtain rfl : L = k := by omega
      clear hb hB hlt hk
      go_wp2
      go_loopw [12] (fun i wr => ∃ k : Nat, n - (n - L) % 16 ≤ k ∧ k ≤ n ∧ i = .int .i64 k ∧ ∃ cs', Blk wr g t cs' ∧ Part cs cs' off n B (fun i => B i ^^^ M ((o + i) % 4)) (fun i => decide (i < L ∨ (n - (n - L) % 16 ≤ i ∧ i < k))) ∧ Kp (· ≠ g) w wr ∧ Blk wr w.heap.size 23 #[bv (M 0), bv (M 1), bv (M 2), bv (M 3)]) (fun i _ => n - (intOf i).toNat)
      case atStart => exact ⟨n - (n - L) % 16, by omega, by omega, by go_num, cs', hb', ⟨hp.size, fun i hi => by rw [hp.here i hi]; congr 3; simp; omega, hp.old⟩, hkp, hm⟩
      case round =>
        clear hb' hp hkp hm
        obtain ⟨k, hk1, hk, rfl, cs', hb', hp, hkp, hm⟩ := hrel
        by_cases hlt : k < n
        · have hc : wr.cell? ⟨g, off + k, none⟩ = some (bv (B k)) := (hb'.cell _).trans (by rw [hp.here k (by omega)]; congr 3; simp; omega)
          have hf := hb'.frozen (off + k)
          have hmc : wr.cell? ⟨w.heap.size, (o + k) % 4, none⟩ = some (bv (M ((o + k) % 4))) := by
            rw [hm.cell]
            have : (o + k) % 4 < 4 := Nat.mod_lt _ (by omega)
            rcases (show (o + k) % 4 = 0 ∨ (o + k) % 4 = 1 ∨ (o + k) % 4 = 2 ∨ (o + k) % 4 = 3 by omega) with h | h | h | h <;> rw [h] <;> rfl
          go_wp2
          go_region
          go_wp2
          go_roundw
          case rel => exact ⟨k + 1, by omega, by omega, by go_num, _, by rw [xor_bits]; exact (hb'.set_ _ _).drew, hp.step (by omega) (fun i hi => by rw [Bool.eq_iff_iff]; simp only [decide_eq_true_eq, Bool.or_eq_true, beq_iff_eq]; omega) rfl, (hkp.setCell (fun _ h => h rfl) _).drew, ((hm.far (p := ⟨g, off + k, none⟩) (show w.heap.size ≠ g by omega) _).drew)⟩
          case measure => simp [intOf]; omega
        · obtain rfl : n = k := by omega
          clear hlt hk
          have hmask : ∀ i, i < 4 → wr.cell? ⟨w.heap.size, 0 + i, none⟩ = some (bv (M i)) := fun i hi => by
            rw [hm.cell]
            rcases (show i = 0 ∨ i = 1 ∨ i = 2 ∨ i = 3 by omega) with h | h | h | h <;> rw [h] <;> rfl
          have HM := hide hmask
          clear hmask
          have ham : acc (fun j => M (3 - j)) 4 < 4294967296 := acc_lt _ 4
          go_wp2_with (go_at_call 69; with_reducible refine (leUint32_any _ _ _ _ _ M (by omega) (by omega) (unhide HM)).mono ?_; rintro e w1 ⟨rfl, rfl⟩)
          rw [or_twice _ ham, mask_twice]
          have hm2 : acc (fun j => M ((7 - j) % 4)) 8 < 18446744073709551616 := acc_lt _ 8
          obtain ⟨q, hq1, hq2⟩ : ∃ q : Nat, 16 * q + (n - L) % 16 ≤ n - L ∧ n - L ≤ 16 * q + (n - L) % 16 := ⟨(n - L) / 16, by omega, by omega⟩
          rw [show ((n : Int) - L - ((n : Int) - L) % 16) / 16 = (q : Int) by omega]
          go_loopw [15, 16] (fun j i wr => ∃ k J : Nat, J = L + 16 * k ∧ k ≤ q ∧ i = .int .i64 k ∧ j = .int .i64 J ∧ ∃ cs', Blk wr g t cs' ∧ Part cs cs' off n B (fun i => B i ^^^ M ((o + i) % 4)) (fun i => decide (i < L + 16 * k ∨ n - (n - L) % 16 ≤ i)) ∧ Kp (· ≠ g) w wr) (fun _ i _ => q - (intOf i).toNat)
          case atStart => exact ⟨0, L, rfl, by omega, rfl, rfl, cs', hb', ⟨hp.size, fun i hi => by rw [hp.here i hi]; congr 3; simp; omega, hp.old⟩, hkp⟩
          case round =>
            clear hb' hp hkp hm HM
            obtain ⟨k, J, hJ, hk, rfl, rfl, cs', hb', hp, hkp⟩ := hrel
            have hJ1 : J ≤ L + 16 * k := by omega
            have hJ2 : L + 16 * k ≤ J := by omega
            have HJ := hide hJ
            clear hJ
            by_cases hlt : k < q
            · have hend : J + 16 ≤ n - (n - L) % 16 := by omega
              have hz1 : off + n ≤ cs'.size := by have := (Array.getElem?_eq_some_iff.1 (hp.here (n - 1) (by omega))).1; omega
              have H1 : Hid (∀ i, i < 8 → wr.cell? ⟨g, off + J + i, none⟩ = some (bv (B (J + i)))) := fun i hi => by
                rw [hb'.cell, show off + J + i = off + (J + i) by omega, hp.here (J + i) (by omega), if_neg (by simp; omega)]
              have H2 : Hid (∀ i, i < 8 → wr.cell? ⟨g, off + J + 8 + i, none⟩ = some (bv (B (J + 8 + i)))) := fun i hi => by
                rw [hb'.cell, show off + J + 8 + i = off + (J + 8 + i) by omega, hp.here (J + 8 + i) (by omega), if_neg (by simp; omega)]
              have x1 : acc (fun j => B (J + (7 - j))) 8 < 18446744073709551616 := acc_lt _ 8
              have x2 : acc (fun j => B (J + 8 + (7 - j))) 8 < 18446744073709551616 := acc_lt _ 8
              go_wp2_with fail
              refine (leUint64_any wr g (off + J) _ _ (fun i => B (J + i)) (by omega) (by omega) (unhide H1)).mono ?_
              rintro e w1 ⟨rfl, rfl⟩
              go_wp2_with fail
              refine (leUint64_any wr g (off + J + 8) _ _ (fun i => B (J + 8 + i)) (by omega) (by omega) (unhide H2)).mono ?_
              rintro e w1 ⟨rfl, rfl⟩
              go_wp2_with fail
              rw [u64_xor_nat _ _ x1 hm2, u64_xor_nat _ _ x2 hm2]
              refine (lePutUint64_any wr g (off + J) _ _ _ t cs' (by omega) (by omega) hb' (by omega)).mono ?_
              rintro e w1 ⟨rfl, cs1, hb1, hu1, hkp1⟩
              go_wp2_with fail
              refine (lePutUint64_any w1 g (off + J + 8) _ _ _ t cs1 (by omega) (by omega) hb1 (by have := hu1.size; omega)).mono ?_
              rintro e w2 ⟨rfl, cs2, hb2, hu2, hkp2⟩
              go_wp2
              go_roundw
              case rel =>
                have hoJ : (o + J) % 4 = 0 := by have := HJ.out; have := HL.out; omega
                exact ⟨k + 1, J + 16, by have := HJ.out; omega, by omega, by go_num, by go_num, cs2, hb2,
                  hp.chunk hu1 hu2 (fun i hi => digit_mask B M o J J i hi hoJ rfl) (fun i hi => digit_mask B M o J (J + 8) i hi hoJ (by omega)) (by omega) (fun i hi => by rw [Bool.eq_iff_iff]; simp only [decide_eq_true_eq, Bool.or_eq_true]; omega),
                  hkp.trans (hkp1.trans hkp2)⟩
              case measure => simp [intOf]; omega
            · go_wp2
              go_end0
              exact ⟨rfl, cs', hb', ⟨hp.size, fun i hi => by rw [hp.here i hi]; congr 3; simp; omega, hp.old⟩, hkp⟩

/-- CIPHER: in place, the mask from place o on laid over the n bytes; the rest of the row as it was. -/
theorem cipher_any (w : World) (g off n c o : Nat) (t : TypeId) (cs : Array Value) (B M : Nat → UInt8) (hnc : n ≤ c) (hnm : n ≤ 140737488355328) (hcm : c ≤ 9223372036854775807) (ho : o ≤ 9000000000000000000) (hrem : Rem w)
    (hb : Blk w g t cs) (hB : ∀ i, i < n → cs[off + i]? = some (bv (B i))) :
    Calls Tryd.prog 40 #[.slice (some ⟨g, off, none⟩) n c, mval M, .int .i64 o] w fun e w' => e = .returned (.tuple #[]) ∧
      ∃ cs', Blk w' g t cs' ∧ Part cs cs' off n B (fun i => B i ^^^ M ((o + i) % 4)) (fun _ => true) ∧ Kp (· ≠ g) w w' := by
  by_cases hn : n < 8
  · exact cipher_short w g off n c o t cs B M hn ho hb hB
  · exact cipher_long w g off n c o t cs B M (by omega) hnc hnm hcm ho hrem hb hB

/-- The bytes behind it. -/
theorem Part.byt {cs cs' : Array Value} {off o : Nat} {bs : List UInt8} {M : Nat → UInt8} {w : World} {g : Nat} {t : TypeId} (hb : Blk w g t cs')
    (h : Part cs cs' off bs.length (fun i => bs.getD i 0) (fun i => bs.getD i 0 ^^^ M ((o + i) % 4)) (fun _ => true)) : Byt w g off (laid bs M o) := fun i hi => by
  have hi' : i < bs.length := by simpa [laid_length] using hi
  rw [hb.cell, h.here i hi', laid_get bs M o i hi']
  simp [List.getD, List.getElem?_eq_getElem hi']
end Go.Proofs.YtechapgchjdhaaaDoor
