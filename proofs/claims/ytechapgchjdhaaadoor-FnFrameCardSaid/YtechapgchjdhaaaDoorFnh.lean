/- laws.FnHeader: the walk. -/
import Derived.Test.YtechapgchjdhaaaDoorFhd
namespace Go.Proofs.YtechapgchjdhaaaDoor
open Go.RowKit

theorem hsize_eq (fin : Bool) (r o : Nat) (mk : Bool) (M : Nat → UInt8) (n : Nat) : (hbytes fin r o mk M n).length = hsize mk n := hbytes_length fin r o mk M n

set_option maxRecDepth 100000 in
set_option maxHeartbeats 4000000 in
theorem fnHeader_walk (w : World) (fin : Bool) (rsv op : Int) (mk : Bool) (M : Nat → UInt8) (len : Int) (hlen : len ≤ 9223372036854775807) (hrem : Rem w) :
    Calls Tryd.prog 7 #[hval fin rsv op mk M len] w (Yes w) := by
  have ka : ∀ x, KT w (w.alloc x) := fun x => (KT.refl w).alloc x
  have KA := hide ka
  clear ka
  go_enter Tryd.func7, Tryd.ntmps7
  go_wp2_with fail
  refine (header_any _ fin rsv op mk M len).mono ?_
  rintro e w1 ⟨rfl, hk1⟩
  have p5 : Blk w1 w.heap.size 29 (hcells fin rsv op mk M len) := (Blk.new w 29 _).on hk1
  have k1 : KT w w1 := Kp.trans (unhide KA _) hk1
  clear hk1
  go_upto_region 2 with fail
  refine wp_abs (fun w2 => Blk w2 w.heap.size 29 (hcells fin rsv op mk M len) ∧ Blk w2 w1.heap.size 30 (hcells fin rsv op mk M len) ∧ KT w w2) ⟨p5.alloc _, Blk.new w1 30 _, k1.alloc _⟩ ?_
  clear p5 k1
  rintro w2 ⟨p5, p11, k2⟩
  obtain ⟨b11, hb11⟩ : ∃ b11, b11 = w1.heap.size := ⟨_, rfl⟩
  rw [← hb11] at p11 ⊢
  clear hb11
  obtain ⟨b5, hb5⟩ : ∃ b5, b5 = w.heap.size := ⟨_, rfl⟩
  rw [← hb5] at p5 ⊢
  clear hb5
  obtain ⟨c0, c1, c2, c3, c4, c5, c6, c7, c8⟩ := row9 p11
  go_wp2_with fail
  refine (proper_any w2 fin rsv op mk M len).mono ?_
  rintro e wx ⟨rfl, hk⟩
  have kx := Kp.trans k2 hk
  replace p5 := p5.on hk
  replace p11 := p11.on hk
  clear c0 c1 c2 c3 c4 c5 c6 c7 c8 k2 hk
  cases h3 : properB rsv op mk M len
  · have hw := works_any wx (hrem.on kx)
    go_wp2_with (refine hw.mono ?_; rintro r w4 ⟨rfl, hk⟩)
    go_ret
    exact ⟨rfl, Kp.trans kx hk⟩
  obtain ⟨g1, g2, g3, g4, g5, _⟩ := properB_spec _ _ _ _ _ h3
  obtain ⟨r, rfl⟩ := Int.eq_ofNat_of_zero_le g1
  obtain ⟨o, rfl⟩ := Int.eq_ofNat_of_zero_le g3
  obtain ⟨n, rfl⟩ := Int.eq_ofNat_of_zero_le g5
  have hr : r < 8 := by omega
  have ho : o < 16 := by omega
  have hn : n ≤ 9223372036854775807 := by omega
  clear g1 g2 g3 g4 g5 h3 hlen
  have HB := hide (fun w => specBytes w fin r o mk M n hr ho hn)
  have HI := hide (fun w => implFormat w fin r o mk M n hr ho hn)
  have HS := hide (fun w => implSize w fin r o mk M n hr ho hn)
  have hsz := hsize_eq fin r o mk M n
  obtain ⟨bs, hbs⟩ : ∃ bs, bs = hbytes fin r o mk M n := ⟨_, rfl⟩
  rw [← hbs] at HB HI hsz
  rw [← hsz] at HS
  clear hsz hbs
  obtain ⟨c0, c1, c2, c3, c4, c5, c6, c7, c8⟩ := row9 p11
  go_wp2_with fail
  refine (unhide HB wx).mono ?_
  rintro e w3 ⟨ga, resta, rfl, hga, hblka, hma, hk3⟩
  replace p5 := p5.on hk3
  have hrda : Rd w3 w3.heap.size (some ⟨ga, 0, none⟩) bs := Rd.of_blk hblka
  have k3 := Kp.trans kx hk3
  clear c0 c1 c2 c3 c4 c5 c6 c7 c8 hblka hk3 p11 hga
  obtain ⟨c0, c1, c2, c3, c4, c5, c6, c7, c8⟩ := row9 p5
  go_wp2_with fail
  refine (unhide HI w3).mono ?_
  rintro e w4 ⟨gb, capb, rfl, hrdb, hk4⟩
  replace p5 := p5.on hk4
  replace hrda := hrda.on hk4
  have k4 := Kp.trans k3 hk4
  clear c0 c1 c2 c3 c4 c5 c6 c7 c8 hk4 k3 kx
  obtain ⟨c0, c1, c2, c3, c4, c5, c6, c7, c8⟩ := row9 p5
  go_wp2_with fail
  refine (same_any w4 w4.heap.size _ _ _ _ _ _ bs bs hrdb hrda rfl rfl).mono ?_
  rintro e w4 ⟨rfl, rfl⟩
  have hd : decide (bs = bs) = true := by simp
  rw [hd]
  clear hd
  go_wp2_with fail
  refine (unhide HS _).mono ?_
  rintro e w5 ⟨rfl, hk5⟩
  have k5 := Kp.trans k4 hk5
  have hw := works_any w5 (hrem.on k5)
  go_wp2_with (refine hw.mono ?_; rintro r w6 ⟨rfl, hk⟩)
  go_ret
  exact ⟨rfl, Kp.trans k5 hk⟩
end Go.Proofs.YtechapgchjdhaaaDoor
