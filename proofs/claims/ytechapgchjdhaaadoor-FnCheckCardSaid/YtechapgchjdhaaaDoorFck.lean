/- laws.FnCheck: the walk. -/
import Derived.Test.YtechapgchjdhaaaDoorChi
namespace Go.Proofs.YtechapgchjdhaaaDoor
open Go.RowKit

set_option maxRecDepth 100000 in
set_option maxHeartbeats 8000000 in
theorem fnCheck_walk (w : World) (fin : Bool) (rsv op : Int) (mk : Bool) (M : Nat → UInt8) (len : Int) (s c e f : Bool) (hrem : Rem w) :
    Calls Tryd.prog 6 #[hval fin rsv op mk M len, .bool s, .bool c, .bool e, .bool f] w (Yes w) := by
  have ka : ∀ x, KT w (w.alloc x) := fun x => (KT.refl w).alloc x
  have KA := hide ka
  clear ka
  go_enter Tryd.func6, Tryd.ntmps6
  go_wp2_with fail
  refine (header_any _ fin rsv op mk M len).mono ?_
  rintro r w1 ⟨rfl, hk1⟩
  have p5 : Blk w1 w.heap.size 29 (hcells fin rsv op mk M len) := (Blk.new w 29 _).on hk1
  have k1 : KT w w1 := Kp.trans (unhide KA _) hk1
  clear hk1
  go_upto_region 2 with fail
  refine wp_abs (fun w2 => Blk w2 w.heap.size 29 (hcells fin rsv op mk M len) ∧ Blk w2 w1.heap.size 30 (hcells fin rsv op mk M len) ∧ KT w w2) ⟨p5.alloc _, Blk.new w1 30 _, k1.alloc _⟩ ?_
  clear p5 k1
  rintro w2 ⟨p5, p11, k2⟩
  obtain ⟨b11, hb11⟩ : ∃ b11, b11 = w1.heap.size := ⟨_, rfl⟩
  rw [← hb11] at p11 ⊢
  clear hb11
  obtain ⟨b5, hb5⟩ : ∃ b5, b5 = w.heap.size := ⟨_, rfl⟩
  rw [← hb5] at p5 ⊢
  clear hb5
  obtain ⟨c0, c1, c2, c3, c4, c5, c6, c7, c8⟩ := row9 p11
  go_wp2_with fail
  refine (proper_any w2 fin rsv op mk M len).mono ?_
  rintro r wx ⟨rfl, hk⟩
  have kx := Kp.trans k2 hk
  replace p5 := p5.on hk
  replace p11 := p11.on hk
  clear c0 c1 c2 c3 c4 c5 c6 c7 c8 k2 hk
  have hw := works_any wx (hrem.on kx)
  cases h3 : properB rsv op mk M len
  · go_wp2_with (refine hw.mono ?_; rintro r w4 ⟨rfl, hk⟩)
    go_ret
    exact ⟨rfl, Kp.trans kx hk⟩
  by_cases hsc : s = true ∧ c = true
  · obtain ⟨rfl, rfl⟩ := hsc
    go_wp2_with (refine hw.mono ?_; rintro r w4 ⟨rfl, hk⟩)
    go_ret
    exact ⟨rfl, Kp.trans kx hk⟩
  clear hw
  have hop := properB_spec _ _ _ _ _ h3
  have hs : ∀ w', KT wx w' → (fun w' : World => KT wx w' ∧ w'.cell? ⟨b5, 0, none⟩ = some (.bool fin) ∧ w'.cell? ⟨b5, 1, none⟩ = some (.int .i64 rsv) ∧ w'.cell? ⟨b5, 2, none⟩ = some (.int .i64 op) ∧ w'.cell? ⟨b5, 3, none⟩ = some (.bool mk) ∧ w'.cell? ⟨b5, 4, none⟩ = some (bv (M 0)) ∧ w'.cell? ⟨b5, 5, none⟩ = some (bv (M 1)) ∧ w'.cell? ⟨b5, 6, none⟩ = some (bv (M 2)) ∧ w'.cell? ⟨b5, 7, none⟩ = some (bv (M 3)) ∧ w'.cell? ⟨b5, 8, none⟩ = some (.int .i64 len) ∧ w'.cell? ⟨b11, 0, none⟩ = some (.bool fin) ∧ w'.cell? ⟨b11, 1, none⟩ = some (.int .i64 rsv) ∧ w'.cell? ⟨b11, 2, none⟩ = some (.int .i64 op) ∧ w'.cell? ⟨b11, 3, none⟩ = some (.bool mk) ∧ w'.cell? ⟨b11, 4, none⟩ = some (bv (M 0)) ∧ w'.cell? ⟨b11, 5, none⟩ = some (bv (M 1)) ∧ w'.cell? ⟨b11, 6, none⟩ = some (bv (M 2)) ∧ w'.cell? ⟨b11, 7, none⟩ = some (bv (M 3)) ∧ w'.cell? ⟨b11, 8, none⟩ = some (.int .i64 len)) w' := fun w' hk => by
    obtain ⟨x0, x1, x2, x3, x4, x5, x6, x7, x8⟩ := row9 (p5.on hk)
    obtain ⟨y0, y1, y2, y3, y4, y5, y6, y7, y8⟩ := row9 (p11.on hk)
    exact ⟨hk, x0, x1, x2, x3, x4, x5, x6, x7, x8, y0, y1, y2, y3, y4, y5, y6, y7, y8⟩
  have HS := hide hs
  have hI : ∀ w', Calls Tryd.prog 23 #[hval fin rsv op mk M len, .bool s, .bool c, .bool e, .bool f] w' fun r w'' => r = .returned (.bool (fineB fin rsv op mk len s c e f)) ∧ KT w' w'' := fun w' => implCheck w' fin rsv op mk M len s c e f (by omega) (by omega)
  have HI := hide hI
  have hP : ∀ w', Calls Tryd.prog 24 #[hval fin rsv op mk M len, .bool s, .bool c, .bool e, .bool f] w' fun r w'' => r = .returned (.bool (fineB fin rsv op mk len s c e f)) ∧ KT w' w'' := fun w' => fine_any w' fin rsv op mk M len s c e f (by omega)
  have HP := hide hP
  have hW : ∀ w', KT wx w' → Calls Tryd.prog 12 #[] w' (Yes w') := fun w' hk => works_any w' (hrem.on (Kp.trans kx hk))
  have HW := hide hW
  obtain ⟨ok, hok⟩ : ∃ ok, ok = fineB fin rsv op mk len s c e f := ⟨_, rfl⟩
  rw [← hok] at HI HP
  clear hs hI hP hW p5 p11 hrem hop KA hok
  have hgo : ∀ (P : Prop), P → P := fun _ h => h
  have hcase : s = false ∨ (s = true ∧ c = false) := by
    cases s <;> cases c <;> simp_all
  clear hsc
  rcases hcase with rfl | ⟨rfl, rfl⟩
  all_goals go_upto_region 4 with fail
  all_goals (go_region_held3 (fun w' : World => KT wx w' ∧ w'.cell? ⟨b5, 0, none⟩ = some (.bool fin) ∧ w'.cell? ⟨b5, 1, none⟩ = some (.int .i64 rsv) ∧ w'.cell? ⟨b5, 2, none⟩ = some (.int .i64 op) ∧ w'.cell? ⟨b5, 3, none⟩ = some (.bool mk) ∧ w'.cell? ⟨b5, 4, none⟩ = some (bv (M 0)) ∧ w'.cell? ⟨b5, 5, none⟩ = some (bv (M 1)) ∧ w'.cell? ⟨b5, 6, none⟩ = some (bv (M 2)) ∧ w'.cell? ⟨b5, 7, none⟩ = some (bv (M 3)) ∧ w'.cell? ⟨b5, 8, none⟩ = some (.int .i64 len) ∧ w'.cell? ⟨b11, 0, none⟩ = some (.bool fin) ∧ w'.cell? ⟨b11, 1, none⟩ = some (.int .i64 rsv) ∧ w'.cell? ⟨b11, 2, none⟩ = some (.int .i64 op) ∧ w'.cell? ⟨b11, 3, none⟩ = some (.bool mk) ∧ w'.cell? ⟨b11, 4, none⟩ = some (bv (M 0)) ∧ w'.cell? ⟨b11, 5, none⟩ = some (bv (M 1)) ∧ w'.cell? ⟨b11, 6, none⟩ = some (bv (M 2)) ∧ w'.cell? ⟨b11, 7, none⟩ = some (bv (M 3)) ∧ w'.cell? ⟨b11, 8, none⟩ = some (.int .i64 len))
    (first | (go_split_ands; refine unhide HS _ ?_; exact (KT.refl wx).drew) | (go_split_ands; refine unhide HS _ (Kp.trans ?_ hk); assumption) | (go_split_ands; assumption))
    (first
      | (go_at_call 23; go_split_ands; (with_reducible refine (unhide HI _).mono ?_); rintro e w1 ⟨rfl, hk⟩)
      | (go_at_call 24; go_split_ands; (with_reducible refine (unhide HP _).mono ?_); rintro e w1 ⟨rfl, hk⟩)
      | (go_at_call 12; go_split_ands; (with_reducible refine (unhide HW _ ?_).mono ?_); assumption; rintro e w1 ⟨rfl, hk⟩)))
  all_goals go_wp2
  all_goals go_ret
  all_goals go_split_ands
  all_goals exact ⟨rfl, Kp.trans kx (by assumption)⟩
end Go.Proofs.YtechapgchjdhaaaDoor
