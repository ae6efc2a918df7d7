/- laws.FnMask: the walk. -/
import Derived.Test.YtechapgchjdhaaaDoorImk
namespace Go.Proofs.YtechapgchjdhaaaDoor
open Go.RowKit

section
variable {S : Nat → Prop} {w0 w : World} {b g i j k l m : Nat} {t : TypeId} {cs : Array Value} {B : Nat} {A : Option Addr} {bs : List UInt8} {u v x y z : Value}
theorem Blk.far5 (h : Blk w g t cs) (hne : g ≠ b) : Blk (((((w.setCell ⟨b, i, none⟩ u).setCell ⟨b, j, none⟩ v).setCell ⟨b, k, none⟩ x).setCell ⟨b, l, none⟩ y).setCell ⟨b, m, none⟩ z) g t cs :=
  ((((h.far (p := ⟨b, i, none⟩) hne _).far (p := ⟨b, j, none⟩) hne _).far (p := ⟨b, k, none⟩) hne _).far (p := ⟨b, l, none⟩) hne _).far (p := ⟨b, m, none⟩) hne _
theorem Kp.far5 (h : Kp S w0 w) (hp : b < w0.heap.size → ¬ S b) : Kp S w0 (((((w.setCell ⟨b, i, none⟩ u).setCell ⟨b, j, none⟩ v).setCell ⟨b, k, none⟩ x).setCell ⟨b, l, none⟩ y).setCell ⟨b, m, none⟩ z) :=
  ((((h.setCell hp _).setCell hp _).setCell hp _).setCell hp _).setCell hp _
theorem Blk.far4 (h : Blk w g t cs) (hne : g ≠ b) : Blk ((((w.setCell ⟨b, j, none⟩ v).setCell ⟨b, k, none⟩ x).setCell ⟨b, l, none⟩ y).setCell ⟨b, m, none⟩ z) g t cs :=
  (((h.far (p := ⟨b, j, none⟩) hne _).far (p := ⟨b, k, none⟩) hne _).far (p := ⟨b, l, none⟩) hne _).far (p := ⟨b, m, none⟩) hne _
theorem Kp.far4 (h : Kp S w0 w) (hp : b < w0.heap.size → ¬ S b) : Kp S w0 ((((w.setCell ⟨b, j, none⟩ v).setCell ⟨b, k, none⟩ x).setCell ⟨b, l, none⟩ y).setCell ⟨b, m, none⟩ z) :=
  (((h.setCell hp _).setCell hp _).setCell hp _).setCell hp _
end
/-- Blocks above b turn nothing that lies below it. -/
theorem Rd.far_kp {w w' : World} {A : Option Addr} {bs : List UInt8} {b : Nat} (h : Rd w b A bs) (hk : Kp (fun i => i < b) w w') (hb : b ≤ w.heap.size) : Rd w' b A bs := h.kp hk hb (fun _ h => h)

abbrev zf : Nat → UInt8 := fun _ => 0

set_option maxRecDepth 100000 in
set_option maxHeartbeats 8000000 in
theorem fnMask_walk (w : World) (fin : Bool) (op : Int) (A : Option Addr) (c : Nat) (bs : List UInt8) (N : Nat → UInt8) (hr : Rd w w.heap.size A bs) (hrem : Rem w) :
    Calls Tryd.prog 4 #[.bool fin, .int .i64 op, .slice A bs.length c, mval N] w (Yes w) := by
  have ka : ∀ x, KT w (w.alloc x) := fun x => (KT.refl w).alloc x
  by_cases h1 : 2147483647 < bs.length
  · go_enter Tryd.func4, Tryd.ntmps4
    go_wp2
    go_ret
    exact ⟨rfl, ka _⟩
  have KA := hide ka
  clear ka
  go_enter Tryd.func4, Tryd.ntmps4
  go_wp2_with fail
  refine (header_any _ fin 0 op false zf bs.length).mono ?_
  rintro e w1 ⟨rfl, hk1⟩
  have p7 : Blk w1 w.heap.size 23 (mcells N) := ((Blk.new w 23 _).alloc _).on hk1
  have p9 : Blk w1 (w.heap.size + 1) 29 (hcells fin 0 op false zf bs.length) := (Blk.new2 w _ 29 _).on hk1
  have k1 : KT w w1 := ((unhide KA _).alloc _).trans hk1
  clear hk1
  go_upto_region 5 with fail
  refine wp_abs (fun w2 => Blk w2 w.heap.size 23 (mcells N) ∧ Blk w2 (w.heap.size + 1) 29 (hcells fin 0 op false zf bs.length) ∧ Blk w2 w1.heap.size 30 (hcells fin 0 op false zf bs.length) ∧ KT w w2)
    ⟨p7.alloc _, p9.alloc _, Blk.new w1 30 _, k1.alloc _⟩ ?_
  clear p7 p9 k1
  rintro w2 ⟨p7, p9, p10, k2⟩
  obtain ⟨b10, hb10⟩ : ∃ b10, b10 = w1.heap.size := ⟨_, rfl⟩
  rw [← hb10] at p10 ⊢
  clear hb10
  obtain ⟨b9, hb9⟩ : ∃ b9, b9 = w.heap.size + 1 := ⟨_, rfl⟩
  rw [← hb9] at p9 ⊢
  clear hb9
  obtain ⟨b7, hb7⟩ : ∃ b7, b7 = w.heap.size := ⟨_, rfl⟩
  rw [← hb7] at p7 ⊢
  clear hb7
  obtain ⟨c0, c1, c2, c3, c4, c5, c6, c7, c8⟩ := row9 p10
  go_wp2_with fail
  refine (proper_any w2 fin 0 op false zf bs.length).mono ?_
  rintro e w3 ⟨rfl, hk⟩
  have k3 := k2.trans hk
  replace p7 := p7.on hk
  replace p9 := p9.on hk
  replace p10 := p10.on hk
  clear c0 c1 c2 c3 c4 c5 c6 c7 c8 k2 hk
  by_cases h2 : properB 0 op false zf bs.length = false ∨ 1000 < bs.length
  · rcases h2 with h2 | h2
    · go_wp2_with fail
      refine (works_any _ (hrem.on k3)).mono ?_
      rintro e w4 ⟨rfl, hk⟩
      go_wp2
      go_ret
      exact ⟨rfl, k3.trans hk⟩
    · cases h3 : properB 0 op false zf bs.length
      · go_wp2_with fail
        refine (works_any _ (hrem.on k3)).mono ?_
        rintro e w4 ⟨rfl, hk⟩
        go_wp2
        go_ret
        exact ⟨rfl, k3.trans hk⟩
      · go_wp2_with fail
        refine (works_any _ (hrem.on k3)).mono ?_
        rintro e w4 ⟨rfl, hk⟩
        go_wp2
        go_ret
        exact ⟨rfl, k3.trans hk⟩
  have h3 : properB 0 op false zf bs.length = true := by
    cases h : properB 0 op false zf bs.length
    · exact absurd (Or.inl h) h2
    · rfl
  have h4 : bs.length ≤ 1000 := by omega
  have hop := properB_spec _ _ _ _ _ h3
  have hnm : bs.length ≤ 140737488355328 := by omega
  obtain ⟨c0, c1, c2, c3, c4, c5, c6, c7, c8⟩ := row9 p9
  obtain ⟨m0, m1, m2, m3⟩ := mask4 p7
  go_wp2_with fail
  refine (implMask w3 fin 0 op false zf N bs.length A c bs hnm (hrem.on k3) (by omega) (by omega) (hr.on k3)).mono ?_
  rintro e w4 ⟨g, cap, rfl, hrd4, hk4⟩
  have k4 := k3.trans hk4
  replace p7 := p7.on hk4
  replace p10 := p10.on hk4
  clear c0 c1 c2 c3 c4 c5 c6 c7 c8 m0 m1 m2 m3 k3 p9 hk4 h2
  go_upto_region 8 with fail
  refine wp_abs (fun w5 => Blk w5 b7 23 (mcells N) ∧ Blk w5 b10 30 (hcells fin 0 op false zf bs.length) ∧ Blk w5 w4.heap.size 29 (hcells fin 0 op true N bs.length) ∧ Rd w5 w5.heap.size (some ⟨g, 0, none⟩) (laid bs N 0) ∧ KT w w5)
    ⟨p7.alloc _, p10.alloc _, Blk.new w4 29 _, hrd4.on ((KT.refl w4).alloc _), k4.alloc _⟩ ?_
  clear p7 p10 hrd4 k4
  rintro w5 ⟨p7, p10, p11, hrd5, k5⟩
  obtain ⟨b11, hb11⟩ : ∃ b11, b11 = w4.heap.size := ⟨_, rfl⟩
  rw [← hb11] at p11 ⊢
  clear hb11
  obtain ⟨ls, hls⟩ : ∃ ls, ls = laid bs N 0 := ⟨_, rfl⟩
  rw [← hls] at hrd5 ⊢
  have HL := hide hls
  clear hls
  obtain ⟨c0, c1, c2, c3, c4, c5, c6, c7, c8⟩ := row9 p11
  have hlm : ls.length ≤ 140737488355328 := by rw [HL.out, laid_length]; exact hnm
  go_wp2_with fail
  refine (implUnmask w5 fin 0 op true N bs.length _ cap ls hlm (hrem.on k5) (by omega) (by omega) hrd5).mono ?_
  rintro e w6 ⟨g2, cap2, rfl, hrd6, hk6⟩
  replace hrd5 := hrd5.on hk6
  have k6 := k5.trans hk6
  replace p7 := p7.on hk6
  replace p10 := p10.on hk6
  replace p11 := p11.on hk6
  have hback : laid ls N 0 = bs := by rw [HL.out, laid_laid]
  rw [hback] at hrd6 ⊢
  clear c0 c1 c2 c3 c4 c5 c6 c7 c8 k5 hback
  obtain ⟨c0, c1, c2, c3, c4, c5, c6, c7, c8⟩ := row9 p10
  have h7 : b7 < w6.heap.size := p7.lt
  have h10 : b10 < w6.heap.size := p10.lt
  have h11 : b11 < w6.heap.size := p11.lt
  have hb6 : w.heap.size ≤ w6.heap.size := k6.size
  go_upto_region 10 with fail
  refine wp_abs (fun w7 => Blk w7 b7 23 (mcells N) ∧ Blk w7 b10 30 (hcells fin 0 op false zf bs.length) ∧ Blk w7 b11 29 (hcells fin 0 op true N bs.length) ∧ Blk w7 w6.heap.size 29 (hcells fin 0 op false zf bs.length) ∧ Blk w7 (w6.heap.size + 1) 30 (hcells fin 0 op false zf bs.length) ∧
      Rd w7 w6.heap.size (some ⟨g, 0, none⟩) ls ∧ Rd w7 w6.heap.size (some ⟨g2, 0, none⟩) bs ∧ KT w w7)
    ⟨(p7.alloc _).alloc _, (p10.alloc _).alloc _, (p11.alloc _).alloc _, (Blk.new w6 29 _).alloc _, Blk.new2 w6 _ 30 _, (hrd5.alloc (Nat.le_refl _) _).alloc (by simp) _, (hrd6.alloc (Nat.le_refl _) _).alloc (by simp) _, (k6.alloc _).alloc _⟩ ?_
  clear p7 p10 p11 hrd5 hrd6 k6 c0 c1 c2 c3 c4 c5 c6 c7 c8
  obtain ⟨b13, hb13⟩ : ∃ b13, b13 = w6.heap.size := ⟨_, rfl⟩
  obtain ⟨b15, hb15⟩ : ∃ b15, b15 = b13 + 1 := ⟨_, rfl⟩
  rw [← hb13] at h7 h10 h11 hb6 ⊢
  rw [← hb15]
  clear hb13
  rintro w7 ⟨p7, p10, p11, p13, p15, hrd7, hrd7', k7⟩
  obtain ⟨m0, m1, m2, m3⟩ := mask4 p7
  obtain ⟨c0, c1, c2, c3, c4, c5, c6, c7, c8⟩ := row9 p15
  have f3 := p15.frozen 3
  have f4 := p15.frozen 4
  have f5 := p15.frozen 5
  have f6 := p15.frozen 6
  have f7 := p15.frozen 7
  have hne : b7 ≠ b15 := p7.ne_ p15 (by decide)
  have hlt15 : b13 < b15 := by omega
  clear hb15
  go_region
  go_upto_region 11 with fail
  refine wp_abs (fun w8 => Blk w8 b7 23 (mcells N) ∧ Blk w8 b10 30 (hcells fin 0 op false zf bs.length) ∧ Blk w8 b11 29 (hcells fin 0 op true N bs.length) ∧ Blk w8 b13 29 (hcells fin 0 op false zf bs.length) ∧ Blk w8 b15 30 (hcells fin 0 op true N bs.length) ∧
      Rd w8 b13 (some ⟨g, 0, none⟩) ls ∧ Rd w8 b13 (some ⟨g2, 0, none⟩) bs ∧ KT w w8)
    ⟨(p7.far5 (by omega)).drew, (p10.far5 (by omega)).drew, (p11.far5 (by omega)).drew, (p13.far5 (by omega)).drew, (((((p15.put 3 _).put 4 _).put 5 _).put 6 _).put 7 _).drew,
      (hrd7.far_kp ((Kp.refl _ w7).far5 (fun _ h => by omega)) (by have := p13.lt; omega)).drew, (hrd7'.far_kp ((Kp.refl _ w7).far5 (fun _ h => by omega)) (by have := p13.lt; omega)).drew, (k7.far5 (fun h => absurd h (by omega))).drew⟩ ?_
  clear p7 p10 p11 p13 p15 hrd7 hrd7' k7 m0 m1 m2 m3 c0 c1 c2 c3 c4 c5 c6 c7 c8 f3 f4 f5 f6 f7
  rintro w8 ⟨p7, p10, p11, p13, p15, hrd7, hrd7', k7⟩
  have c4 := p13.cell 4
  have c5 := p13.cell 5
  have c6 := p13.cell 6
  have c7 := p13.cell 7
  simp only [List.getElem?_toArray, List.getElem?_cons_zero, List.getElem?_cons_succ] at c4 c5 c6 c7
  have f4 := p13.frozen 4
  have f5 := p13.frozen 5
  have f6 := p13.frozen 6
  have f7 := p13.frozen 7
  go_upto_region 12 with fail
  refine wp_abs (fun w8 => Blk w8 b7 23 (mcells N) ∧ Blk w8 b10 30 (hcells fin 0 op false zf bs.length) ∧ Blk w8 b11 29 (hcells fin 0 op true N bs.length) ∧ Blk w8 b13 29 (hcells fin 0 op false zf bs.length) ∧ Blk w8 b15 30 (hcells fin 0 op true N bs.length) ∧
      Rd w8 b13 (some ⟨g, 0, none⟩) ls ∧ Rd w8 b13 (some ⟨g2, 0, none⟩) bs ∧ KT w w8)
    ⟨p7.far4 (by omega), p10.far4 (by omega), p11.far4 (by omega), (((p13.put 4 _).put 5 _).put 6 _).put 7 _, p15.far4 (by omega),
      hrd7.far_kp ((Kp.refl _ w8).far4 (fun _ h => by omega)) (by have := p13.lt; omega), hrd7'.far_kp ((Kp.refl _ w8).far4 (fun _ h => by omega)) (by have := p13.lt; omega), k7.far4 (fun h => absurd h (by omega))⟩ ?_
  clear p7 p10 p11 p13 p15 hrd7 hrd7' k7 c4 c5 c6 c7 f4 f5 f6 f7
  rintro wx ⟨p7, p10, p11, p13, p15, hrm, hrp, kx⟩
  replace hrm := hrm.mono (Nat.le_of_lt p13.lt)
  replace hrp := hrp.mono (Nat.le_of_lt p13.lt)
  have hs : ∀ w', KT wx w' → (fun w' : World => KT wx w' ∧ w'.cell? ⟨b11, 0, none⟩ = some (.bool fin) ∧ w'.cell? ⟨b11, 1, none⟩ = some (.int .i64 0) ∧ w'.cell? ⟨b11, 2, none⟩ = some (.int .i64 op) ∧ w'.cell? ⟨b11, 3, none⟩ = some (.bool true) ∧ w'.cell? ⟨b11, 4, none⟩ = some (bv (N 0)) ∧ w'.cell? ⟨b11, 5, none⟩ = some (bv (N 1)) ∧ w'.cell? ⟨b11, 6, none⟩ = some (bv (N 2)) ∧ w'.cell? ⟨b11, 7, none⟩ = some (bv (N 3)) ∧ w'.cell? ⟨b11, 8, none⟩ = some (.int .i64 bs.length) ∧ w'.cell? ⟨b15, 0, none⟩ = some (.bool fin) ∧ w'.cell? ⟨b15, 1, none⟩ = some (.int .i64 0) ∧ w'.cell? ⟨b15, 2, none⟩ = some (.int .i64 op) ∧ w'.cell? ⟨b15, 3, none⟩ = some (.bool true) ∧ w'.cell? ⟨b15, 4, none⟩ = some (bv (N 0)) ∧ w'.cell? ⟨b15, 5, none⟩ = some (bv (N 1)) ∧ w'.cell? ⟨b15, 6, none⟩ = some (bv (N 2)) ∧ w'.cell? ⟨b15, 7, none⟩ = some (bv (N 3)) ∧ w'.cell? ⟨b15, 8, none⟩ = some (.int .i64 bs.length) ∧ w'.cell? ⟨b13, 0, none⟩ = some (.bool fin) ∧ w'.cell? ⟨b13, 1, none⟩ = some (.int .i64 0) ∧ w'.cell? ⟨b13, 2, none⟩ = some (.int .i64 op) ∧ w'.cell? ⟨b13, 3, none⟩ = some (.bool false) ∧ w'.cell? ⟨b13, 4, none⟩ = some (bv (zf 0)) ∧ w'.cell? ⟨b13, 5, none⟩ = some (bv (zf 1)) ∧ w'.cell? ⟨b13, 6, none⟩ = some (bv (zf 2)) ∧ w'.cell? ⟨b13, 7, none⟩ = some (bv (zf 3)) ∧ w'.cell? ⟨b13, 8, none⟩ = some (.int .i64 bs.length) ∧ w'.cell? ⟨b10, 0, none⟩ = some (.bool fin) ∧ w'.cell? ⟨b10, 1, none⟩ = some (.int .i64 0) ∧ w'.cell? ⟨b10, 2, none⟩ = some (.int .i64 op) ∧ w'.cell? ⟨b10, 3, none⟩ = some (.bool false) ∧ w'.cell? ⟨b10, 4, none⟩ = some (bv (zf 0)) ∧ w'.cell? ⟨b10, 5, none⟩ = some (bv (zf 1)) ∧ w'.cell? ⟨b10, 6, none⟩ = some (bv (zf 2)) ∧ w'.cell? ⟨b10, 7, none⟩ = some (bv (zf 3)) ∧ w'.cell? ⟨b10, 8, none⟩ = some (.int .i64 bs.length) ∧ w'.cell? ⟨b7, 0, none⟩ = some (bv (N 0)) ∧ w'.cell? ⟨b7, 1, none⟩ = some (bv (N 1)) ∧ w'.cell? ⟨b7, 2, none⟩ = some (bv (N 2)) ∧ w'.cell? ⟨b7, 3, none⟩ = some (bv (N 3))) w' := fun w' hk => by
    obtain ⟨x0, x1, x2, x3, x4, x5, x6, x7, x8⟩ := row9 (p11.on hk)
    obtain ⟨y0, y1, y2, y3, y4, y5, y6, y7, y8⟩ := row9 (p15.on hk)
    obtain ⟨z0, z1, z2, z3, z4, z5, z6, z7, z8⟩ := row9 (p13.on hk)
    obtain ⟨t0, t1, t2, t3, t4, t5, t6, t7, t8⟩ := row9 (p10.on hk)
    obtain ⟨m0, m1, m2, m3⟩ := mask4 (p7.on hk)
    exact ⟨hk, x0, x1, x2, x3, x4, x5, x6, x7, x8, y0, y1, y2, y3, y4, y5, y6, y7, y8, z0, z1, z2, z3, z4, z5, z6, z7, z8, t0, t1, t2, t3, t4, t5, t6, t7, t8, m0, m1, m2, m3⟩
  have HS := hide hs
  have hM : ∀ w', KT wx w' → Calls Tryd.prog 15 #[.slice A bs.length c, mval N, .int .i64 0] w' fun e w'' => ∃ g3 cap3, e = .returned (.slice (some ⟨g3, 0, none⟩) ls.length cap3) ∧ Rd w'' w''.heap.size (some ⟨g3, 0, none⟩) ls ∧ KT w' w'' := fun w' hk => by
    rw [HL.out]
    refine (masked_any w' A c 0 bs N (hr.on (kx.trans hk)) hnm (by omega)).mono ?_
    rintro e w1 hg
    obtain ⟨g3, cap3, rfl, hr3, hk3, _⟩ := hg.rd
    exact ⟨g3, cap3, rfl, hr3, hk3⟩
  have HM := hide hM
  have hS1 : ∀ w' g3 cap3, KT wx w' → Rd w' w'.heap.size (some ⟨g3, 0, none⟩) ls → Calls Tryd.prog 14 #[.slice (some ⟨g, 0, none⟩) ls.length cap, .slice (some ⟨g3, 0, none⟩) ls.length cap3] w' fun e w'' => e = .returned (.bool true) ∧ w' = w'' := fun w' g3 cap3 hk hr3 => same_yes w' _ _ cap cap3 ls (hrm.on hk) hr3
  have HS1 := hide hS1
  have hS2 : ∀ w', KT wx w' → Calls Tryd.prog 14 #[.slice (some ⟨g2, 0, none⟩) bs.length cap2, .slice A bs.length c] w' fun e w'' => e = .returned (.bool true) ∧ w' = w'' := fun w' hk => same_yes w' _ _ cap2 c bs (hrp.on hk) (hr.on (kx.trans hk))
  have HS2 := hide hS2
  have hW : ∀ w', KT wx w' → Calls Tryd.prog 12 #[] w' (Yes w') := fun w' hk => works_any w' (hrem.on (kx.trans hk))
  have HW := hide hW
  have hH : ∀ w' v, v = hval fin 0 op true N bs.length ∨ v = hval fin 0 op false zf bs.length → Calls Tryd.prog 16 #[v] w' fun e w'' => e = .returned v ∧ KT w' w'' := fun w' v hv => by
    rcases hv with rfl | rfl
    · exact header_any w' _ _ _ _ _ _
    · exact header_any w' _ _ _ _ _ _
  have HH := hide hH
  have he1 : ∀ w, (binOp .eql 30 (hval fin 0 op true N bs.length) (hval fin 0 op true N bs.length)).run Tryd.prog w = .ok (.bool true) w := fun w => run_eql_hval w _ _ _ _ _ _
  have he2 : ∀ w, (binOp .eql 30 (hval fin 0 op false zf bs.length) (hval fin 0 op false zf bs.length)).run Tryd.prog w = .ok (.bool true) w := fun w => run_eql_hval w _ _ _ _ _ _
  have he3 : ∀ w, (binOp .eql 30 (.agg #[.bool fin, .int .i64 0, .int .i64 op, .bool false, .int .u8 0, .int .u8 0, .int .u8 0, .int .u8 0, .int .i64 bs.length]) (.agg #[.bool fin, .int .i64 0, .int .i64 op, .bool false, .int .u8 0, .int .u8 0, .int .u8 0, .int .u8 0, .int .i64 bs.length])).run Tryd.prog w = .ok (.bool true) w := fun w => run_eql_hval w fin 0 op false zf bs.length
  clear hH hs hM hS1 hS2 hW p7 p10 p11 p13 p15 hrm hrp hr hrem hnm h1 h3 h4 hop hlm h7 h10 h11 hb6 hne hlt15 KA
  go_region_held3 (fun w' : World => KT wx w' ∧ w'.cell? ⟨b11, 0, none⟩ = some (.bool fin) ∧ w'.cell? ⟨b11, 1, none⟩ = some (.int .i64 0) ∧ w'.cell? ⟨b11, 2, none⟩ = some (.int .i64 op) ∧ w'.cell? ⟨b11, 3, none⟩ = some (.bool true) ∧ w'.cell? ⟨b11, 4, none⟩ = some (bv (N 0)) ∧ w'.cell? ⟨b11, 5, none⟩ = some (bv (N 1)) ∧ w'.cell? ⟨b11, 6, none⟩ = some (bv (N 2)) ∧ w'.cell? ⟨b11, 7, none⟩ = some (bv (N 3)) ∧ w'.cell? ⟨b11, 8, none⟩ = some (.int .i64 bs.length) ∧ w'.cell? ⟨b15, 0, none⟩ = some (.bool fin) ∧ w'.cell? ⟨b15, 1, none⟩ = some (.int .i64 0) ∧ w'.cell? ⟨b15, 2, none⟩ = some (.int .i64 op) ∧ w'.cell? ⟨b15, 3, none⟩ = some (.bool true) ∧ w'.cell? ⟨b15, 4, none⟩ = some (bv (N 0)) ∧ w'.cell? ⟨b15, 5, none⟩ = some (bv (N 1)) ∧ w'.cell? ⟨b15, 6, none⟩ = some (bv (N 2)) ∧ w'.cell? ⟨b15, 7, none⟩ = some (bv (N 3)) ∧ w'.cell? ⟨b15, 8, none⟩ = some (.int .i64 bs.length) ∧ w'.cell? ⟨b13, 0, none⟩ = some (.bool fin) ∧ w'.cell? ⟨b13, 1, none⟩ = some (.int .i64 0) ∧ w'.cell? ⟨b13, 2, none⟩ = some (.int .i64 op) ∧ w'.cell? ⟨b13, 3, none⟩ = some (.bool false) ∧ w'.cell? ⟨b13, 4, none⟩ = some (bv (zf 0)) ∧ w'.cell? ⟨b13, 5, none⟩ = some (bv (zf 1)) ∧ w'.cell? ⟨b13, 6, none⟩ = some (bv (zf 2)) ∧ w'.cell? ⟨b13, 7, none⟩ = some (bv (zf 3)) ∧ w'.cell? ⟨b13, 8, none⟩ = some (.int .i64 bs.length) ∧ w'.cell? ⟨b10, 0, none⟩ = some (.bool fin) ∧ w'.cell? ⟨b10, 1, none⟩ = some (.int .i64 0) ∧ w'.cell? ⟨b10, 2, none⟩ = some (.int .i64 op) ∧ w'.cell? ⟨b10, 3, none⟩ = some (.bool false) ∧ w'.cell? ⟨b10, 4, none⟩ = some (bv (zf 0)) ∧ w'.cell? ⟨b10, 5, none⟩ = some (bv (zf 1)) ∧ w'.cell? ⟨b10, 6, none⟩ = some (bv (zf 2)) ∧ w'.cell? ⟨b10, 7, none⟩ = some (bv (zf 3)) ∧ w'.cell? ⟨b10, 8, none⟩ = some (.int .i64 bs.length) ∧ w'.cell? ⟨b7, 0, none⟩ = some (bv (N 0)) ∧ w'.cell? ⟨b7, 1, none⟩ = some (bv (N 1)) ∧ w'.cell? ⟨b7, 2, none⟩ = some (bv (N 2)) ∧ w'.cell? ⟨b7, 3, none⟩ = some (bv (N 3)))
    (first | (go_split_ands; refine unhide HS _ ?_; exact (KT.refl wx).drew) | (go_split_ands; refine unhide HS _ (Kp.trans ?_ hk); assumption) | (go_split_ands; assumption))
    (first
      | (go_at_call 16; go_split_ands; (with_reducible refine (unhide HH _ _ ?_).mono ?_); (first | exact Or.inl rfl | exact Or.inr rfl); rintro e w1 ⟨rfl, hk⟩)
      | (go_at_call 15; go_split_ands; (with_reducible refine (unhide HM _ ?_).mono ?_); assumption; rintro e w1 ⟨g3, cap3, rfl, hr3, hk⟩)
      | (go_at_call 14; go_split_ands; (with_reducible refine (unhide HS1 _ _ _ ?_ ?_).mono ?_); assumption; assumption; rintro e w1 ⟨rfl, rfl⟩)
      | (go_at_call 14; go_split_ands; (with_reducible refine (unhide HS2 _ ?_).mono ?_); assumption; rintro e w1 ⟨rfl, rfl⟩)
      | (go_at_call 12; go_split_ands; (with_reducible refine (unhide HW _ ?_).mono ?_); assumption; rintro e w1 ⟨rfl, hk⟩))
  go_wp2
  go_ret
  go_split_ands
  exact ⟨rfl, kx.trans (by assumption)⟩

end Go.Proofs.YtechapgchjdhaaaDoor
