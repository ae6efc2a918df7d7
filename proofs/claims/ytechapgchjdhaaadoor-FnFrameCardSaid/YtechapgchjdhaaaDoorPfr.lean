/- impl.ParseFrame: the walks. -/
import Derived.Test.YtechapgchjdhaaaDoorZrf
namespace Go.Proofs.YtechapgchjdhaaaDoor
open Go.RowKit

/-- Four variables: a header, a slice of these bytes, a number, true. -/
def ToldFrame (lo : Nat) (w' : World) (b2 b3 b4 b5 : Nat) (hc : Array Value) (ps : List UInt8) (k : Nat) : Prop := Blk w' b2 29 hc ∧ SliceAt lo w' b3 ps ∧ Blk w' b4 3 #[.int .i64 k] ∧ Blk w' b5 4 #[.bool true]
def Kp4 (b2 b3 b4 b5 : Nat) : World → World → Prop := Kp (fun i => i ≠ b2 ∧ i ≠ b3 ∧ i ≠ b4 ∧ i ≠ b5)

/-- What holds within the region that tells a frame, when just the operations of L have been carried out. -/
structure In66 (wx : World) (b1 b2 b3 b4 b5 b6 : Nat) (A A2 : Option Addr) (nb c n : Nat) (hw hv : Value) (hc : Array Value) (ps : List UInt8) (fr k : Nat) (fc : Array Value) (L : Nat → Bool) (t17 t18 t19 t20 t21 t22 t23 t24 t25 t26 : Value) (wy : World) : Prop where
  kp : Kp (fun i => i ≠ b2 ∧ i ≠ b3 ∧ i ≠ b4 ∧ i ≠ b5) wx wy
  nine : Nine wy b2 29
  one3 : One wy b3 22
  one4 : One wy b4 3
  one5 : One wy b5 4
  i0 : L 0 = true → t17 = .pointer (some ⟨b6, 0, none⟩)
  i1 : L 1 = true → t18 = hw
  i2 : L 2 = true → t19 = hv
  i3 : L 3 = true → t20 = .pointer (some ⟨b6, 9, none⟩)
  i4 : L 4 = true → t21 = .slice A2 n n
  i5 : L 5 = true → ∃ g cap, t22 = .slice (some ⟨g, 0, none⟩) n cap ∧ wx.heap.size ≤ g ∧ RdN wy wx.heap.size (some ⟨g, 0, none⟩) ps
  i6 : L 6 = true → t23 = .slice A nb c
  i7 : L 7 = true → t24 = .int .i64 nb
  i8 : L 8 = true → t25 = .int .i64 fr
  i9 : L 9 = true → t26 = .int .i64 k
  i10 : L 10 = true → Blk wy b2 29 hc
  i11 : L 11 = true → Blk wy b3 22 #[t22]
  i12 : L 12 = true → Blk wy b4 3 #[.int .i64 k]
  i13 : L 13 = true → Blk wy b5 4 #[.bool true]

theorem RdN.put9 {w : World} {lo : Nat} {A : Option Addr} {bs : List UInt8} {b : Nat} (h : RdN w lo A bs) (hp : b < lo) (v0 v1 v2 v3 v4 v5 v6 v7 v8 : Value) :
    RdN (((((((((w.setCell ⟨b, 0, none⟩ v0).setCell ⟨b, 1, none⟩ v1).setCell ⟨b, 2, none⟩ v2).setCell ⟨b, 3, none⟩ v3).setCell ⟨b, 4, none⟩ v4).setCell ⟨b, 5, none⟩ v5).setCell ⟨b, 6, none⟩ v6).setCell ⟨b, 7, none⟩ v7).setCell ⟨b, 8, none⟩ v8) lo A bs :=
  ((((((((h.set (p := ⟨b, 0, none⟩) hp _).set (p := ⟨b, 1, none⟩) hp _).set (p := ⟨b, 2, none⟩) hp _).set (p := ⟨b, 3, none⟩) hp _).set (p := ⟨b, 4, none⟩) hp _).set (p := ⟨b, 5, none⟩) hp _).set (p := ⟨b, 6, none⟩) hp _).set (p := ⟨b, 7, none⟩) hp _).set (p := ⟨b, 8, none⟩) hp _

theorem In66.on {wx wy w' : World} {b1 b2 b3 b4 b5 b6 : Nat} {A A2 : Option Addr} {nb c n : Nat} {hw hv : Value} {hc : Array Value} {ps : List UInt8} {fr k : Nat} {fc : Array Value} {L : Nat → Bool} {t17 t18 t19 t20 t21 t22 t23 t24 t25 t26 : Value}
    (h : In66 wx b1 b2 b3 b4 b5 b6 A A2 nb c n hw hv hc ps fr k fc L t17 t18 t19 t20 t21 t22 t23 t24 t25 t26 wy) (hk : KT wy w') : In66 wx b1 b2 b3 b4 b5 b6 A A2 nb c n hw hv hc ps fr k fc L t17 t18 t19 t20 t21 t22 t23 t24 t25 t26 w' :=
  ⟨h.kp.trans (hk.mono fun _ _ _ => trivial), h.nine.on hk, h.one3.on hk, h.one4.on hk, h.one5.on hk, h.i0, h.i1, h.i2, h.i3, h.i4, fun hl => by obtain ⟨g, cap, e, h1, h2⟩ := h.i5 hl; exact ⟨g, cap, e, h1, h2.kp hk (fun _ _ => trivial)⟩, h.i6, h.i7, h.i8, h.i9, fun hl => (h.i10 hl).on hk, fun hl => (h.i11 hl).on hk, fun hl => (h.i12 hl).on hk, fun hl => (h.i13 hl).on hk⟩

set_option maxRecDepth 100000 in
set_option maxHeartbeats 8000000 in
theorem c66 (w : World) (b1 b2 b3 b4 b5 : Nat) (A : Option Addr) (c : Nat) (fin : Bool) (r o : Nat) (mk : Bool) (M : Nat → UInt8) (ps rest : List UInt8) (hr : r < 8) (ho : o < 16) (hps : ps.length ≤ 2147483647) (hz : mk = true ∨ M = z4)
    (bs : List UInt8) (hbs : bs = hbytes fin r o mk M ps.length ++ (ps ++ rest)) (hlen : bs.length ≤ 140737488355328) (h1 : Blk w b1 22 #[.slice A bs.length c]) (hrd : Rd w w.heap.size A bs) (h2 : Nine w b2 29) (h3 : One w b3 22) (h4 : One w b4 3) (h5 : One w b5 4) (n13 : b1 ≠ b3) :
    Calls Tryd.prog 66 #[.pointer (some ⟨b1, 0, none⟩), .pointer (some ⟨b2, 0, none⟩), .pointer (some ⟨b3, 0, none⟩), .pointer (some ⟨b4, 0, none⟩), .pointer (some ⟨b5, 0, none⟩)] w fun e w' => e = .returned (.tuple #[]) ∧ Kp4 b2 b3 b4 b5 w w' ∧ ToldFrame w.heap.size w' b2 b3 b4 b5 (hcells fin r o mk M ps.length) ps rest.length := by
  have HR := hide (fun w g rr h1 h2 => zzReadFrame w g rr fin r o mk M ps rest hr ho hps hz bs hbs hlen h1 h2)
  have HT := hide (fun w => told_any w fin r o mk M ps.length (by omega) (by omega))
  have c0 := h1.one
  have hle : rest.length ≤ bs.length := by rw [hbs, List.length_append, List.length_append]; omega
  have HLE := hide hle
  clear hbs hr ho hz hle
  go_enter Tryd.func66, Tryd.ntmps66
  go_wp2_with fail
  refine (copied_any w A bs.length c bs hrd rfl hlen).mono ?_
  rintro e w1 ⟨g, rr, rfl, hg, hblk, hm, hk1⟩
  have lo2 := Nat.lt_of_lt_of_le h2.lt hk1.size
  have lo3 := Nat.lt_of_lt_of_le h3.lt hk1.size
  have lo4 := Nat.lt_of_lt_of_le h4.lt hk1.size
  have lo5 := Nat.lt_of_lt_of_le h5.lt hk1.size
  clear c0 hrd
  go_wp2_with fail
  refine (unhide HR w1 g rr hblk hm).mono ?_
  rintro e w2 ⟨A2, rfl, hrdn, hk2⟩
  have k2 := Kp.trans hk1 hk2
  clear hblk hk1 hk2 HR hm hg
  go_upto_region 1 with fail
  refine wp_abs (fun w3 => Blk w3 w2.heap.size 82 (fcells fin r o mk M ps.length (.slice A2 ps.length ps.length)) ∧ RdN w3 w1.heap.size A2 ps ∧ KT w w3) ⟨Blk.new w2 82 _, hrdn.kp ((KT.refl w2).alloc _) (fun _ _ => trivial), k2.alloc _⟩ ?_
  obtain ⟨b6, hb6⟩ : ∃ b6, b6 = w2.heap.size := ⟨_, rfl⟩
  rw [← hb6]
  clear hb6 hrdn k2
  rintro w3 ⟨p6, hrd3, k3⟩
  have p1 := h1.on k3
  obtain ⟨c0, c1, c2, c3, c4, c5, c6, c7, c8, c9⟩ := row10 p6
  have d1 := p1.one
  have P1 := hide p1
  have P6 := hide p6
  have HX := hide (fun (w' : World) (hk : Kp (fun i => i ≠ b2 ∧ i ≠ b3 ∧ i ≠ b4 ∧ i ≠ b5) w3 w') => copied_any w' A2 ps.length ps.length ps (RdN.rd (hrd3.kp hk (fun g hg => ⟨by omega, by omega, by omega, by omega⟩))) rfl (by omega))
  have K3 := hide k3
  have H2 := hide h2
  have H3 := hide h3
  have H4 := hide h4
  have H5 := hide h5
  clear p1 p6 hrd3 k3 h1 h2 h3 h4 h5
  go_upto_region 2 with fail
  have h2x := (unhide H2).on (unhide K3)
  have h3x := (unhide H3).on (unhide K3)
  have h4x := (unhide H4).on (unhide K3)
  have h5x := (unhide H5).on (unhide K3)
  have hl2 := h2x.lt
  have hl3 := h3x.lt
  have hl4 := h4x.lt
  have hl5 := h5x.lt
  have n23 : b2 ≠ b3 := by obtain ⟨_, _, _, _, _, _, _, _, _, q⟩ := h2x; obtain ⟨_, q'⟩ := h3x; exact q.ne_ q' (by decide)
  have n24 : b2 ≠ b4 := by obtain ⟨_, _, _, _, _, _, _, _, _, q⟩ := h2x; obtain ⟨_, q'⟩ := h4x; exact q.ne_ q' (by decide)
  have n25 : b2 ≠ b5 := by obtain ⟨_, _, _, _, _, _, _, _, _, q⟩ := h2x; obtain ⟨_, q'⟩ := h5x; exact q.ne_ q' (by decide)
  have n34 : b3 ≠ b4 := by obtain ⟨_, q⟩ := h3x; obtain ⟨_, q'⟩ := h4x; exact q.ne_ q' (by decide)
  have n35 : b3 ≠ b5 := by obtain ⟨_, q⟩ := h3x; obtain ⟨_, q'⟩ := h5x; exact q.ne_ q' (by decide)
  have n45 : b4 ≠ b5 := by obtain ⟨_, q⟩ := h4x; obtain ⟨_, q'⟩ := h5x; exact q.ne_ q' (by decide)
  have m2 : b1 ≠ b2 := by obtain ⟨_, _, _, _, _, _, _, _, _, q⟩ := h2x; exact (unhide P1).ne_ q (by decide)
  have m4 : b1 ≠ b4 := by obtain ⟨_, q⟩ := h4x; exact (unhide P1).ne_ q (by decide)
  have m5 : b1 ≠ b5 := by obtain ⟨_, q⟩ := h5x; exact (unhide P1).ne_ q (by decide)
  have m62 : b6 ≠ b2 := by obtain ⟨_, _, _, _, _, _, _, _, _, q⟩ := h2x; exact (unhide P6).ne_ q (by decide)
  have m63 : b6 ≠ b3 := by obtain ⟨_, q⟩ := h3x; exact (unhide P6).ne_ q (by decide)
  have m64 : b6 ≠ b4 := by obtain ⟨_, q⟩ := h4x; exact (unhide P6).ne_ q (by decide)
  have m65 : b6 ≠ b5 := by obtain ⟨_, q⟩ := h5x; exact (unhide P6).ne_ q (by decide)
  clear c0 c1 c2 c3 c4 c5 c6 c7 c8 c9 d1 H2 H3 H4 H5
  refine wp_region_inv' mixed (fun L a wy => ∃ t17 t18 t19 t20 t21 t22 t23 t24 t25 t26, a = ⟨#[.pointer (some ⟨b1, 0, none⟩), .pointer (some ⟨b2, 0, none⟩), .pointer (some ⟨b3, 0, none⟩), .pointer (some ⟨b4, 0, none⟩), .pointer (some ⟨b5, 0, none⟩), .pointer (some ⟨b6, 0, none⟩), (.int .i64 ((bs.length - rest.length : Nat) : Int)), .nilIface, .tuple #[fval fin r o mk M ps.length (.slice A2 ps.length ps.length), (.int .i64 ((bs.length - rest.length : Nat) : Int)), .nilIface], .slice A bs.length c, .slice (some ⟨g, 0, none⟩) bs.length (bs.length + rr.length), .tuple #[fval fin r o mk M ps.length (.slice A2 ps.length ps.length), (.int .i64 ((bs.length - rest.length : Nat) : Int)), .nilIface], fval fin r o mk M ps.length (.slice A2 ps.length ps.length), (.int .i64 ((bs.length - rest.length : Nat) : Int)), .nilIface, .nilIface, .bool true, t17, t18, t19, t20, t21, t22, t23, t24, t25, t26], []⟩ ∧ In66 w3 b1 b2 b3 b4 b5 b6 A A2 bs.length c ps.length (wval fin r o mk M ps.length) (hval fin r o mk M ps.length) (hcells fin r o mk M ps.length) ps (bs.length - rest.length) rest.length (fcells fin r o mk M ps.length (.slice A2 ps.length ps.length)) L t17 t18 t19 t20 t21 t22 t23 t24 t25 t26 wy) (by kernel_rfl) ?_ ?_ ?_
  · exact ⟨undef, undef, undef, undef, undef, undef, undef, undef, undef, undef, rfl, ⟨(Kp.refl _ w3).drew, h2x, h3x, h4x, h5x, by simp, by simp, by simp, by simp, by simp, by simp, by simp, by simp, by simp, by simp, by simp, by simp, by simp, by simp⟩⟩
  · rintro L i o a wy ho hL hdep hcl ⟨t17, t18, t19, t20, t21, t22, t23, t24, t25, t26, rfl, hJ⟩ K hK
    have hb6y := (unhide P6).kp hJ.kp ⟨m62, m63, m64, m65⟩
    have hb1y := (unhide P1).kp hJ.kp ⟨m2, n13, m4, m5⟩
    rcases (show i = 0 ∨ i = 1 ∨ i = 2 ∨ i = 3 ∨ i = 4 ∨ i = 5 ∨ i = 6 ∨ i = 7 ∨ i = 8 ∨ i = 9 ∨ i = 10 ∨ i = 11 ∨ i = 12 ∨ i = 13 ∨ 14 ≤ i by omega) with rfl | rfl | rfl | rfl | rfl | rfl | rfl | rfl | rfl | rfl | rfl | rfl | rfl | rfl | h8
    · refine wpOp_list ho ?_
      simp only [List.getElem?_toArray, List.getElem?_cons_zero, List.getElem?_cons_succ, Option.some.injEq] at ho
      subst ho
      clear hdep hcl hL
      go_wp2_with fail
      exact ⟨_, _, _, _, _, _, _, _, _, _, rfl, ⟨hJ.kp, hJ.nine, hJ.one3, hJ.one4, hJ.one5, fun _ => rfl, hJ.i1, hJ.i2, hJ.i3, hJ.i4, hJ.i5, hJ.i6, hJ.i7, hJ.i8, hJ.i9, hJ.i10, hJ.i11, hJ.i12, hJ.i13⟩⟩
    · obtain rfl := hJ.i0 (hdep 0 (by kernel_rfl))
      obtain ⟨c0, c1, c2, c3, c4, c5, c6, c7, c8, c9⟩ := row10 hb6y
      refine wpOp_list ho ?_
      simp only [List.getElem?_toArray, List.getElem?_cons_zero, List.getElem?_cons_succ, Option.some.injEq] at ho
      subst ho
      clear hdep hcl hL
      go_wp2_with fail
      exact ⟨_, _, _, _, _, _, _, _, _, _, rfl, ⟨hJ.kp, hJ.nine, hJ.one3, hJ.one4, hJ.one5, hJ.i0, fun _ => rfl, hJ.i2, hJ.i3, hJ.i4, hJ.i5, hJ.i6, hJ.i7, hJ.i8, hJ.i9, hJ.i10, hJ.i11, hJ.i12, hJ.i13⟩⟩
    · obtain rfl := hJ.i1 (hdep 1 (by kernel_rfl))
      refine wpOp_list ho ?_
      simp only [List.getElem?_toArray, List.getElem?_cons_zero, List.getElem?_cons_succ, Option.some.injEq] at ho
      subst ho
      clear hdep hcl hL
      go_wp2_with fail
      refine (unhide HT wy).mono ?_
      rintro e w1 ⟨rfl, hk⟩
      have hJ1 := hJ.on hk
      go_wp2_with fail
      exact ⟨_, _, _, _, _, _, _, _, _, _, rfl, ⟨hJ1.kp, hJ1.nine, hJ1.one3, hJ1.one4, hJ1.one5, hJ1.i0, hJ1.i1, fun _ => rfl, hJ1.i3, hJ1.i4, hJ1.i5, hJ1.i6, hJ1.i7, hJ1.i8, hJ1.i9, hJ1.i10, hJ1.i11, hJ1.i12, hJ1.i13⟩⟩
    · refine wpOp_list ho ?_
      simp only [List.getElem?_toArray, List.getElem?_cons_zero, List.getElem?_cons_succ, Option.some.injEq] at ho
      subst ho
      clear hdep hcl hL
      go_wp2_with fail
      exact ⟨_, _, _, _, _, _, _, _, _, _, rfl, ⟨hJ.kp, hJ.nine, hJ.one3, hJ.one4, hJ.one5, hJ.i0, hJ.i1, hJ.i2, fun _ => rfl, hJ.i4, hJ.i5, hJ.i6, hJ.i7, hJ.i8, hJ.i9, hJ.i10, hJ.i11, hJ.i12, hJ.i13⟩⟩
    · obtain rfl := hJ.i3 (hdep 3 (by kernel_rfl))
      obtain ⟨c0, c1, c2, c3, c4, c5, c6, c7, c8, c9⟩ := row10 hb6y
      refine wpOp_list ho ?_
      simp only [List.getElem?_toArray, List.getElem?_cons_zero, List.getElem?_cons_succ, Option.some.injEq] at ho
      subst ho
      clear hdep hcl hL
      go_wp2_with fail
      exact ⟨_, _, _, _, _, _, _, _, _, _, rfl, ⟨hJ.kp, hJ.nine, hJ.one3, hJ.one4, hJ.one5, hJ.i0, hJ.i1, hJ.i2, hJ.i3, fun _ => rfl, hJ.i5, hJ.i6, hJ.i7, hJ.i8, hJ.i9, hJ.i10, hJ.i11, hJ.i12, hJ.i13⟩⟩
    · obtain rfl := hJ.i4 (hdep 4 (by kernel_rfl))
      have h11 : L 11 = false := by
        cases h : L 11 with
        | false => rfl
        | true => rw [hcl 11 5 (by kernel_rfl) h] at hL; cases hL
      have hcp := unhide HX wy (hJ.kp)
      refine wpOp_list ho ?_
      simp only [List.getElem?_toArray, List.getElem?_cons_zero, List.getElem?_cons_succ, Option.some.injEq] at ho
      subst ho
      clear hdep hcl hL
      go_wp2_with fail
      refine hcp.mono ?_
      rintro e w1 ⟨g, rr2, rfl, hg, hblk, hm, hk⟩
      have hJ1 := hJ.on hk
      have hsy := hJ.kp.size
      go_wp2_with fail
      exact ⟨_, _, _, _, _, _, _, _, _, _, rfl, ⟨hJ1.kp, hJ1.nine, hJ1.one3, hJ1.one4, hJ1.one5, hJ1.i0, hJ1.i1, hJ1.i2, hJ1.i3, hJ1.i4, fun _ => ⟨g, _, rfl, by omega, fun _ => ⟨g, 0, rfl, by omega, hblk.lt, Blk.byt (pre := []) rfl hblk⟩⟩, hJ1.i6, hJ1.i7, hJ1.i8, hJ1.i9, hJ1.i10, fun h => by simp [h11] at h, hJ1.i12, hJ1.i13⟩⟩
    · have d0 := hb1y.one
      refine wpOp_list ho ?_
      simp only [List.getElem?_toArray, List.getElem?_cons_zero, List.getElem?_cons_succ, Option.some.injEq] at ho
      subst ho
      clear hdep hcl hL
      go_wp2_with fail
      exact ⟨_, _, _, _, _, _, _, _, _, _, rfl, ⟨hJ.kp, hJ.nine, hJ.one3, hJ.one4, hJ.one5, hJ.i0, hJ.i1, hJ.i2, hJ.i3, hJ.i4, hJ.i5, fun _ => rfl, hJ.i7, hJ.i8, hJ.i9, hJ.i10, hJ.i11, hJ.i12, hJ.i13⟩⟩
    · obtain rfl := hJ.i6 (hdep 6 (by kernel_rfl))
      refine wpOp_list ho ?_
      simp only [List.getElem?_toArray, List.getElem?_cons_zero, List.getElem?_cons_succ, Option.some.injEq] at ho
      subst ho
      clear hdep hcl hL
      go_wp2_with fail
      exact ⟨_, _, _, _, _, _, _, _, _, _, rfl, ⟨hJ.kp, hJ.nine, hJ.one3, hJ.one4, hJ.one5, hJ.i0, hJ.i1, hJ.i2, hJ.i3, hJ.i4, hJ.i5, hJ.i6, fun _ => rfl, hJ.i8, hJ.i9, hJ.i10, hJ.i11, hJ.i12, hJ.i13⟩⟩
    · refine wpOp_list ho ?_
      simp only [List.getElem?_toArray, List.getElem?_cons_zero, List.getElem?_cons_succ, Option.some.injEq] at ho
      subst ho
      clear hdep hcl hL
      go_wp2_with fail
      exact ⟨_, _, _, _, _, _, _, _, _, _, rfl, ⟨hJ.kp, hJ.nine, hJ.one3, hJ.one4, hJ.one5, hJ.i0, hJ.i1, hJ.i2, hJ.i3, hJ.i4, hJ.i5, hJ.i6, hJ.i7, fun _ => rfl, hJ.i9, hJ.i10, hJ.i11, hJ.i12, hJ.i13⟩⟩
    · obtain rfl := hJ.i7 (hdep 7 (by kernel_rfl))
      obtain rfl := hJ.i8 (hdep 8 (by kernel_rfl))
      have hle := unhide HLE
      have hkk : IntKind.i64.wrap ((bs.length : Int) - ((bs.length - rest.length : Nat) : Int)) = (rest.length : Int) := by simp [IntKind.wrap, IntKind.bits, IntKind.signed]; omega
      have hkk2 : ((bs.length : Int) - ((bs.length - rest.length : Nat) : Int)) = (rest.length : Int) := by omega
      clear hle
      refine wpOp_list ho ?_
      simp only [List.getElem?_toArray, List.getElem?_cons_zero, List.getElem?_cons_succ, Option.some.injEq] at ho
      subst ho
      clear hdep hcl hL
      go_wp2_with fail
      exact ⟨_, _, _, _, _, _, _, _, _, _, rfl, ⟨hJ.kp, hJ.nine, hJ.one3, hJ.one4, hJ.one5, hJ.i0, hJ.i1, hJ.i2, hJ.i3, hJ.i4, hJ.i5, hJ.i6, hJ.i7, hJ.i8, fun _ => rfl, hJ.i10, hJ.i11, hJ.i12, hJ.i13⟩⟩
    · obtain rfl := hJ.i2 (hdep 2 (by kernel_rfl))
      obtain ⟨a0, a1, a2, a3, a4, a5, a6, a7, a8, q2⟩ := hJ.nine
      obtain ⟨e0, e1, e2, e3, e4, e5, e6, e7, e8⟩ := row9 q2
      obtain ⟨f0, f1, f2, f3, f4, f5, f6, f7, f8⟩ := row9f q2
      obtain ⟨u3, r3⟩ := hJ.one3
      obtain ⟨u4, r4⟩ := hJ.one4
      obtain ⟨u5, r5⟩ := hJ.one5
      refine wpOp_list ho ?_
      simp only [List.getElem?_toArray, List.getElem?_cons_zero, List.getElem?_cons_succ, Option.some.injEq] at ho
      subst ho
      clear hdep hcl hL
      go_wp2_with fail
      exact ⟨_, _, _, _, _, _, _, _, _, _, rfl, ⟨put9_kp hJ.kp (fun _ h => h.1 rfl), ⟨_, _, _, _, _, _, _, _, _, put9_blk q2⟩, ⟨_, put9_far r3 (Ne.symm n23)⟩, ⟨_, put9_far r4 (Ne.symm n24)⟩, ⟨_, put9_far r5 (Ne.symm n25)⟩, hJ.i0, hJ.i1, hJ.i2, hJ.i3, hJ.i4, fun hl => by obtain ⟨g, cap, e, h1, h2⟩ := hJ.i5 hl; exact ⟨g, cap, e, h1, h2.put9 hl2 _ _ _ _ _ _ _ _ _⟩, hJ.i6, hJ.i7, hJ.i8, hJ.i9, fun _ => put9_blk q2, fun hl => put9_far (hJ.i11 hl) (Ne.symm n23), fun hl => put9_far (hJ.i12 hl) (Ne.symm n24), fun hl => put9_far (hJ.i13 hl) (Ne.symm n25)⟩⟩
    · obtain ⟨g, cap, rfl, hg, hrd⟩ := hJ.i5 (hdep 5 (by kernel_rfl))
      obtain ⟨a0, a1, a2, a3, a4, a5, a6, a7, a8, q2⟩ := hJ.nine
      obtain ⟨u3, r3⟩ := hJ.one3
      obtain ⟨u4, r4⟩ := hJ.one4
      obtain ⟨u5, r5⟩ := hJ.one5
      have e3 := r3.one
      have g3 := r3.frozen 0
      refine wpOp_list ho ?_
      simp only [List.getElem?_toArray, List.getElem?_cons_zero, List.getElem?_cons_succ, Option.some.injEq] at ho
      subst ho
      clear hdep hcl hL
      go_wp2_with fail
      exact ⟨_, _, _, _, _, _, _, _, _, _, rfl, ⟨hJ.kp.setCell (p := ⟨b3, 0, none⟩) (fun _ h => h.2.1 rfl) _, ⟨_, _, _, _, _, _, _, _, _, q2.far (p := ⟨b3, 0, none⟩) n23 _⟩, ⟨_, Blk.put (l := [_]) r3 0 _⟩, ⟨_, r4.far (p := ⟨b3, 0, none⟩) (Ne.symm n34) _⟩, ⟨_, r5.far (p := ⟨b3, 0, none⟩) (Ne.symm n35) _⟩, hJ.i0, hJ.i1, hJ.i2, hJ.i3, hJ.i4, fun _ => ⟨g, cap, rfl, hg, hrd.set (p := ⟨b3, 0, none⟩) hl3 _⟩, hJ.i6, hJ.i7, hJ.i8, hJ.i9, fun hl => (hJ.i10 hl).far (p := ⟨b3, 0, none⟩) n23 _, fun _ => Blk.put (l := [_]) r3 0 _, fun hl => (hJ.i12 hl).far (p := ⟨b3, 0, none⟩) (Ne.symm n34) _, fun hl => (hJ.i13 hl).far (p := ⟨b3, 0, none⟩) (Ne.symm n35) _⟩⟩
    · obtain rfl := hJ.i9 (hdep 9 (by kernel_rfl))
      obtain ⟨a0, a1, a2, a3, a4, a5, a6, a7, a8, q2⟩ := hJ.nine
      obtain ⟨u3, r3⟩ := hJ.one3
      obtain ⟨u4, r4⟩ := hJ.one4
      obtain ⟨u5, r5⟩ := hJ.one5
      have e4 := r4.one
      have g4 := r4.frozen 0
      refine wpOp_list ho ?_
      simp only [List.getElem?_toArray, List.getElem?_cons_zero, List.getElem?_cons_succ, Option.some.injEq] at ho
      subst ho
      clear hdep hcl hL
      go_wp2_with fail
      exact ⟨_, _, _, _, _, _, _, _, _, _, rfl, ⟨hJ.kp.setCell (p := ⟨b4, 0, none⟩) (fun _ h => h.2.2.1 rfl) _, ⟨_, _, _, _, _, _, _, _, _, q2.far (p := ⟨b4, 0, none⟩) n24 _⟩, ⟨_, r3.far (p := ⟨b4, 0, none⟩) n34 _⟩, ⟨_, Blk.put (l := [_]) r4 0 _⟩, ⟨_, r5.far (p := ⟨b4, 0, none⟩) (Ne.symm n45) _⟩, hJ.i0, hJ.i1, hJ.i2, hJ.i3, hJ.i4, fun hl => by obtain ⟨g, cap, e, h1, h2⟩ := hJ.i5 hl; exact ⟨g, cap, e, h1, h2.set (p := ⟨b4, 0, none⟩) hl4 _⟩, hJ.i6, hJ.i7, hJ.i8, hJ.i9, fun hl => (hJ.i10 hl).far (p := ⟨b4, 0, none⟩) n24 _, fun hl => (hJ.i11 hl).far (p := ⟨b4, 0, none⟩) n34 _, fun _ => Blk.put (l := [_]) r4 0 _, fun hl => (hJ.i13 hl).far (p := ⟨b4, 0, none⟩) (Ne.symm n45) _⟩⟩
    · obtain ⟨a0, a1, a2, a3, a4, a5, a6, a7, a8, q2⟩ := hJ.nine
      obtain ⟨u3, r3⟩ := hJ.one3
      obtain ⟨u4, r4⟩ := hJ.one4
      obtain ⟨u5, r5⟩ := hJ.one5
      have e5 := r5.one
      have g5 := r5.frozen 0
      refine wpOp_list ho ?_
      simp only [List.getElem?_toArray, List.getElem?_cons_zero, List.getElem?_cons_succ, Option.some.injEq] at ho
      subst ho
      clear hdep hcl hL
      go_wp2_with fail
      exact ⟨_, _, _, _, _, _, _, _, _, _, rfl, ⟨hJ.kp.setCell (p := ⟨b5, 0, none⟩) (fun _ h => h.2.2.2 rfl) _, ⟨_, _, _, _, _, _, _, _, _, q2.far (p := ⟨b5, 0, none⟩) n25 _⟩, ⟨_, r3.far (p := ⟨b5, 0, none⟩) n35 _⟩, ⟨_, r4.far (p := ⟨b5, 0, none⟩) n45 _⟩, ⟨_, Blk.put (l := [_]) r5 0 _⟩, hJ.i0, hJ.i1, hJ.i2, hJ.i3, hJ.i4, fun hl => by obtain ⟨g, cap, e, h1, h2⟩ := hJ.i5 hl; exact ⟨g, cap, e, h1, h2.set (p := ⟨b5, 0, none⟩) hl5 _⟩, hJ.i6, hJ.i7, hJ.i8, hJ.i9, fun hl => (hJ.i10 hl).far (p := ⟨b5, 0, none⟩) n25 _, fun hl => (hJ.i11 hl).far (p := ⟨b5, 0, none⟩) n35 _, fun hl => (hJ.i12 hl).far (p := ⟨b5, 0, none⟩) n45 _, fun _ => Blk.put (l := [_]) r5 0 _⟩⟩
    · have := (Array.getElem?_eq_some_iff.1 ho).1
      simp at this
      omega
  · rintro L a wy hall ⟨t17, t18, t19, t20, t21, t22, t23, t24, t25, t26, rfl, hJ⟩
    obtain ⟨g2, cap2, rfl, hg2, hrd2⟩ := hJ.i5 (hall 5 (by decide))
    have r2 := hJ.i10 (hall 10 (by decide))
    have r3 := hJ.i11 (hall 11 (by decide))
    have r4 := hJ.i12 (hall 12 (by decide))
    have r5 := hJ.i13 (hall 13 (by decide))
    have hkp := hJ.kp
    have hks := (unhide K3).size
    clear hJ hall h2x h3x h4x h5x HX HT
    go_wp2_with fail
    go_end0
    exact ⟨rfl, ((unhide K3).mono fun _ _ _ => trivial).trans hkp, r2, ⟨g2, cap2, r3, by omega, hrd2.rd⟩, r4, r5⟩

set_option maxRecDepth 100000 in
set_option maxHeartbeats 2000000 in
theorem c66_cut (w : World) (b1 b2 b3 b4 b5 : Nat) (A : Option Addr) (c : Nat) (fin : Bool) (r o : Nat) (mk : Bool) (M : Nat → UInt8) (ps : List UInt8) (k : Nat) (hr : r < 8) (ho : o < 16) (hps : ps.length ≤ 2147483647) (hz : mk = true ∨ M = z4) (hk : k < (hbytes fin r o mk M ps.length ++ ps).length)
    (bs : List UInt8) (hbs : bs = (hbytes fin r o mk M ps.length ++ ps).take k) (hlen : bs.length ≤ 140737488355328) (h1 : Blk w b1 22 #[.slice A bs.length c]) (hrd : Rd w w.heap.size A bs) :
    Calls Tryd.prog 66 #[.pointer (some ⟨b1, 0, none⟩), .pointer (some ⟨b2, 0, none⟩), .pointer (some ⟨b3, 0, none⟩), .pointer (some ⟨b4, 0, none⟩), .pointer (some ⟨b5, 0, none⟩)] w fun e w' => e = .returned (.tuple #[]) ∧ KT w w' := by
  have HR := hide (fun w g rr h1 h2 => zzReadFrame_cut w g rr fin r o mk M ps k hr ho hps hz hk bs hbs h1 h2)
  have c0 := h1.one
  clear hk hbs hr ho hps hz
  go_enter Tryd.func66, Tryd.ntmps66
  go_wp2_with fail
  refine (copied_any w A bs.length c bs hrd rfl hlen).mono ?_
  rintro e w1 ⟨g, rr, rfl, hg, hblk, hm, hk1⟩
  clear c0 h1 hrd
  go_wp2_with fail
  refine (unhide HR w1 g rr hblk hm).mono ?_
  rintro e w2 ⟨fin', r', o', mk', M', n', z, sx, rfl, hk2⟩
  have HK : Hid (∀ x, KT w (w2.alloc x)) := fun x => (Kp.trans hk1 hk2).alloc x
  clear hk1 hk2 hblk
  go_wp2_with fail
  go_end0
  exact ⟨rfl, unhide HK _⟩

end Go.Proofs.YtechapgchjdhaaaDoor
