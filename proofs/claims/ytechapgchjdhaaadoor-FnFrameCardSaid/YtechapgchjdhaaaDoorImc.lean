/- impl.Cipher: the closure, the call through 'quietly', the whole; and spec.Masked. -/
import Derived.Test.YtechapgchjdhaaaDoorCip
namespace Go.Proofs.YtechapgchjdhaaaDoor
open Go.RowKit

/-- A new slice of these bytes, and nothing old has turned. -/
def Got (w w' : World) (bs : List UInt8) (e : Ending) : Prop :=
  ∃ g cap, e = .returned (.slice (some ⟨g, 0, none⟩) bs.length cap) ∧ w.heap.size ≤ g ∧ g < w'.heap.size ∧ Byt w' g 0 bs ∧ bs.length ≤ cap ∧ cap ≤ 9223372036854775807 ∧ Kp (fun _ => True) w w'

set_option maxRecDepth 100000 in
set_option maxHeartbeats 400000 in
theorem c39 (w : World) (p0 p1 p2 g c o : Nat) (cs : Array Value) (bs : List UInt8) (M : Nat → UInt8) (h0 : Blk w p0 22 #[.slice (some ⟨g, 0, none⟩) bs.length c]) (h1 : Blk w p1 23 #[bv (M 0), bv (M 1), bv (M 2), bv (M 3)]) (h2 : Blk w p2 3 #[.int .i64 o])
    (hnc : bs.length ≤ c) (hnm : bs.length ≤ 140737488355328) (hcm : c ≤ 9223372036854775807) (ho : o ≤ 9000000000000000000) (hrem : Rem w) (hb : Blk w g 5 cs) (hB : Byt w g 0 bs) :
    Calls Tryd.prog 39 #[.pointer (some ⟨p0, 0, none⟩), .pointer (some ⟨p1, 0, none⟩), .pointer (some ⟨p2, 0, none⟩)] w fun e w' => e = .returned (.tuple #[]) ∧ Kp (· ≠ g) w w' ∧
      ∃ cs', Blk w' g 5 cs' ∧ Part cs cs' 0 bs.length (fun i => bs.getD i 0) (fun i => bs.getD i 0 ^^^ M ((o + i) % 4)) (fun _ => true) := by
  have a0 := h0.cell 0
  have b0 := h1.cell 0
  have b1 := h1.cell 1
  have b2 := h1.cell 2
  have b3 := h1.cell 3
  have d0 := h2.cell 0
  simp only [List.getElem?_toArray, List.getElem?_cons_zero, List.getElem?_cons_succ] at a0 b0 b1 b2 b3 d0
  have H := hide (cipher_any w g 0 bs.length c o 5 cs (fun i => bs.getD i 0) M hnc hnm hcm ho hrem hb (fun i hi => by
    have := hB i hi
    rw [hb.cell] at this
    rw [this]
    simp [List.getD, List.getElem?_eq_getElem hi]))
  clear h0 h1 h2 hrem hb hB
  go_enter Tryd.func39, Tryd.ntmps39
  go_wp2_with fail
  refine (unhide H).mono ?_
  rintro e w1 ⟨rfl, cs', hq1, hq2, hq3⟩
  go_wp2
  go_end0
  exact ⟨rfl, hq3, cs', hq1, hq2⟩

set_option maxRecDepth 100000 in
set_option maxHeartbeats 400000 in
theorem implCipher (w : World) (A : Option Addr) (c o : Nat) (bs : List UInt8) (M : Nat → UInt8) (hr : Rd w w.heap.size A bs) (hlen : bs.length ≤ 140737488355328) (ho : o ≤ 9000000000000000000) (hrem : Rem w) :
    Calls Tryd.prog 13 #[.slice A bs.length c, mval M, .int .i64 o] w fun e w' => Got w w' (laid bs M o) e := by
  have hmf : ∀ (fn : Fn) (first cap : Array Value) (w : World), (Instr.makeFunc fn first cap).run Tryd.prog w = .ok (.func fn first cap) w := fun _ _ _ _ => rfl
  have hcf : ∀ (args : Array Value) (w : World), (callFunc 39 args).run Tryd.prog w = .ok (.enter 39 args) w := fun _ _ => by simp [go_sem]
  go_enter Tryd.func13, Tryd.ntmps13
  go_wp2_with fail
  refine (copied_any _ A _ c bs ((hr.alloc (Nat.le_refl _) _).alloc (by simp) _ |>.mono (by simp; omega)) rfl hlen).mono ?_
  rintro e w1 ⟨g, rest, rfl, hg, hblk, hm, hk⟩
  have p0 : Blk w1 w.heap.size 23 _ := ((Blk.new w 23 _).alloc _).kp hk trivial
  have p1 : Blk w1 (w.heap.size + 1) 3 _ := (Blk.new2 w _ 3 _).kp hk trivial
  have hsz := p1.lt
  have c1 := p1.one
  have hg1 : w.heap.size + 1 < g := by simp at hg; omega
  have hglt := hblk.lt
  go_wp2_with fail
  have Hb : Byt w1 g 0 bs := by
    have := Blk.byt (pre := []) (off := 0) rfl (by simpa using hblk)
    exact this
  have hk' : Kp (fun _ => True) w w1 := (((Kp.refl _ w).alloc _).alloc _).trans hk
  refine (quietly_kp (w1.alloc (.cells #[.slice (some ⟨g, 0, none⟩) bs.length (bs.length + rest.length)] 22)) 39 #[.pointer (some ⟨w1.heap.size, 0, none⟩), .pointer (some ⟨w.heap.size, 0, none⟩), .pointer (some ⟨w.heap.size + 1, 0, none⟩)] (· ≠ g) (fun w' => ∃ cs', Blk w' g 5 cs' ∧ Part (bs.map bv ++ rest).toArray cs' 0 bs.length (fun i => bs.getD i 0) (fun i => bs.getD i 0 ^^^ M ((o + i) % 4)) (fun _ => true)) hcf (by simp; omega)
    (fun w1' ⟨cs', h1, h2⟩ => ⟨cs', h1.far (by simp; omega) _, h2⟩)
    (c39 _ w1.heap.size w.heap.size (w.heap.size + 1) g _ o _ bs M ((Blk.new w1 22 _).alloc _) ((p0.alloc _).alloc _) ((p1.alloc _).alloc _) (by omega) hlen (by unfold maxLen at hm; omega) ho ((hrem.kp hk' trivial).kp (((Kp.refl (fun _ => True) w1).alloc _).alloc _) trivial) ((hblk.alloc _).alloc _) ((Hb.alloc hglt _).alloc (by simp; omega) _))).mono ?_
  rintro e w2 ⟨rfl, hk2, cs', hb', hp'⟩
  have q0 := ((Blk.new w1 22 _).kp hk2 (show w1.heap.size ≠ g by omega)).one
  go_wp2
  go_ret
  refine ⟨g, _, by rw [laid_length]; rfl, by omega, hb'.lt, hp'.byt hb', by rw [laid_length]; omega, by unfold maxLen at hm; omega, ?_⟩
  exact hk'.then_ (((Kp.refl (· ≠ g) w1).alloc _).trans hk2) (fun i hi _ => by omega)
end Go.Proofs.YtechapgchjdhaaaDoor
