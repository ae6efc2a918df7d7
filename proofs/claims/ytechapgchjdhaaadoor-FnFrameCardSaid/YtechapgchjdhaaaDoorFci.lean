/- laws.works and laws.FnCipher: the walks. -/
import Derived.Test.YtechapgchjdhaaaDoorMsk
namespace Go.Proofs.YtechapgchjdhaaaDoor
open Go.RowKit

/-- What every law says of a call: true, and nothing old has turned. -/
def Yes (w : World) (e : Ending) (w' : World) : Prop := e = .returned (.bool true) ∧ Kp (fun _ => True) w w'

def Mw (i : Nat) : UInt8 := UInt8.ofNat (i + 1)

theorem Got.rd {w w' : World} {bs : List UInt8} {e : Ending} (h : Got w w' bs e) : ∃ g cap, e = .returned (.slice (some ⟨g, 0, none⟩) bs.length cap) ∧ Rd w' w'.heap.size (some ⟨g, 0, none⟩) bs ∧ Kp (fun _ => True) w w' ∧ w.heap.size < w'.heap.size := by
  obtain ⟨g, cap, he, h1, h2, h3, _, _, hk⟩ := h
  exact ⟨g, cap, he, Rd.of_byt h3 h2, hk, by omega⟩

abbrev mcells (M : Nat → UInt8) : Array Value := #[bv (M 0), bv (M 1), bv (M 2), bv (M 3)]
theorem mask4 {w : World} {g : Nat} {M : Nat → UInt8} (h : Blk w g 23 (mcells M)) : w.cell? ⟨g, 0, none⟩ = some (bv (M 0)) ∧ w.cell? ⟨g, 1, none⟩ = some (bv (M 1)) ∧ w.cell? ⟨g, 2, none⟩ = some (bv (M 2)) ∧ w.cell? ⟨g, 3, none⟩ = some (bv (M 3)) :=
  ⟨h.cell 0, h.cell 1, h.cell 2, h.cell 3⟩

theorem same_yes (w : World) (A A' : Option Addr) (c c' : Nat) (bs : List UInt8) (hr : Rd w w.heap.size A bs) (hr' : Rd w w.heap.size A' bs) :
    Calls Tryd.prog 14 #[.slice A bs.length c, .slice A' bs.length c'] w fun e w' => e = .returned (.bool true) ∧ w = w' :=
  (same_any w _ A A' _ c _ c' bs bs hr hr' rfl rfl).mono fun _ _ ⟨h1, h2⟩ => ⟨by rw [h1]; simp, h2⟩

theorem byt_two (w : World) (a b : UInt8) : Byt (w.alloc (.cells #[bv a, bv b] 5)) w.heap.size 0 [a, b] := by
  intro i hi
  rw [Nat.zero_add, World.cell?_alloc_new]
  rcases (show i = 0 ∨ i = 1 by simp at hi; omega) with rfl | rfl <;> rfl

set_option maxRecDepth 100000 in
set_option maxHeartbeats 1000000 in
theorem works_any (w : World) (hrem : Rem w) : Calls Tryd.prog 12 #[] w (Yes w) := by
  go_enter Tryd.func12, Tryd.ntmps12
  go_wp2_with fail
  have hb : Byt (w.alloc (.cells #[.int .u8 1, .int .u8 2] 5)) w.heap.size 0 [1, 2] := byt_two w 1 2
  refine (implCipher _ (some ⟨w.heap.size, 0, none⟩) 2 0 [1, 2] Mw (Rd.of_byt hb (by simp)) (by simp) (by omega) (hrem.kp ((Kp.refl (fun _ => True) w).alloc _) trivial)).mono ?_
  rintro e w1 hgot
  obtain ⟨g, cap, rfl, hr1, hk1, hs1⟩ := hgot.rd
  go_wp2_with fail
  have hb2 : Byt (w1.alloc (.cells #[.int .u8 0, .int .u8 0] 5)) w1.heap.size 0 [0, 0] := byt_two w1 0 0
  refine (same_yes _ (some ⟨g, 0, none⟩) (some ⟨w1.heap.size, 0, none⟩) cap 2 [0, 0] ((hr1.alloc (Nat.le_refl _) _).mono (by simp)) (Rd.of_byt hb2 (by simp))).mono ?_
  rintro e w2 ⟨rfl, rfl⟩
  go_wp2
  go_ret
  exact ⟨rfl, (((Kp.refl _ w).alloc _).trans hk1).alloc _⟩

set_option maxRecDepth 100000 in
set_option maxHeartbeats 1000000 in
theorem fnCipher_walk (w : World) (A : Option Addr) (c : Nat) (o : Int) (bs : List UInt8) (M : Nat → UInt8) (hr : Rd w w.heap.size A bs) (hrem : Rem w) :
    Calls Tryd.prog 3 #[.slice A bs.length c, mval M, .int .i64 o] w (Yes w) := by
  have ka : ∀ x, Kp (fun _ => True) w (w.alloc x) := fun x => (Kp.refl _ w).alloc x
  by_cases h1 : 2147483647 < bs.length
  · go_enter Tryd.func3, Tryd.ntmps3
    go_wp2
    go_ret
    exact ⟨rfl, ka _⟩
  · by_cases h2 : o < 0
    · go_enter Tryd.func3, Tryd.ntmps3
      go_wp2_with fail
      refine (works_any _ (hrem.kp (ka _) trivial)).mono ?_
      rintro e w1 ⟨rfl, hk⟩
      go_wp2
      go_ret
      exact ⟨rfl, (ka _).trans hk⟩
    · by_cases h3 : 4611686018427387904 < o
      · go_enter Tryd.func3, Tryd.ntmps3
        go_wp2_with fail
        refine (works_any _ (hrem.kp (ka _) trivial)).mono ?_
        rintro e w1 ⟨rfl, hk⟩
        go_wp2
        go_ret
        exact ⟨rfl, (ka _).trans hk⟩
      · by_cases h4 : 1000 < bs.length
        · go_enter Tryd.func3, Tryd.ntmps3
          go_wp2_with fail
          refine (works_any _ (hrem.kp (ka _) trivial)).mono ?_
          rintro e w1 ⟨rfl, hk⟩
          go_wp2
          go_ret
          exact ⟨rfl, (ka _).trans hk⟩
        · obtain ⟨n, rfl⟩ : ∃ n : Nat, o = n := ⟨o.toNat, by omega⟩
          go_enter Tryd.func3, Tryd.ntmps3
          go_wp2_with fail
          refine (implCipher _ A c n bs M ((hr.alloc (Nat.le_refl _) _).mono (by simp)) (by omega) (by omega) (hrem.kp (ka _) trivial)).mono ?_
          rintro e w1 hgot
          obtain ⟨g, cap, rfl, hr1, hk1, hs1⟩ := hgot.rd
          have hm0 : Blk (w.alloc (.cells (mcells M) 23)) w.heap.size 23 (mcells M) := Blk.new w 23 _
          have hm1 := hm0.kp hk1 trivial
          have hkw1 := (ka _).trans hk1
          obtain ⟨x0, x1, x2, x3⟩ := mask4 hm1
          go_wp2_with fail
          refine (masked_any w1 A c n bs M ((hr.kp hkw1 (Nat.le_refl _) (fun _ _ => trivial)).mono hkw1.size) (by omega) (by omega)).mono ?_
          rintro e w2 hgot2
          obtain ⟨g2, cap2, rfl, hr2, hk2, hs2⟩ := hgot2.rd
          have hm2 := hm1.kp hk2 trivial
          have hkw2 := hkw1.trans hk2
          obtain ⟨y0, y1, y2, y3⟩ := mask4 hm2
          clear x0 x1 x2 x3
          go_wp2_with fail
          refine (same_yes w2 (some ⟨g, 0, none⟩) (some ⟨g2, 0, none⟩) cap cap2 (laid bs M n) ((hr1.kp hk2 (Nat.le_refl _) (fun _ _ => trivial)).mono hk2.size) hr2).mono ?_
          rintro e w3 ⟨rfl, rfl⟩
          go_wp2_with fail
          refine (implCipher w2 (some ⟨g, 0, none⟩) cap n (laid bs M n) M ((hr1.kp hk2 (Nat.le_refl _) (fun _ _ => trivial)).mono hk2.size) (by rw [laid_length]; omega) (by omega) (hrem.kp hkw2 trivial)).mono ?_
          rintro e w3 hgot3
          obtain ⟨g3, cap3, rfl, hr3, hk3, hs3⟩ := hgot3.rd
          have hkw3 := hkw2.trans hk3
          rw [laid_laid] at hr3 ⊢
          clear y0 y1 y2 y3
          go_wp2_with fail
          refine (same_yes w3 (some ⟨g3, 0, none⟩) A cap3 c bs hr3 ((hr.kp hkw3 (Nat.le_refl _) (fun _ _ => trivial)).mono hkw3.size)).mono ?_
          rintro e w4 ⟨rfl, rfl⟩
          go_wp2_with fail
          refine (works_any w3 (hrem.kp hkw3 trivial)).mono ?_
          rintro e w4 ⟨rfl, hk4⟩
          go_wp2
          go_ret
          exact ⟨rfl, hkw3.trans hk4⟩
end Go.Proofs.YtechapgchjdhaaaDoor
