/- Frames masked and unmasked: MaskFrameInPlaceWith, MaskFrameWith, UnmaskFrameInPlace, UnmaskFrame: the walks. -/
import Derived.Test.YtechapgchjdhaaaDoorHdr
import Derived.Test.YtechapgchjdhaaaDoorCpy
import Derived.Deep.DeepCutAuto
namespace Go.Proofs.YtechapgchjdhaaaDoor
open Go.RowKit

abbrev fcells (fin : Bool) (rsv op : Int) (mk : Bool) (M : Nat → UInt8) (len : Int) (pay : Value) : Array Value := #[.bool fin, .int .u8 rsv, .int .u8 op, .bool mk, bv (M 0), bv (M 1), bv (M 2), bv (M 3), .int .i64 len, pay]
abbrev fval (fin : Bool) (rsv op : Int) (mk : Bool) (M : Nat → UInt8) (len : Int) (pay : Value) : Value := .agg (fcells fin rsv op mk M len pay)

section
variable {w : World} {g : Nat} {t : TypeId} {a0 a1 a2 a3 a4 a5 a6 a7 a8 a9 : Value}
theorem row9 (h : Blk w g t #[a0, a1, a2, a3, a4, a5, a6, a7, a8]) : w.cell? ⟨g, 0, none⟩ = some a0 ∧ w.cell? ⟨g, 1, none⟩ = some a1 ∧ w.cell? ⟨g, 2, none⟩ = some a2 ∧ w.cell? ⟨g, 3, none⟩ = some a3 ∧ w.cell? ⟨g, 4, none⟩ = some a4 ∧
    w.cell? ⟨g, 5, none⟩ = some a5 ∧ w.cell? ⟨g, 6, none⟩ = some a6 ∧ w.cell? ⟨g, 7, none⟩ = some a7 ∧ w.cell? ⟨g, 8, none⟩ = some a8 :=
  ⟨h.cell 0, h.cell 1, h.cell 2, h.cell 3, h.cell 4, h.cell 5, h.cell 6, h.cell 7, h.cell 8⟩
theorem row10 (h : Blk w g t #[a0, a1, a2, a3, a4, a5, a6, a7, a8, a9]) : w.cell? ⟨g, 0, none⟩ = some a0 ∧ w.cell? ⟨g, 1, none⟩ = some a1 ∧ w.cell? ⟨g, 2, none⟩ = some a2 ∧ w.cell? ⟨g, 3, none⟩ = some a3 ∧ w.cell? ⟨g, 4, none⟩ = some a4 ∧
    w.cell? ⟨g, 5, none⟩ = some a5 ∧ w.cell? ⟨g, 6, none⟩ = some a6 ∧ w.cell? ⟨g, 7, none⟩ = some a7 ∧ w.cell? ⟨g, 8, none⟩ = some a8 ∧ w.cell? ⟨g, 9, none⟩ = some a9 :=
  ⟨h.cell 0, h.cell 1, h.cell 2, h.cell 3, h.cell 4, h.cell 5, h.cell 6, h.cell 7, h.cell 8, h.cell 9⟩
theorem free10 (h : Blk w g t #[a0, a1, a2, a3, a4, a5, a6, a7, a8, a9]) : w.frozen? ⟨g, 0, none⟩ = false ∧ w.frozen? ⟨g, 1, none⟩ = false ∧ w.frozen? ⟨g, 2, none⟩ = false ∧ w.frozen? ⟨g, 3, none⟩ = false ∧ w.frozen? ⟨g, 4, none⟩ = false ∧
    w.frozen? ⟨g, 5, none⟩ = false ∧ w.frozen? ⟨g, 6, none⟩ = false ∧ w.frozen? ⟨g, 7, none⟩ = false ∧ w.frozen? ⟨g, 8, none⟩ = false ∧ w.frozen? ⟨g, 9, none⟩ = false :=
  ⟨h.frozen 0, h.frozen 1, h.frozen 2, h.frozen 3, h.frozen 4, h.frozen 5, h.frozen 6, h.frozen 7, h.frozen 8, h.frozen 9⟩
end

/-- The world at a statement, known by a few words alone. -/
theorem wp_abs {P : Program} {c : Code} {Q : Exit → Act → World → Prop} {a : Act} {w : World} (R : World → Prop) (h : R w) (k : ∀ w', R w' → Code.wp P c Q a w') : Code.wp P c Q a w := k w h
theorem Blk.put {w : World} {g : Nat} {t : TypeId} {l : List Value} (h : Blk w g t l.toArray) (i : Nat) (v : Value) : Blk (w.setCell ⟨g, i, none⟩ v) g t (l.set i v).toArray := by
  have := h.set_ i v
  rwa [List.setIfInBounds_toArray] at this

theorem Blk.new3 (w : World) (o o' : Obj) (t : TypeId) (cs : Array Value) : Blk (((w.alloc o).alloc o').alloc (.cells cs t)) (w.heap.size + 1 + 1) t cs := by
  have := Blk.new ((w.alloc o).alloc o') t cs
  rwa [World.size_alloc, World.size_alloc] at this

section
variable {S : Nat → Prop} {w0 w : World} {b g off : Nat} {t : TypeId} {cs : Array Value} {bs : List UInt8} {v0 v1 v2 v3 v4 v5 v6 v7 v8 a0 a1 a2 a3 a4 a5 a6 a7 a8 : Value}
theorem put9_kp (h : Kp S w0 w) (hp : b < w0.heap.size → ¬ S b) : Kp S w0 (((((((((w.setCell ⟨b, 0, none⟩ v0).setCell ⟨b, 1, none⟩ v1).setCell ⟨b, 2, none⟩ v2).setCell ⟨b, 3, none⟩ v3).setCell ⟨b, 4, none⟩ v4).setCell ⟨b, 5, none⟩ v5).setCell ⟨b, 6, none⟩ v6).setCell ⟨b, 7, none⟩ v7).setCell ⟨b, 8, none⟩ v8) :=
  ((((((((h.setCell hp _).setCell hp _).setCell hp _).setCell hp _).setCell hp _).setCell hp _).setCell hp _).setCell hp _).setCell hp _
theorem put9_blk (h : Blk w b t #[a0, a1, a2, a3, a4, a5, a6, a7, a8]) : Blk (((((((((w.setCell ⟨b, 0, none⟩ v0).setCell ⟨b, 1, none⟩ v1).setCell ⟨b, 2, none⟩ v2).setCell ⟨b, 3, none⟩ v3).setCell ⟨b, 4, none⟩ v4).setCell ⟨b, 5, none⟩ v5).setCell ⟨b, 6, none⟩ v6).setCell ⟨b, 7, none⟩ v7).setCell ⟨b, 8, none⟩ v8) b t #[v0, v1, v2, v3, v4, v5, v6, v7, v8] := by
  have := ((((((((h.set_ 0 v0).set_ 1 v1).set_ 2 v2).set_ 3 v3).set_ 4 v4).set_ 5 v5).set_ 6 v6).set_ 7 v7).set_ 8 v8
  simp only [List.setIfInBounds_toArray, List.set_cons_zero, List.set_cons_succ] at this
  exact this
theorem put9_far (h : Blk w g t cs) (hne : g ≠ b) : Blk (((((((((w.setCell ⟨b, 0, none⟩ v0).setCell ⟨b, 1, none⟩ v1).setCell ⟨b, 2, none⟩ v2).setCell ⟨b, 3, none⟩ v3).setCell ⟨b, 4, none⟩ v4).setCell ⟨b, 5, none⟩ v5).setCell ⟨b, 6, none⟩ v6).setCell ⟨b, 7, none⟩ v7).setCell ⟨b, 8, none⟩ v8) g t cs :=
  ((((((((h.far (p := ⟨b, 0, none⟩) hne _).far (p := ⟨b, 1, none⟩) hne _).far (p := ⟨b, 2, none⟩) hne _).far (p := ⟨b, 3, none⟩) hne _).far (p := ⟨b, 4, none⟩) hne _).far (p := ⟨b, 5, none⟩) hne _).far (p := ⟨b, 6, none⟩) hne _).far (p := ⟨b, 7, none⟩) hne _).far (p := ⟨b, 8, none⟩) hne _
theorem put9_byt (h : Byt w g off bs) (hne : g ≠ b) : Byt (((((((((w.setCell ⟨b, 0, none⟩ v0).setCell ⟨b, 1, none⟩ v1).setCell ⟨b, 2, none⟩ v2).setCell ⟨b, 3, none⟩ v3).setCell ⟨b, 4, none⟩ v4).setCell ⟨b, 5, none⟩ v5).setCell ⟨b, 6, none⟩ v6).setCell ⟨b, 7, none⟩ v7).setCell ⟨b, 8, none⟩ v8) g off bs :=
  ((((((((h.setCell (p := ⟨b, 0, none⟩) hne _).setCell (p := ⟨b, 1, none⟩) hne _).setCell (p := ⟨b, 2, none⟩) hne _).setCell (p := ⟨b, 3, none⟩) hne _).setCell (p := ⟨b, 4, none⟩) hne _).setCell (p := ⟨b, 5, none⟩) hne _).setCell (p := ⟨b, 6, none⟩) hne _).setCell (p := ⟨b, 7, none⟩) hne _).setCell (p := ⟨b, 8, none⟩) hne _
theorem put9_size : ((((((((((w.setCell ⟨b, 0, none⟩ v0).setCell ⟨b, 1, none⟩ v1).setCell ⟨b, 2, none⟩ v2).setCell ⟨b, 3, none⟩ v3).setCell ⟨b, 4, none⟩ v4).setCell ⟨b, 5, none⟩ v5).setCell ⟨b, 6, none⟩ v6).setCell ⟨b, 7, none⟩ v7).setCell ⟨b, 8, none⟩ v8)).heap.size = w.heap.size := by simp only [World.size_setCell]
end
section
variable {S : Nat → Prop} {w0 w : World} {b g off : Nat} {t : TypeId} {cs : Array Value} {bs : List UInt8} {v0 v1 v2 v3 v4 v5 v6 v7 v8 v9 a0 a1 a2 a3 a4 a5 a6 a7 a8 a9 : Value}
theorem put10_kp (h : Kp S w0 w) (hp : b < w0.heap.size → ¬ S b) : Kp S w0 ((((((((((w.setCell ⟨b, 0, none⟩ v0).setCell ⟨b, 1, none⟩ v1).setCell ⟨b, 2, none⟩ v2).setCell ⟨b, 3, none⟩ v3).setCell ⟨b, 4, none⟩ v4).setCell ⟨b, 5, none⟩ v5).setCell ⟨b, 6, none⟩ v6).setCell ⟨b, 7, none⟩ v7).setCell ⟨b, 8, none⟩ v8).setCell ⟨b, 9, none⟩ v9) :=
  (((((((((h.setCell hp _).setCell hp _).setCell hp _).setCell hp _).setCell hp _).setCell hp _).setCell hp _).setCell hp _).setCell hp _).setCell hp _
theorem put10_blk (h : Blk w b t #[a0, a1, a2, a3, a4, a5, a6, a7, a8, a9]) : Blk ((((((((((w.setCell ⟨b, 0, none⟩ v0).setCell ⟨b, 1, none⟩ v1).setCell ⟨b, 2, none⟩ v2).setCell ⟨b, 3, none⟩ v3).setCell ⟨b, 4, none⟩ v4).setCell ⟨b, 5, none⟩ v5).setCell ⟨b, 6, none⟩ v6).setCell ⟨b, 7, none⟩ v7).setCell ⟨b, 8, none⟩ v8).setCell ⟨b, 9, none⟩ v9) b t #[v0, v1, v2, v3, v4, v5, v6, v7, v8, v9] := by
  have := (((((((((h.set_ 0 v0).set_ 1 v1).set_ 2 v2).set_ 3 v3).set_ 4 v4).set_ 5 v5).set_ 6 v6).set_ 7 v7).set_ 8 v8).set_ 9 v9
  simp only [List.setIfInBounds_toArray, List.set_cons_zero, List.set_cons_succ] at this
  exact this
theorem put10_far (h : Blk w g t cs) (hne : g ≠ b) : Blk ((((((((((w.setCell ⟨b, 0, none⟩ v0).setCell ⟨b, 1, none⟩ v1).setCell ⟨b, 2, none⟩ v2).setCell ⟨b, 3, none⟩ v3).setCell ⟨b, 4, none⟩ v4).setCell ⟨b, 5, none⟩ v5).setCell ⟨b, 6, none⟩ v6).setCell ⟨b, 7, none⟩ v7).setCell ⟨b, 8, none⟩ v8).setCell ⟨b, 9, none⟩ v9) g t cs :=
  (((((((((h.far (p := ⟨b, 0, none⟩) hne _).far (p := ⟨b, 1, none⟩) hne _).far (p := ⟨b, 2, none⟩) hne _).far (p := ⟨b, 3, none⟩) hne _).far (p := ⟨b, 4, none⟩) hne _).far (p := ⟨b, 5, none⟩) hne _).far (p := ⟨b, 6, none⟩) hne _).far (p := ⟨b, 7, none⟩) hne _).far (p := ⟨b, 8, none⟩) hne _).far (p := ⟨b, 9, none⟩) hne _
theorem put10_byt (h : Byt w g off bs) (hne : g ≠ b) : Byt ((((((((((w.setCell ⟨b, 0, none⟩ v0).setCell ⟨b, 1, none⟩ v1).setCell ⟨b, 2, none⟩ v2).setCell ⟨b, 3, none⟩ v3).setCell ⟨b, 4, none⟩ v4).setCell ⟨b, 5, none⟩ v5).setCell ⟨b, 6, none⟩ v6).setCell ⟨b, 7, none⟩ v7).setCell ⟨b, 8, none⟩ v8).setCell ⟨b, 9, none⟩ v9) g off bs :=
  (((((((((h.setCell (p := ⟨b, 0, none⟩) hne _).setCell (p := ⟨b, 1, none⟩) hne _).setCell (p := ⟨b, 2, none⟩) hne _).setCell (p := ⟨b, 3, none⟩) hne _).setCell (p := ⟨b, 4, none⟩) hne _).setCell (p := ⟨b, 5, none⟩) hne _).setCell (p := ⟨b, 6, none⟩) hne _).setCell (p := ⟨b, 7, none⟩) hne _).setCell (p := ⟨b, 8, none⟩) hne _).setCell (p := ⟨b, 9, none⟩) hne _
theorem put10_size : (((((((((((w.setCell ⟨b, 0, none⟩ v0).setCell ⟨b, 1, none⟩ v1).setCell ⟨b, 2, none⟩ v2).setCell ⟨b, 3, none⟩ v3).setCell ⟨b, 4, none⟩ v4).setCell ⟨b, 5, none⟩ v5).setCell ⟨b, 6, none⟩ v6).setCell ⟨b, 7, none⟩ v7).setCell ⟨b, 8, none⟩ v8).setCell ⟨b, 9, none⟩ v9)).heap.size = w.heap.size := by simp only [World.size_setCell]
end

theorem size82 : (Tryd.prog.info? 82).map (·.size) = some 10 := by kernel_rfl
theorem size78 : (Tryd.prog.info? 78).map (·.size) = some 9 := by kernel_rfl
theorem size29 : (Tryd.prog.info? 29).map (·.size) = some 9 := by kernel_rfl

theorem Blk.new4 (w : World) (o o' o'' : Obj) (t : TypeId) (cs : Array Value) : Blk ((((w.alloc o).alloc o').alloc o'').alloc (.cells cs t)) (w.heap.size + 1 + 1 + 1) t cs := by
  have := Blk.new (((w.alloc o).alloc o').alloc o'') t cs
  rwa [World.size_alloc, World.size_alloc, World.size_alloc] at this

/-- Block g, still a row of bytes, begins with these bytes; every other old block is as it was. -/
structure Wrote (w w' : World) (g : Nat) (bs : List UInt8) : Prop where
  blk : ∃ cs', Blk w' g 5 cs'
  byt : Byt w' g 0 bs
  kp : Kp (· ≠ g) w w'

/-- cipher_any, said of bytes. -/
theorem cipher_bytes (w : World) (g c o : Nat) (cs : Array Value) (bs : List UInt8) (M : Nat → UInt8) (hnc : bs.length ≤ c) (hnm : bs.length ≤ 140737488355328) (hcm : c ≤ 9223372036854775807) (ho : o ≤ 9000000000000000000) (hrem : Rem w)
    (hb : Blk w g 5 cs) (hB : Byt w g 0 bs) :
    Calls Tryd.prog 40 #[.slice (some ⟨g, 0, none⟩) bs.length c, mval M, .int .i64 o] w fun e w' => e = .returned (.tuple #[]) ∧ Wrote w w' g (laid bs M o) :=
  (cipher_any w g 0 bs.length c o 5 cs (fun i => bs.getD i 0) M hnc hnm hcm ho hrem hb (fun i hi => by
    have := hB i hi
    rw [hb.cell] at this
    rw [this]
    simp [List.getD, List.getElem?_eq_getElem hi])).mono fun _ _ ⟨h1, cs', h2, h3, h4⟩ => ⟨h1, ⟨cs', h2⟩, h3.byt h2, h4⟩

set_option maxRecDepth 100000 in
set_option maxHeartbeats 1000000 in
theorem maskInPlace (w : World) (fin : Bool) (rsv op : Int) (mk : Bool) (M N : Nat → UInt8) (len : Int) (g c : Nat) (cs : Array Value) (bs : List UInt8) (hnc : bs.length ≤ c) (hnm : bs.length ≤ 140737488355328) (hcm : c ≤ 9223372036854775807) (hrem : Rem w)
    (hb : Blk w g 5 cs) (hB : Byt w g 0 bs) :
    Calls Tryd.prog 72 #[fval fin rsv op mk M len (.slice (some ⟨g, 0, none⟩) bs.length c), mval N] w fun e w' =>
      e = .returned (fval fin rsv op true N len (.slice (some ⟨g, 0, none⟩) bs.length c)) ∧ Wrote w w' g (laid bs N 0) := by
  have hg := hb.lt
  go_enter Tryd.func72, Tryd.ntmps72
  have k3 : ∀ a b c, Kp (fun _ => True) w (((w.alloc a).alloc b).alloc c) := fun a b c => (((Kp.refl _ w).alloc a).alloc b).alloc c
  have K3 := hide k3
  clear k3
  go_wp2_with fail
  refine (cipher_bytes _ g c 0 cs bs N hnc hnm hcm (by omega) (hrem.kp (unhide K3 _ _ _) trivial) (((hb.alloc _).alloc _).alloc _) (((hB.alloc hg _).alloc (by simp; omega) _).alloc (by simp; omega) _)).mono ?_
  rintro e w1 ⟨rfl, ⟨cs', hb1⟩, hB1, hk1⟩
  have p0 : Blk w1 w.heap.size 82 (fcells fin rsv op true N len (.slice (some ⟨g, 0, none⟩) bs.length c)) := (((Blk.new w 82 _).alloc _).alloc _).kp hk1 (show w.heap.size ≠ g by omega)
  have p2 : Blk w1 (w.heap.size + 1 + 1) 82 _ := (Blk.new3 w _ _ 82 _).kp hk1 (show w.heap.size + 1 + 1 ≠ g by omega)
  obtain ⟨c0, c1, c2, c3, c4, c5, c6, c7, c8, c9⟩ := row10 p0
  obtain ⟨d0, d1, d2, d3, d4, d5, d6, d7, d8, d9⟩ := row10 p2
  obtain ⟨f0, f1, f2, f3, f4, f5, f6, f7, f8, f9⟩ := free10 p2
  go_wp2
  refine bodyPost_ret (v := fval fin rsv op true N len (.slice (some ⟨g, 0, none⟩) bs.length c)) (results_cell_row rfl _ _ _ 82 _ (0, 0) _ rfl (put10_blk p2) Tryd.underlying82 rfl size82) rfl ⟨rfl, ⟨cs', put10_far hb1 (by omega)⟩, put10_byt hB1 (by omega), ?_⟩
  exact put10_kp (((((Kp.refl (· ≠ g) w).alloc _).alloc _).alloc _).trans hk1) (fun h => by omega)

set_option maxRecDepth 100000 in
set_option maxHeartbeats 1000000 in
theorem unmaskInPlace (w : World) (fin : Bool) (rsv op : Int) (mk : Bool) (M : Nat → UInt8) (len : Int) (g c : Nat) (cs : Array Value) (bs : List UInt8) (hnc : bs.length ≤ c) (hnm : bs.length ≤ 140737488355328) (hcm : c ≤ 9223372036854775807) (hrem : Rem w)
    (hb : Blk w g 5 cs) (hB : Byt w g 0 bs) :
    Calls Tryd.prog 73 #[fval fin rsv op mk M len (.slice (some ⟨g, 0, none⟩) bs.length c)] w fun e w' =>
      e = .returned (fval fin rsv op false (fun _ => 0) len (.slice (some ⟨g, 0, none⟩) bs.length c)) ∧ Wrote w w' g (laid bs M 0) := by
  have hg := hb.lt
  go_enter Tryd.func73, Tryd.ntmps73
  have k3 : ∀ a b, Kp (fun _ => True) w ((w.alloc a).alloc b) := fun a b => ((Kp.refl _ w).alloc a).alloc b
  have K3 := hide k3
  clear k3
  go_wp2_with fail
  refine (cipher_bytes _ g c 0 cs bs M hnc hnm hcm (by omega) (hrem.kp (unhide K3 _ _) trivial) ((hb.alloc _).alloc _) ((hB.alloc hg _).alloc (by simp; omega) _)).mono ?_
  rintro e w1 ⟨rfl, ⟨cs', hb1⟩, hB1, hk1⟩
  have p0 : Blk w1 w.heap.size 82 (fcells fin rsv op mk M len (.slice (some ⟨g, 0, none⟩) bs.length c)) := ((Blk.new w 82 _).alloc _).kp hk1 (show w.heap.size ≠ g by omega)
  have p2 : Blk w1 (w.heap.size + 1) 82 _ := (Blk.new2 w _ 82 _).kp hk1 (show w.heap.size + 1 ≠ g by omega)
  obtain ⟨c0, c1, c2, c3, c4, c5, c6, c7, c8, c9⟩ := row10 p0
  obtain ⟨e0, e1, e2, e3, e4, e5, e6, e7, e8, e9⟩ := free10 p0
  go_upto_region 4 with fail
  refine wp_abs (fun w2 => Blk w2 w.heap.size 82 (fcells fin rsv op false (fun _ => 0) len (.slice (some ⟨g, 0, none⟩) bs.length c)) ∧ Blk w2 (w.heap.size + 1) 82 (fcells false 0 0 false (fun _ => 0) 0 (.slice none 0 0)) ∧ Blk w2 g 5 cs' ∧ Byt w2 g 0 (laid bs M 0) ∧ Kp (· ≠ g) w w2)
    ⟨((((p0.put 3 _).put 4 _).put 5 _).put 6 _).put 7 _, ?_, ?_, ?_, ?_⟩ ?_
  · exact ((((p2.far (p := ⟨w.heap.size, 3, none⟩) (show w.heap.size + 1 ≠ w.heap.size by omega) _).far (p := ⟨w.heap.size, 4, none⟩) (show w.heap.size + 1 ≠ w.heap.size by omega) _).far (p := ⟨w.heap.size, 5, none⟩) (show w.heap.size + 1 ≠ w.heap.size by omega) _).far (p := ⟨w.heap.size, 6, none⟩) (show w.heap.size + 1 ≠ w.heap.size by omega) _).far (p := ⟨w.heap.size, 7, none⟩) (show w.heap.size + 1 ≠ w.heap.size by omega) _
  · exact ((((hb1.far (p := ⟨w.heap.size, 3, none⟩) (show g ≠ w.heap.size by omega) _).far (p := ⟨w.heap.size, 4, none⟩) (show g ≠ w.heap.size by omega) _).far (p := ⟨w.heap.size, 5, none⟩) (show g ≠ w.heap.size by omega) _).far (p := ⟨w.heap.size, 6, none⟩) (show g ≠ w.heap.size by omega) _).far (p := ⟨w.heap.size, 7, none⟩) (show g ≠ w.heap.size by omega) _
  · exact ((((hB1.setCell (p := ⟨w.heap.size, 3, none⟩) (show g ≠ w.heap.size by omega) _).setCell (p := ⟨w.heap.size, 4, none⟩) (show g ≠ w.heap.size by omega) _).setCell (p := ⟨w.heap.size, 5, none⟩) (show g ≠ w.heap.size by omega) _).setCell (p := ⟨w.heap.size, 6, none⟩) (show g ≠ w.heap.size by omega) _).setCell (p := ⟨w.heap.size, 7, none⟩) (show g ≠ w.heap.size by omega) _
  · have hnew : ∀ i, (⟨w.heap.size, i, none⟩ : Addr).block < w.heap.size → ¬ (⟨w.heap.size, i, none⟩ : Addr).block ≠ g := fun i h => absurd h (Nat.lt_irrefl _)
    exact (((((((((Kp.refl (· ≠ g) w).alloc _).alloc _).trans hk1).setCell (hnew 3) _).setCell (hnew 4) _).setCell (hnew 5) _).setCell (hnew 6) _).setCell (hnew 7) _)
  clear c0 c1 c2 c3 c4 c5 c6 c7 c8 c9 e0 e1 e2 e3 e4 e5 e6 e7 e8 e9
  rintro w2 ⟨q0, q2, hb2, hB2, hk2⟩
  obtain ⟨c0, c1, c2, c3, c4, c5, c6, c7, c8, c9⟩ := row10 q0
  obtain ⟨d0, d1, d2, d3, d4, d5, d6, d7, d8, d9⟩ := row10 q2
  obtain ⟨f0, f1, f2, f3, f4, f5, f6, f7, f8, f9⟩ := free10 q2
  have hs2 := q2.lt
  go_wp2
  refine bodyPost_ret (v := fval fin rsv op false (fun _ => 0) len (.slice (some ⟨g, 0, none⟩) bs.length c)) (results_cell_row rfl _ _ _ 82 _ (0, 0) _ rfl (put10_blk q2) Tryd.underlying82 rfl size82) rfl ⟨rfl, ⟨cs', put10_far hb2 (by omega)⟩, put10_byt hB2 (by omega), ?_⟩
  exact put10_kp hk2 (fun h => by omega)

/-- A frame whose payload lies in a new block of its own, these bytes; nothing old has turned. -/
structure NewFrame (w w' : World) (fin : Bool) (rsv op : Int) (mk : Bool) (M : Nat → UInt8) (len : Int) (bs : List UInt8) (g : Nat) : Prop where
  blk : ∃ cs, Blk w' g 5 cs
  byt : Byt w' g 0 bs
  kp : Kp (fun _ => True) w w'

set_option maxRecDepth 100000 in
set_option maxHeartbeats 1000000 in
theorem maskFrameWith (w : World) (fin : Bool) (rsv op : Int) (mk : Bool) (M N : Nat → UInt8) (len : Int) (A : Option Addr) (c : Nat) (bs : List UInt8) (hnm : bs.length ≤ 140737488355328) (hrem : Rem w) (hr : Rd w w.heap.size A bs) :
    Calls Tryd.prog 43 #[fval fin rsv op mk M len (.slice A bs.length c), mval N] w fun e w' =>
      ∃ g, e = .returned (fval fin rsv op true N len (.slice (some ⟨g, 0, none⟩) bs.length bs.length)) ∧ NewFrame w w' fin rsv op true N len (laid bs N 0) g := by
  have hmk := run_make_bytes bs.length bs.length (Nat.le_refl _) hnm
  have k4 : ∀ a b c d, Kp (fun _ => True) w ((((w.alloc a).alloc b).alloc c).alloc d) := fun a b c d => ((((Kp.refl _ w).alloc a).alloc b).alloc c).alloc d
  have K4 := hide k4
  clear k4
  go_enter Tryd.func43, Tryd.ntmps43
  go_upto_region 2 with fail
  refine wp_abs (fun w4 => Blk w4 w.heap.size 82 (fcells fin rsv op mk M len (.slice A bs.length c)) ∧ Blk w4 (w.heap.size + 1) 23 (mcells N) ∧ Blk w4 (w.heap.size + 1 + 1) 82 (fcells false 0 0 false (fun _ => 0) 0 (.slice none 0 0)) ∧ Blk w4 (w.heap.size + 1 + 1 + 1) 5 (zrow bs.length) ∧ Kp (fun _ => True) w w4)
    ⟨(((Blk.new w 82 _).alloc _).alloc _).alloc _, ((Blk.new2 w _ 23 _).alloc _).alloc _, (Blk.new3 w _ _ 82 _).alloc _, Blk.new4 w _ _ _ 5 _, unhide K4 _ _ _ _⟩ ?_
  rintro w4 ⟨p0, p1, p2, p3, hk4⟩
  obtain ⟨g, hg⟩ : ∃ g, g = w.heap.size + 1 + 1 + 1 := ⟨_, rfl⟩
  rw [← hg] at p3 ⊢
  have hg1 : w.heap.size + 1 + 1 < g := by omega
  clear hg hmk
  obtain ⟨c0, c1, c2, c3, c4, c5, c6, c7, c8, c9⟩ := row10 p0
  go_upto_region 3 with (with_reducible refine wpList_copy_bytes rfl (.tmp 10) (.tmp 12) rfl g 0 bs.length bs.length rfl A bs.length c rfl w.heap.size bs (hr.kp hk4 (Nat.le_refl _) (fun _ _ => trivial)) rfl (zrow bs.length) p3 bs.length (by omega) (by rw [zrow_size]; omega) ?_; intro w5 cs5 hb5 hu5 hk5)
  refine wp_abs (fun w6 => Blk w6 w.heap.size 82 (fcells fin rsv op mk M len (.slice A bs.length c)) ∧ Blk w6 (w.heap.size + 1) 23 (mcells N) ∧ Blk w6 (w.heap.size + 1 + 1) 82 (fcells false 0 0 false (fun _ => 0) 0 (.slice none 0 0)) ∧ Blk w6 g 5 cs5 ∧ Byt w6 g 0 bs ∧ Kp (fun _ => True) w w6)
    ⟨p0.kp hk5 (show w.heap.size ≠ g by omega), p1.kp hk5 (show w.heap.size + 1 ≠ g by omega), p2.kp hk5 (show w.heap.size + 1 + 1 ≠ g by omega), hb5, hu5.byt hb5, hk4.then_ hk5 (fun i hi _ => by omega)⟩ ?_
  clear p0 p1 p2 p3 hk4 c0 c1 c2 c3 c4 c5 c6 c7 c8 c9 hb5 hu5 hk5
  rintro w6 ⟨p0, p1, p2, p3, hB6, hk6⟩
  have c9 := p0.cell 9
  have f9 := p0.frozen 9
  simp only [List.getElem?_toArray, List.getElem?_cons_succ, List.getElem?_cons_zero] at c9
  go_upto_region 4 with fail
  refine wp_abs (fun w7 => Blk w7 w.heap.size 82 (fcells fin rsv op mk M len (.slice (some ⟨g, 0, none⟩) bs.length bs.length)) ∧ Blk w7 (w.heap.size + 1) 23 (mcells N) ∧ Blk w7 (w.heap.size + 1 + 1) 82 (fcells false 0 0 false (fun _ => 0) 0 (.slice none 0 0)) ∧ Blk w7 g 5 cs5 ∧ Byt w7 g 0 bs ∧ Kp (fun _ => True) w w7)
    ⟨p0.put 9 _, p1.far (p := ⟨w.heap.size, 9, none⟩) (show w.heap.size + 1 ≠ w.heap.size by omega) _, p2.far (p := ⟨w.heap.size, 9, none⟩) (show w.heap.size + 1 + 1 ≠ w.heap.size by omega) _, p3.far (p := ⟨w.heap.size, 9, none⟩) (show g ≠ w.heap.size by omega) _,
      hB6.setCell (p := ⟨w.heap.size, 9, none⟩) (show g ≠ w.heap.size by omega) _, hk6.setCell (p := ⟨w.heap.size, 9, none⟩) (fun h => absurd h (Nat.lt_irrefl _)) _⟩ ?_
  clear p0 p1 p2 p3 hB6 hk6 c9 f9
  rintro w7 ⟨p0, p1, p2, p3, hB7, hk7⟩
  obtain ⟨c0, c1, c2, c3, c4, c5, c6, c7, c8, c9⟩ := row10 p0
  obtain ⟨m0, m1, m2, m3⟩ := mask4 p1
  go_wp2_with fail
  refine (maskInPlace w7 fin rsv op mk M N len g bs.length cs5 bs (Nat.le_refl _) hnm (by omega) (hrem.kp hk7 trivial) p3 hB7).mono ?_
  clear c0 c1 c2 c3 c4 c5 c6 c7 c8 c9 m0 m1 m2 m3
  rintro e w8 ⟨rfl, hw8⟩
  have q2 := p2.kp hw8.kp (show w.heap.size + 1 + 1 ≠ g by omega)
  obtain ⟨d0, d1, d2, d3, d4, d5, d6, d7, d8, d9⟩ := row10 q2
  obtain ⟨f0, f1, f2, f3, f4, f5, f6, f7, f8, f9⟩ := free10 q2
  go_wp2
  refine bodyPost_ret (v := fval fin rsv op true N len (.slice (some ⟨g, 0, none⟩) bs.length bs.length)) (results_cell_row rfl _ _ _ 82 _ (0, 0) _ rfl (put10_blk q2) Tryd.underlying82 rfl size82) rfl ⟨g, rfl, ?_, put10_byt hw8.byt (by omega), put10_kp (hk7.then_ hw8.kp (fun i hi _ => by omega)) (fun h => by omega)⟩
  obtain ⟨cs8, hb8⟩ := hw8.blk
  exact ⟨cs8, put10_far hb8 (by omega)⟩

set_option maxRecDepth 100000 in
set_option maxHeartbeats 1000000 in
theorem unmaskFrame (w : World) (fin : Bool) (rsv op : Int) (mk : Bool) (M : Nat → UInt8) (len : Int) (A : Option Addr) (c : Nat) (bs : List UInt8) (hnm : bs.length ≤ 140737488355328) (hrem : Rem w) (hr : Rd w w.heap.size A bs) :
    Calls Tryd.prog 46 #[fval fin rsv op mk M len (.slice A bs.length c)] w fun e w' =>
      ∃ g, e = .returned (fval fin rsv op false (fun _ => 0) len (.slice (some ⟨g, 0, none⟩) bs.length bs.length)) ∧ NewFrame w w' fin rsv op false (fun _ => 0) len (laid bs M 0) g := by
  have hmk := run_make_bytes bs.length bs.length (Nat.le_refl _) hnm
  have k3 : ∀ a b c, Kp (fun _ => True) w (((w.alloc a).alloc b).alloc c) := fun a b c => (((Kp.refl _ w).alloc a).alloc b).alloc c
  have K3 := hide k3
  clear k3
  go_enter Tryd.func46, Tryd.ntmps46
  go_upto_region 2 with fail
  refine wp_abs (fun w4 => Blk w4 w.heap.size 82 (fcells fin rsv op mk M len (.slice A bs.length c)) ∧ Blk w4 (w.heap.size + 1) 82 (fcells false 0 0 false (fun _ => 0) 0 (.slice none 0 0)) ∧ Blk w4 (w.heap.size + 1 + 1) 5 (zrow bs.length) ∧ Kp (fun _ => True) w w4)
    ⟨((Blk.new w 82 _).alloc _).alloc _, (Blk.new2 w _ 82 _).alloc _, Blk.new3 w _ _ 5 _, unhide K3 _ _ _⟩ ?_
  rintro w4 ⟨p0, p2, p3, hk4⟩
  obtain ⟨g, hg⟩ : ∃ g, g = w.heap.size + 1 + 1 := ⟨_, rfl⟩
  rw [← hg] at p3 ⊢
  have hg1 : w.heap.size + 1 < g := by omega
  clear hg hmk
  obtain ⟨c0, c1, c2, c3, c4, c5, c6, c7, c8, c9⟩ := row10 p0
  go_upto_region 3 with (with_reducible refine wpList_copy_bytes rfl (.tmp 8) (.tmp 10) rfl g 0 bs.length bs.length rfl A bs.length c rfl w.heap.size bs (hr.kp hk4 (Nat.le_refl _) (fun _ _ => trivial)) rfl (zrow bs.length) p3 bs.length (by omega) (by rw [zrow_size]; omega) ?_; intro w5 cs5 hb5 hu5 hk5)
  refine wp_abs (fun w6 => Blk w6 w.heap.size 82 (fcells fin rsv op mk M len (.slice A bs.length c)) ∧ Blk w6 (w.heap.size + 1) 82 (fcells false 0 0 false (fun _ => 0) 0 (.slice none 0 0)) ∧ Blk w6 g 5 cs5 ∧ Byt w6 g 0 bs ∧ Kp (fun _ => True) w w6)
    ⟨p0.kp hk5 (show w.heap.size ≠ g by omega), p2.kp hk5 (show w.heap.size + 1 ≠ g by omega), hb5, hu5.byt hb5, hk4.then_ hk5 (fun i hi _ => by omega)⟩ ?_
  clear p0 p2 p3 hk4 c0 c1 c2 c3 c4 c5 c6 c7 c8 c9 hb5 hu5 hk5
  rintro w6 ⟨p0, p2, p3, hB6, hk6⟩
  have c9 := p0.cell 9
  have f9 := p0.frozen 9
  simp only [List.getElem?_toArray, List.getElem?_cons_succ, List.getElem?_cons_zero] at c9
  go_upto_region 4 with fail
  refine wp_abs (fun w7 => Blk w7 w.heap.size 82 (fcells fin rsv op mk M len (.slice (some ⟨g, 0, none⟩) bs.length bs.length)) ∧ Blk w7 (w.heap.size + 1) 82 (fcells false 0 0 false (fun _ => 0) 0 (.slice none 0 0)) ∧ Blk w7 g 5 cs5 ∧ Byt w7 g 0 bs ∧ Kp (fun _ => True) w w7)
    ⟨p0.put 9 _, p2.far (p := ⟨w.heap.size, 9, none⟩) (show w.heap.size + 1 ≠ w.heap.size by omega) _, p3.far (p := ⟨w.heap.size, 9, none⟩) (show g ≠ w.heap.size by omega) _,
      hB6.setCell (p := ⟨w.heap.size, 9, none⟩) (show g ≠ w.heap.size by omega) _, hk6.setCell (p := ⟨w.heap.size, 9, none⟩) (fun h => absurd h (Nat.lt_irrefl _)) _⟩ ?_
  clear p0 p2 p3 hB6 hk6 c9 f9
  rintro w7 ⟨p0, p2, p3, hB7, hk7⟩
  obtain ⟨c0, c1, c2, c3, c4, c5, c6, c7, c8, c9⟩ := row10 p0
  go_wp2_with fail
  refine (unmaskInPlace w7 fin rsv op mk M len g bs.length cs5 bs (Nat.le_refl _) hnm (by omega) (hrem.kp hk7 trivial) p3 hB7).mono ?_
  clear c0 c1 c2 c3 c4 c5 c6 c7 c8 c9
  rintro e w8 ⟨rfl, hw8⟩
  have q2 := p2.kp hw8.kp (show w.heap.size + 1 ≠ g by omega)
  obtain ⟨d0, d1, d2, d3, d4, d5, d6, d7, d8, d9⟩ := row10 q2
  obtain ⟨f0, f1, f2, f3, f4, f5, f6, f7, f8, f9⟩ := free10 q2
  go_wp2
  refine bodyPost_ret (v := fval fin rsv op false (fun _ => 0) len (.slice (some ⟨g, 0, none⟩) bs.length bs.length)) (results_cell_row rfl _ _ _ 82 _ (0, 0) _ rfl (put10_blk q2) Tryd.underlying82 rfl size82) rfl ⟨g, rfl, ?_, put10_byt hw8.byt (by omega), put10_kp (hk7.then_ hw8.kp (fun i hi _ => by omega)) (fun h => by omega)⟩
  obtain ⟨cs8, hb8⟩ := hw8.blk
  exact ⟨cs8, put10_far hb8 (by omega)⟩
end Go.Proofs.YtechapgchjdhaaaDoor
