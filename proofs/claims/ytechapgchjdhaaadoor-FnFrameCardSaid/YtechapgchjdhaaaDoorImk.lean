/- impl.Mask and impl.Unmask: the walks. -/
import Derived.Test.YtechapgchjdhaaaDoorMkc
namespace Go.Proofs.YtechapgchjdhaaaDoor
open Go.RowKit

/-- The world at the end of a body, known by a few words alone. -/
theorem bp_abs {P : Program} {f : Func} {F : Ending → World → Prop} {e : Exit} {a : Act} {w : World} (R : World → Prop) (h : R w) (k : ∀ w', R w' → bodyPost P f F e a w') : bodyPost P f F e a w := k w h
theorem ToldAt.set {lo : Nat} {w : World} {b3 b4 : Nat} {fin : Bool} {rsv op : Int} {mk : Bool} {M : Nat → UInt8} {len : Int} {bs : List UInt8} (h : ToldAt lo w b3 b4 fin rsv op mk M len bs) {p : Addr} (h3 : b3 ≠ p.block) (h4 : b4 ≠ p.block) (hlo : p.block < lo) (v : Value) : ToldAt lo (w.setCell p v) b3 b4 fin rsv op mk M len bs := by
  obtain ⟨hb3, g, cap, hb4, hg, hr⟩ := h
  refine ⟨hb3.far h3 v, g, cap, hb4.far h4 v, hg, fun hne => ?_⟩
  obtain ⟨g', off, e, hlt, hB⟩ := hr hne
  obtain ⟨rfl, rfl⟩ : g = g' ∧ 0 = off := by
    injection e with e
    injection e with e1 e2
    exact ⟨e1, e2⟩
  exact ⟨g, 0, rfl, by simpa using hlt, hB.setCell (by omega) v⟩

/-- A header and a new slice of these bytes, and nothing old has turned. -/
def GotH (w w' : World) (fin : Bool) (rsv op : Int) (mk : Bool) (M : Nat → UInt8) (len : Int) (bs : List UInt8) (e : Ending) : Prop :=
  ∃ g cap, e = .returned (.tuple #[hval fin rsv op mk M len, .slice (some ⟨g, 0, none⟩) bs.length cap]) ∧ Rd w' w'.heap.size (some ⟨g, 0, none⟩) bs ∧ KT w w'

theorem Blk.new5 (w : World) (o o' o'' o3 : Obj) (t : TypeId) (cs : Array Value) : Blk (((((w.alloc o).alloc o').alloc o'').alloc o3).alloc (.cells cs t)) (w.heap.size + 1 + 1 + 1 + 1) t cs := by
  have := Blk.new ((((w.alloc o).alloc o').alloc o'').alloc o3) t cs
  rwa [World.size_alloc, World.size_alloc, World.size_alloc, World.size_alloc] at this

theorem Nine.lt {w : World} {g : Nat} {t : TypeId} (h : Nine w g t) : g < w.heap.size := by
  obtain ⟨_, _, _, _, _, _, _, _, _, h⟩ := h
  exact h.lt
theorem One.lt {w : World} {g : Nat} {t : TypeId} (h : One w g t) : g < w.heap.size := by
  obtain ⟨_, h⟩ := h
  exact h.lt

theorem Kp.of_new {w w' w'' : World} {b3 b4 : Nat} (h : KT w w') (h3 : w.heap.size ≤ b3) (h4 : w.heap.size ≤ b4) (k : Kp (fun k => k ≠ b3 ∧ k ≠ b4) w' w'') : KT w w'' :=
  h.then_ k (fun i hi _ => ⟨by omega, by omega⟩)

set_option maxRecDepth 100000 in
set_option maxHeartbeats 1000000 in
theorem implMask (w : World) (fin : Bool) (rsv op : Int) (mk : Bool) (M N : Nat → UInt8) (len : Int) (A : Option Addr) (c : Nat) (bs : List UInt8) (hnm : bs.length ≤ 140737488355328) (hrem : Rem w)
    (hr1 : 0 ≤ rsv ∧ rsv ≤ 255) (hr2 : 0 ≤ op ∧ op ≤ 255) (hr : Rd w w.heap.size A bs) :
    Calls Tryd.prog 18 #[hval fin rsv op mk M len, .slice A bs.length c, mval N] w fun e w' => GotH w w' fin rsv op true N len (laid bs N 0) e := by
  have hcf : ∀ (args : Array Value) (w : World), (callFunc 42 args).run Tryd.prog w = .ok (.enter 42 args) w := fun _ _ => by simp [go_sem]
  have k5 : ∀ a b c d e, KT w (((((w.alloc a).alloc b).alloc c).alloc d).alloc e) := fun a b c d e => (((((KT.refl w).alloc a).alloc b).alloc c).alloc d).alloc e
  have K5 := hide k5
  have HC := hide hcf
  clear k5 hcf
  go_enter Tryd.func18, Tryd.ntmps18
  go_upto_region 1 with fail
  refine wp_abs (fun w1 => Blk w1 w.heap.size 29 (hcells fin rsv op mk M len) ∧ Blk w1 (w.heap.size + 1) 22 #[.slice A bs.length c] ∧ Blk w1 (w.heap.size + 1 + 1) 23 (mcells N) ∧ Nine w1 (w.heap.size + 1 + 1 + 1) 29 ∧ One w1 (w.heap.size + 1 + 1 + 1 + 1) 22 ∧ KT w w1)
    ⟨((((Blk.new w 29 _).alloc _).alloc _).alloc _).alloc _, (((Blk.new2 w _ 22 _).alloc _).alloc _).alloc _, ((Blk.new3 w _ _ 23 _).alloc _).alloc _, ⟨_, _, _, _, _, _, _, _, _, (Blk.new4 w _ _ _ 29 _).alloc _⟩, ⟨_, Blk.new5 w _ _ _ _ 22 _⟩, unhide K5 _ _ _ _ _⟩ ?_
  rintro w1 ⟨p0, p1, p2, p3, p4, hk1⟩
  obtain ⟨c0, c1, c2, c3, c4, c5, c6, c7, c8⟩ := row9 p0
  go_wp2_with fail
  refine (given_any w1 fin rsv op mk M len hr1 hr2).mono ?_
  rintro e w2 ⟨rfl, hk2⟩
  clear c0 c1 c2 c3 c4 c5 c6 c7 c8
  go_upto_region 2 with fail
  refine wp_abs (fun w3 => Blk w3 w2.heap.size 78 (wcells fin rsv op mk M len) ∧ Blk w3 (w.heap.size + 1) 22 #[.slice A bs.length c] ∧ Blk w3 (w.heap.size + 1 + 1) 23 (mcells N) ∧ Nine w3 (w.heap.size + 1 + 1 + 1) 29 ∧ One w3 (w.heap.size + 1 + 1 + 1 + 1) 22 ∧ KT w w3)
    ⟨Blk.new w2 78 _, (p1.on hk2).alloc _, (p2.on hk2).alloc _, (p3.on hk2).on ((KT.refl w2).alloc _), (p4.on hk2).on ((KT.refl w2).alloc _), (hk1.trans hk2).alloc _⟩ ?_
  rintro w3 ⟨q0, q1, q2, q3, q4, hk3⟩
  clear p0 p1 p2 p3 p4 hk1 hk2
  obtain ⟨b3, hb3⟩ : ∃ b3, b3 = w.heap.size + 1 + 1 + 1 := ⟨_, rfl⟩
  obtain ⟨b4, hb4⟩ : ∃ b4, b4 = w.heap.size + 1 + 1 + 1 + 1 := ⟨_, rfl⟩
  rw [← hb4] at q4 ⊢
  rw [← hb3] at q3 ⊢
  have hlo3 : w.heap.size ≤ b3 := by omega
  have hlo4 : w.heap.size ≤ b4 := by omega
  have hne : b4 ≠ b3 := by omega
  clear hb3 hb4
  have hb3 : b3 < w3.heap.size := q3.lt
  have hb4 : b4 < w3.heap.size := q4.lt
  go_wp2_with fail
  refine (quietly_kp w3 42 _ (fun k => k ≠ b3 ∧ k ≠ b4) (fun wq => ToldAt (w3.alloc (.cells #[.bool false] 4)).heap.size wq b3 b4 fin rsv op true N len (laid bs N 0)) (unhide HC) ⟨by omega, by omega⟩
    (fun wq hq => hq.set (p := ⟨w3.heap.size, 0, none⟩) (show b3 ≠ w3.heap.size by omega) (show b4 ≠ w3.heap.size by omega) (by simp) _)
    (c42 (w3.alloc (.cells #[.bool false] 4)) _ _ _ b3 b4 fin rsv op mk M N len A c bs hnm (hrem.on (hk3.alloc _)) hr1 hr2 (q0.alloc _) (q1.alloc _) (q2.alloc _) (hr.on (hk3.alloc _)) (q3.on ((KT.refl w3).alloc _)) (q4.on ((KT.refl w3).alloc _)))).mono ?_
  rintro e w4 ⟨rfl, hk4, ⟨r3, g, cap, r4, hlo, hrd⟩⟩
  rw [World.size_alloc] at hlo
  obtain ⟨c0, c1, c2, c3, c4, c5, c6, c7, c8⟩ := row9 r3
  obtain ⟨f0, f1, f2, f3, f4, f5, f6, f7, f8⟩ := Nine.frozen ⟨_, _, _, _, _, _, _, _, _, r3⟩
  have c9 := r4.one
  have f9 := r4.frozen 0
  have hk5 := Kp.of_new hk3 hlo3 hlo4 hk4
  go_wp2
  go_region
  go_wp2
  refine bp_abs (fun w5 => Blk w5 b3 29 (hcells fin rsv op true N len) ∧ Blk w5 b4 22 #[.slice (some ⟨g, 0, none⟩) (laid bs N 0).length cap] ∧ Rd w5 w5.heap.size (some ⟨g, 0, none⟩) (laid bs N 0) ∧ KT w w5) ⟨?_, ?_, ?_, ?_⟩ ?_
  · exact ((put9_blk r3).far (p := ⟨b4, 0, none⟩) (Ne.symm hne) _).drew
  · exact (Blk.put (l := [_]) (put9_far r4 hne) 0 _).drew
  · intro hne'
    obtain ⟨g', off, e, hlt, hB⟩ := hrd hne'
    obtain ⟨rfl, rfl⟩ : g = g' ∧ 0 = off := by
      injection e with e
      injection e with e1 e2
      exact ⟨e1, e2⟩
    refine ⟨g, 0, rfl, ?_, ?_⟩
    · simp only [World.size_drew, World.size_setCell]; exact hlt
    · exact ((put9_byt hB (show g ≠ b3 by omega)).setCell (p := ⟨b4, 0, none⟩) (show g ≠ b4 by omega) _).drew
  · exact ((put9_kp hk5 (fun h => absurd h (by omega))).setCell (p := ⟨b4, 0, none⟩) (fun h => absurd h (by show ¬ b4 < w.heap.size; omega)) _).drew
  clear c0 c1 c2 c3 c4 c5 c6 c7 c8 c9 f0 f1 f2 f3 f4 f5 f6 f7 f8 f9
  rintro w5 ⟨z3, z4, hrd5, hk⟩
  obtain ⟨e0, e1, e2, e3, e4, e5, e6, e7, e8⟩ := row9 z3
  have e9 := Blk.one z4
  refine bodyPost_ret (v := .tuple #[hval fin rsv op true N len, .slice (some ⟨g, 0, none⟩) (laid bs N 0).length cap]) ?_ rfl ⟨g, cap, rfl, hrd5, hk⟩
  simp [results, Tryd.results18, go_sem, e0, e1, e2, e3, e4, e5, e6, e7, e8, e9]
set_option maxRecDepth 100000 in
set_option maxHeartbeats 1000000 in
theorem implUnmask (w : World) (fin : Bool) (rsv op : Int) (mk : Bool) (M : Nat → UInt8) (len : Int) (A : Option Addr) (c : Nat) (bs : List UInt8) (hnm : bs.length ≤ 140737488355328) (hrem : Rem w)
    (hr1 : 0 ≤ rsv ∧ rsv ≤ 255) (hr2 : 0 ≤ op ∧ op ≤ 255) (hr : Rd w w.heap.size A bs) :
    Calls Tryd.prog 19 #[hval fin rsv op mk M len, .slice A bs.length c] w fun e w' => GotH w w' fin rsv op false (fun _ => 0) len (laid bs M 0) e := by
  have hcf : ∀ (args : Array Value) (w : World), (callFunc 45 args).run Tryd.prog w = .ok (.enter 45 args) w := fun _ _ => by simp [go_sem]
  have k5 : ∀ a b c d, KT w ((((w.alloc a).alloc b).alloc c).alloc d) := fun a b c d => ((((KT.refl w).alloc a).alloc b).alloc c).alloc d
  have K5 := hide k5
  have HC := hide hcf
  clear k5 hcf
  go_enter Tryd.func19, Tryd.ntmps19
  go_upto_region 1 with fail
  refine wp_abs (fun w1 => Blk w1 w.heap.size 29 (hcells fin rsv op mk M len) ∧ Blk w1 (w.heap.size + 1) 22 #[.slice A bs.length c] ∧ Nine w1 (w.heap.size + 1 + 1) 29 ∧ One w1 (w.heap.size + 1 + 1 + 1) 22 ∧ KT w w1)
    ⟨(((Blk.new w 29 _).alloc _).alloc _).alloc _, ((Blk.new2 w _ 22 _).alloc _).alloc _, ⟨_, _, _, _, _, _, _, _, _, (Blk.new3 w _ _ 29 _).alloc _⟩, ⟨_, Blk.new4 w _ _ _ 22 _⟩, unhide K5 _ _ _ _⟩ ?_
  rintro w1 ⟨p0, p1, p3, p4, hk1⟩
  obtain ⟨c0, c1, c2, c3, c4, c5, c6, c7, c8⟩ := row9 p0
  go_wp2_with fail
  refine (given_any w1 fin rsv op mk M len hr1 hr2).mono ?_
  rintro e w2 ⟨rfl, hk2⟩
  clear c0 c1 c2 c3 c4 c5 c6 c7 c8
  go_upto_region 2 with fail
  refine wp_abs (fun w3 => Blk w3 w2.heap.size 78 (wcells fin rsv op mk M len) ∧ Blk w3 (w.heap.size + 1) 22 #[.slice A bs.length c] ∧ Nine w3 (w.heap.size + 1 + 1) 29 ∧ One w3 (w.heap.size + 1 + 1 + 1) 22 ∧ KT w w3)
    ⟨Blk.new w2 78 _, (p1.on hk2).alloc _, (p3.on hk2).on ((KT.refl w2).alloc _), (p4.on hk2).on ((KT.refl w2).alloc _), (hk1.trans hk2).alloc _⟩ ?_
  rintro w3 ⟨q0, q1, q3, q4, hk3⟩
  clear p0 p1 p3 p4 hk1 hk2
  obtain ⟨b3, hb3⟩ : ∃ b3, b3 = w.heap.size + 1 + 1 := ⟨_, rfl⟩
  obtain ⟨b4, hb4⟩ : ∃ b4, b4 = w.heap.size + 1 + 1 + 1 := ⟨_, rfl⟩
  rw [← hb4] at q4 ⊢
  rw [← hb3] at q3 ⊢
  have hlo3 : w.heap.size ≤ b3 := by omega
  have hlo4 : w.heap.size ≤ b4 := by omega
  have hne : b4 ≠ b3 := by omega
  clear hb3 hb4
  have hb3 : b3 < w3.heap.size := q3.lt
  have hb4 : b4 < w3.heap.size := q4.lt
  go_wp2_with fail
  refine (quietly_kp w3 45 _ (fun k => k ≠ b3 ∧ k ≠ b4) (fun wq => ToldAt (w3.alloc (.cells #[.bool false] 4)).heap.size wq b3 b4 fin rsv op false (fun _ => 0) len (laid bs M 0)) (unhide HC) ⟨by omega, by omega⟩
    (fun wq hq => hq.set (p := ⟨w3.heap.size, 0, none⟩) (show b3 ≠ w3.heap.size by omega) (show b4 ≠ w3.heap.size by omega) (by simp) _)
    (c45 (w3.alloc (.cells #[.bool false] 4)) _ _ b3 b4 fin rsv op mk M len A c bs hnm (hrem.on (hk3.alloc _)) hr1 hr2 (q0.alloc _) (q1.alloc _) (hr.on (hk3.alloc _)) (q3.on ((KT.refl w3).alloc _)) (q4.on ((KT.refl w3).alloc _)))).mono ?_
  rintro e w4 ⟨rfl, hk4, ⟨r3, g, cap, r4, hlo, hrd⟩⟩
  rw [World.size_alloc] at hlo
  obtain ⟨c0, c1, c2, c3, c4, c5, c6, c7, c8⟩ := row9 r3
  obtain ⟨f0, f1, f2, f3, f4, f5, f6, f7, f8⟩ := Nine.frozen ⟨_, _, _, _, _, _, _, _, _, r3⟩
  have c9 := r4.one
  have f9 := r4.frozen 0
  have hk5 := Kp.of_new hk3 hlo3 hlo4 hk4
  go_wp2
  go_region
  go_wp2
  refine bp_abs (fun w5 => Blk w5 b3 29 (hcells fin rsv op false (fun _ => 0) len) ∧ Blk w5 b4 22 #[.slice (some ⟨g, 0, none⟩) (laid bs M 0).length cap] ∧ Rd w5 w5.heap.size (some ⟨g, 0, none⟩) (laid bs M 0) ∧ KT w w5) ⟨?_, ?_, ?_, ?_⟩ ?_
  · exact ((put9_blk r3).far (p := ⟨b4, 0, none⟩) (Ne.symm hne) _).drew
  · exact (Blk.put (l := [_]) (put9_far r4 hne) 0 _).drew
  · intro hne'
    obtain ⟨g', off, e, hlt, hB⟩ := hrd hne'
    obtain ⟨rfl, rfl⟩ : g = g' ∧ 0 = off := by
      injection e with e
      injection e with e1 e2
      exact ⟨e1, e2⟩
    refine ⟨g, 0, rfl, ?_, ?_⟩
    · simp only [World.size_drew, World.size_setCell]; exact hlt
    · exact ((put9_byt hB (show g ≠ b3 by omega)).setCell (p := ⟨b4, 0, none⟩) (show g ≠ b4 by omega) _).drew
  · exact ((put9_kp hk5 (fun h => absurd h (by omega))).setCell (p := ⟨b4, 0, none⟩) (fun h => absurd h (by show ¬ b4 < w.heap.size; omega)) _).drew
  clear c0 c1 c2 c3 c4 c5 c6 c7 c8 c9 f0 f1 f2 f3 f4 f5 f6 f7 f8 f9
  rintro w5 ⟨z3, z4, hrd5, hk⟩
  obtain ⟨e0, e1, e2, e3, e4, e5, e6, e7, e8⟩ := row9 z3
  have e9 := Blk.one z4
  refine bodyPost_ret (v := .tuple #[hval fin rsv op false (fun _ => 0) len, .slice (some ⟨g, 0, none⟩) (laid bs M 0).length cap]) ?_ rfl ⟨g, cap, rfl, hrd5, hk⟩
  simp [results, Tryd.results19, go_sem, e0, e1, e2, e3, e4, e5, e6, e7, e8, e9]
end Go.Proofs.YtechapgchjdhaaaDoor
