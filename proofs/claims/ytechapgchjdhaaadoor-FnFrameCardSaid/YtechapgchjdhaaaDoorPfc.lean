/- impl.ParseFrame, of cut bytes: the walk. -/
import Derived.Test.YtechapgchjdhaaaDoorPfi
namespace Go.Proofs.YtechapgchjdhaaaDoor
open Go.RowKit

set_option maxRecDepth 100000 in
set_option maxHeartbeats 1500000 in
theorem implParseFrame_cut (w : World) (A : Option Addr) (c : Nat) (fin : Bool) (r o : Nat) (mk : Bool) (M : Nat → UInt8) (ps : List UInt8) (k : Nat) (hr : r < 8) (ho : o < 16) (hps : ps.length ≤ 2147483647) (hz : mk = true ∨ M = z4) (hk : k < (hbytes fin r o mk M ps.length ++ ps).length)
    (bs : List UInt8) (hbs : bs = (hbytes fin r o mk M ps.length ++ ps).take k) (hlen : bs.length ≤ 140737488355328) (hrd : Rd w w.heap.size A bs) :
    Calls Tryd.prog 36 #[.slice A bs.length c] w fun e w' => e = .returned (.tuple #[hval false 0 0 false z4 0, .slice none 0 0, .int .i64 0, .bool false]) ∧ KT w w' := by
  have HZ := hide (fun w b1 b2 b3 b4 b5 h1 h => c66_cut w b1 b2 b3 b4 b5 A c fin r o mk M ps k hr ho hps hz hk bs hbs hlen h1 h)
  clear hk hbs hlen hr ho hz
  have hcf : ∀ (args : Array Value) (w : World), (callFunc 66 args).run Tryd.prog w = .ok (.enter 66 args) w := fun _ _ => by simp [go_sem]
  have k5 : ∀ a b c d e, KT w (((((w.alloc a).alloc b).alloc c).alloc d).alloc e) := fun a b c d e => (((((KT.refl w).alloc a).alloc b).alloc c).alloc d).alloc e
  have K5 := hide k5
  have HC := hide hcf
  clear k5 hcf
  go_enter Tryd.func36, Tryd.ntmps36
  go_upto_region 1 with fail
  refine wp_abs (fun w1 => Blk w1 w.heap.size 22 #[.slice A bs.length c] ∧ Blk w1 (w.heap.size + 1) 29 (hcells false 0 0 false z4 0) ∧ Blk w1 (w.heap.size + 1 + 1) 22 #[.slice none 0 0] ∧ Blk w1 (w.heap.size + 1 + 1 + 1) 3 #[.int .i64 0] ∧ Blk w1 (w.heap.size + 1 + 1 + 1 + 1) 4 #[.bool false] ∧ KT w w1)
    ⟨((((Blk.new w 22 _).alloc _).alloc _).alloc _).alloc _, (((Blk.new2 w _ 29 _).alloc _).alloc _).alloc _, ((Blk.new3 w _ _ 22 _).alloc _).alloc _, (Blk.new4 w _ _ _ 3 _).alloc _, Blk.new5 w _ _ _ _ 4 _, unhide K5 _ _ _ _ _⟩ ?_
  obtain ⟨b1, hb1⟩ : ∃ b, b = w.heap.size := ⟨_, rfl⟩
  obtain ⟨b2, hb2⟩ : ∃ b, b = w.heap.size + 1 := ⟨_, rfl⟩
  obtain ⟨b3, hb3⟩ : ∃ b, b = w.heap.size + 1 + 1 := ⟨_, rfl⟩
  obtain ⟨b4, hb4⟩ : ∃ b, b = w.heap.size + 1 + 1 + 1 := ⟨_, rfl⟩
  obtain ⟨b5, hb5⟩ : ∃ b, b = w.heap.size + 1 + 1 + 1 + 1 := ⟨_, rfl⟩
  rw [← hb5, ← hb4, ← hb3, ← hb2, ← hb1]
  have hl2 : w.heap.size ≤ b2 := by omega
  have hl3 : w.heap.size ≤ b3 := by omega
  have hl4 : w.heap.size ≤ b4 := by omega
  have hl5 : w.heap.size ≤ b5 := by omega
  have n13 : b1 ≠ b3 := by omega
  clear hb1 hb2 hb3 hb4 hb5 K5
  rintro w3 ⟨q1, q2, q3, q4, q5, hk3⟩
  have hlt2 : b2 < w3.heap.size := q2.lt
  have hlt3 : b3 < w3.heap.size := q3.lt
  have hlt4 : b4 < w3.heap.size := q4.lt
  have hlt5 : b5 < w3.heap.size := q5.lt
  go_wp2_with fail
  refine (quietly_kp w3 66 _ (fun _ => True) (fun _ => True) (unhide HC) trivial (fun _ _ => trivial)
    ((unhide HZ (w3.alloc (.cells #[.bool false] 4)) b1 b2 b3 b4 b5 (q1.alloc _) (hrd.on (hk3.alloc _))).mono fun _ _ h => ⟨h.1, h.2, trivial⟩)).mono ?_
  rintro e w4 ⟨rfl, hk4, _⟩
  have hk5 : KT w w4 := Kp.trans hk3 hk4
  have r2 := q2.on hk4
  have r3 := q3.on hk4
  have r4 := q4.on hk4
  have r5 := q5.on hk4
  have n23 := r2.ne_ r3 (by decide)
  have n24 := r2.ne_ r4 (by decide)
  have n25 := r2.ne_ r5 (by decide)
  have n34 := r3.ne_ r4 (by decide)
  have n35 := r3.ne_ r5 (by decide)
  have n45 := r4.ne_ r5 (by decide)
  obtain ⟨d0, d1, d2, d3, d4, d5, d6, d7, d8⟩ := row9 r2
  obtain ⟨f0, f1, f2, f3, f4, f5, f6, f7, f8⟩ := row9f r2
  have c3 := r3.one
  have g3 := r3.frozen 0
  have c4 := r4.one
  have g4 := r4.frozen 0
  have c5 := r5.one
  have g5 := r5.frozen 0
  go_upto_region 2 with fail
  go_region
  all_goals go_wp2_with fail
  all_goals refine bp_abs (fun w5 => Blk w5 b2 29 (hcells false 0 0 false z4 0) ∧ Blk w5 b3 22 #[.slice none 0 0] ∧ Blk w5 b4 3 #[.int .i64 0] ∧ Blk w5 b5 4 #[.bool false] ∧ KT w w5) ⟨((((put9_blk r2).far (p := ⟨b3, 0, none⟩) n23 _).far (p := ⟨b4, 0, none⟩) n24 _).far (p := ⟨b5, 0, none⟩) n25 _).drew, (((Blk.put (l := [_]) (put9_far r3 (Ne.symm n23)) 0 _).far (p := ⟨b4, 0, none⟩) n34 _).far (p := ⟨b5, 0, none⟩) n35 _).drew, ((Blk.put (l := [_]) ((put9_far r4 (Ne.symm n24)).far (p := ⟨b3, 0, none⟩) (Ne.symm n34) _) 0 _).far (p := ⟨b5, 0, none⟩) n45 _).drew, (Blk.put (l := [_]) (((put9_far r5 (Ne.symm n25)).far (p := ⟨b3, 0, none⟩) (Ne.symm n35) _).far (p := ⟨b4, 0, none⟩) (Ne.symm n45) _) 0 _).drew, ((((put9_kp hk5 (fun h => absurd h (by show ¬ b2 < w.heap.size; omega))).setCell (p := ⟨b3, 0, none⟩) (fun h => absurd h (by show ¬ b3 < w.heap.size; omega)) _).setCell (p := ⟨b4, 0, none⟩) (fun h => absurd h (by show ¬ b4 < w.heap.size; omega)) _).setCell (p := ⟨b5, 0, none⟩) (fun h => absurd h (by show ¬ b5 < w.heap.size; omega)) _).drew⟩ ?_
  all_goals clear d0 d1 d2 d3 d4 d5 d6 d7 d8 f0 f1 f2 f3 f4 f5 f6 f7 f8 c3 g3 c4 g4 c5 g5
  all_goals rintro w5 ⟨z2, z3, z4', z5, k5⟩
  all_goals obtain ⟨d0, d1, d2, d3, d4, d5, d6, d7, d8⟩ := row9 z2
  all_goals have c3 := z3.one
  all_goals have c4 := z4'.one
  all_goals have c5 := z5.one
  all_goals exact bodyPost_ret (v := .tuple #[.agg (hcells false 0 0 false z4 0), .slice none 0 0, .int .i64 0, .bool false]) (by simp [results, Tryd.results36, go_sem, d0, d1, d2, d3, d4, d5, d6, d7, d8, c3, c4, c5]) rfl ⟨rfl, k5⟩
end Go.Proofs.YtechapgchjdhaaaDoor
