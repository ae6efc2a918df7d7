/- impl.ParseFrame: the walk. -/
import Derived.Test.YtechapgchjdhaaaDoorPfr
import Derived.BigRegion
namespace Go.Proofs.YtechapgchjdhaaaDoor
open Go.RowKit

theorem Rd.set9 {w : World} {g b : Nat} {bs : List UInt8} (h : Rd w w.heap.size (some ⟨g, 0, none⟩) bs) (hne : g ≠ b) (v0 v1 v2 v3 v4 v5 v6 v7 v8 : Value) :
    Rd (((((((((w.setCell ⟨b, 0, none⟩ v0).setCell ⟨b, 1, none⟩ v1).setCell ⟨b, 2, none⟩ v2).setCell ⟨b, 3, none⟩ v3).setCell ⟨b, 4, none⟩ v4).setCell ⟨b, 5, none⟩ v5).setCell ⟨b, 6, none⟩ v6).setCell ⟨b, 7, none⟩ v7).setCell ⟨b, 8, none⟩ v8) (((((((((w.setCell ⟨b, 0, none⟩ v0).setCell ⟨b, 1, none⟩ v1).setCell ⟨b, 2, none⟩ v2).setCell ⟨b, 3, none⟩ v3).setCell ⟨b, 4, none⟩ v4).setCell ⟨b, 5, none⟩ v5).setCell ⟨b, 6, none⟩ v6).setCell ⟨b, 7, none⟩ v7).setCell ⟨b, 8, none⟩ v8).heap.size (some ⟨g, 0, none⟩) bs :=
  ((((((((h.set_far (p := ⟨b, 0, none⟩) hne _).set_far (p := ⟨b, 1, none⟩) hne _).set_far (p := ⟨b, 2, none⟩) hne _).set_far (p := ⟨b, 3, none⟩) hne _).set_far (p := ⟨b, 4, none⟩) hne _).set_far (p := ⟨b, 5, none⟩) hne _).set_far (p := ⟨b, 6, none⟩) hne _).set_far (p := ⟨b, 7, none⟩) hne _).set_far (p := ⟨b, 8, none⟩) hne _

theorem Rd.drewS {w : World} {A : Option Addr} {bs : List UInt8} (h : Rd w w.heap.size A bs) : Rd w.drew w.drew.heap.size A bs := h

/-- What ParseFrame gives back. -/
def GotF (w w' : World) (hv : Value) (ps : List UInt8) (k : Nat) (e : Ending) : Prop := ∃ g cap, e = .returned (.tuple #[hv, .slice (some ⟨g, 0, none⟩) ps.length cap, .int .i64 k, .bool true]) ∧ Rd w' w'.heap.size (some ⟨g, 0, none⟩) ps ∧ KT w w'

set_option maxRecDepth 100000 in
set_option maxHeartbeats 1500000 in
theorem implParseFrame (w : World) (A : Option Addr) (c : Nat) (fin : Bool) (r o : Nat) (mk : Bool) (M : Nat → UInt8) (ps rest : List UInt8) (hr : r < 8) (ho : o < 16) (hps : ps.length ≤ 2147483647) (hz : mk = true ∨ M = z4)
    (bs : List UInt8) (hbs : bs = hbytes fin r o mk M ps.length ++ (ps ++ rest)) (hlen : bs.length ≤ 140737488355328) (hrd : Rd w w.heap.size A bs) :
    Calls Tryd.prog 36 #[.slice A bs.length c] w fun e w' => GotF w w' (hval fin r o mk M ps.length) ps rest.length e := by
  have HZ := hide (fun w b1 b2 b3 b4 b5 h1 h h2 h3 h4 h5 hn => c66 w b1 b2 b3 b4 b5 A c fin r o mk M ps rest hr ho hps hz bs hbs hlen h1 h h2 h3 h4 h5 hn)
  clear hbs hr ho hz hlen
  have hcf : ∀ (args : Array Value) (w : World), (callFunc 66 args).run Tryd.prog w = .ok (.enter 66 args) w := fun _ _ => by simp [go_sem]
  have k5 : ∀ a b c d e, KT w (((((w.alloc a).alloc b).alloc c).alloc d).alloc e) := fun a b c d e => (((((KT.refl w).alloc a).alloc b).alloc c).alloc d).alloc e
  have K5 := hide k5
  have HC := hide hcf
  clear k5 hcf
  go_enter Tryd.func36, Tryd.ntmps36
  go_upto_region 1 with fail
  refine wp_abs (fun w1 => Blk w1 w.heap.size 22 #[.slice A bs.length c] ∧ Nine w1 (w.heap.size + 1) 29 ∧ One w1 (w.heap.size + 1 + 1) 22 ∧ One w1 (w.heap.size + 1 + 1 + 1) 3 ∧ One w1 (w.heap.size + 1 + 1 + 1 + 1) 4 ∧ KT w w1)
    ⟨((((Blk.new w 22 _).alloc _).alloc _).alloc _).alloc _, ⟨_, _, _, _, _, _, _, _, _, (((Blk.new2 w _ 29 _).alloc _).alloc _).alloc _⟩, ⟨_, ((Blk.new3 w _ _ 22 _).alloc _).alloc _⟩, ⟨_, (Blk.new4 w _ _ _ 3 _).alloc _⟩, ⟨_, Blk.new5 w _ _ _ _ 4 _⟩, unhide K5 _ _ _ _ _⟩ ?_
  obtain ⟨b1, hb1⟩ : ∃ b, b = w.heap.size := ⟨_, rfl⟩
  obtain ⟨b2, hb2⟩ : ∃ b, b = w.heap.size + 1 := ⟨_, rfl⟩
  obtain ⟨b3, hb3⟩ : ∃ b, b = w.heap.size + 1 + 1 := ⟨_, rfl⟩
  obtain ⟨b4, hb4⟩ : ∃ b, b = w.heap.size + 1 + 1 + 1 := ⟨_, rfl⟩
  obtain ⟨b5, hb5⟩ : ∃ b, b = w.heap.size + 1 + 1 + 1 + 1 := ⟨_, rfl⟩
  rw [← hb5, ← hb4, ← hb3, ← hb2, ← hb1]
  have hl2 : w.heap.size ≤ b2 := by omega
  have hl3 : w.heap.size ≤ b3 := by omega
  have hl4 : w.heap.size ≤ b4 := by omega
  have hl5 : w.heap.size ≤ b5 := by omega
  have n13 : b1 ≠ b3 := by omega
  clear hb1 hb2 hb3 hb4 hb5 K5
  rintro w3 ⟨q1, q2, q3, q4, q5, hk3⟩
  have hlt2 : b2 < w3.heap.size := q2.lt
  have hlt3 : b3 < w3.heap.size := q3.lt
  have hlt4 : b4 < w3.heap.size := q4.lt
  have hlt5 : b5 < w3.heap.size := q5.lt
  go_wp2_with fail
  refine (quietly_kp w3 66 _ (fun i => i ≠ b2 ∧ i ≠ b3 ∧ i ≠ b4 ∧ i ≠ b5) (fun wq => ToldFrame (w3.alloc (.cells #[.bool false] 4)).heap.size wq b2 b3 b4 b5 (hcells fin r o mk M ps.length) ps rest.length) (unhide HC) ⟨by omega, by omega, by omega, by omega⟩
    (fun wq hq => ⟨hq.1.far (p := ⟨w3.heap.size, 0, none⟩) (show b2 ≠ w3.heap.size by omega) _, hq.2.1.set (p := ⟨w3.heap.size, 0, none⟩) (show b3 ≠ w3.heap.size by omega) (by simp) _, hq.2.2.1.far (p := ⟨w3.heap.size, 0, none⟩) (show b4 ≠ w3.heap.size by omega) _, hq.2.2.2.far (p := ⟨w3.heap.size, 0, none⟩) (show b5 ≠ w3.heap.size by omega) _⟩)
    (unhide HZ (w3.alloc (.cells #[.bool false] 4)) b1 b2 b3 b4 b5 (q1.alloc _) (hrd.on (hk3.alloc _)) (q2.on ((KT.refl w3).alloc _)) (q3.on ((KT.refl w3).alloc _)) (q4.on ((KT.refl w3).alloc _)) (q5.on ((KT.refl w3).alloc _)) n13)).mono ?_
  rintro e w4 ⟨rfl, hk4, r2, ⟨g, cap, r3, hlo, hrd⟩, r4, r5⟩
  rw [World.size_alloc] at hlo
  have hgb2 : g ≠ b2 := by omega
  have hgb3 : g ≠ b3 := by omega
  have hgb4 : g ≠ b4 := by omega
  have hgb5 : g ≠ b5 := by omega
  have hk5 : KT w w4 := hk3.then_ hk4 (fun i hi _ => ⟨by omega, by omega, by omega, by omega⟩)
  have n23 := r2.ne_ r3 (by decide)
  have n24 := r2.ne_ r4 (by decide)
  have n25 := r2.ne_ r5 (by decide)
  have n34 := r3.ne_ r4 (by decide)
  have n35 := r3.ne_ r5 (by decide)
  have n45 := r4.ne_ r5 (by decide)
  obtain ⟨d0, d1, d2, d3, d4, d5, d6, d7, d8⟩ := row9 r2
  obtain ⟨f0, f1, f2, f3, f4, f5, f6, f7, f8⟩ := row9f r2
  have c3 := r3.one
  have g3 := r3.frozen 0
  have c4 := r4.one
  have g4 := r4.frozen 0
  have c5 := r5.one
  have g5 := r5.frozen 0
  go_upto_region 2 with fail
  go_region
  all_goals go_wp2_with fail
  all_goals refine bp_abs (fun w5 => Blk w5 b2 29 (hcells fin r o mk M ps.length) ∧ Blk w5 b3 22 #[.slice (some ⟨g, 0, none⟩) ps.length cap] ∧ Blk w5 b4 3 #[.int .i64 rest.length] ∧ Blk w5 b5 4 #[.bool true] ∧ Rd w5 w5.heap.size (some ⟨g, 0, none⟩) ps ∧ KT w w5) ⟨((((put9_blk r2).far (p := ⟨b3, 0, none⟩) n23 _).far (p := ⟨b4, 0, none⟩) n24 _).far (p := ⟨b5, 0, none⟩) n25 _).drew, (((Blk.put (l := [_]) (put9_far r3 (Ne.symm n23)) 0 _).far (p := ⟨b4, 0, none⟩) n34 _).far (p := ⟨b5, 0, none⟩) n35 _).drew, ((Blk.put (l := [_]) ((put9_far r4 (Ne.symm n24)).far (p := ⟨b3, 0, none⟩) (Ne.symm n34) _) 0 _).far (p := ⟨b5, 0, none⟩) n45 _).drew, (Blk.put (l := [_]) (((put9_far r5 (Ne.symm n25)).far (p := ⟨b3, 0, none⟩) (Ne.symm n35) _).far (p := ⟨b4, 0, none⟩) (Ne.symm n45) _) 0 _).drew, (((((hrd.set9 hgb2 _ _ _ _ _ _ _ _ _).set_far (p := ⟨b3, 0, none⟩) hgb3 _).set_far (p := ⟨b4, 0, none⟩) hgb4 _).set_far (p := ⟨b5, 0, none⟩) hgb5 _).drewS), ((((put9_kp hk5 (fun h => absurd h (by show ¬ b2 < w.heap.size; omega))).setCell (p := ⟨b3, 0, none⟩) (fun h => absurd h (by show ¬ b3 < w.heap.size; omega)) _).setCell (p := ⟨b4, 0, none⟩) (fun h => absurd h (by show ¬ b4 < w.heap.size; omega)) _).setCell (p := ⟨b5, 0, none⟩) (fun h => absurd h (by show ¬ b5 < w.heap.size; omega)) _).drew⟩ ?_
  all_goals clear d0 d1 d2 d3 d4 d5 d6 d7 d8 f0 f1 f2 f3 f4 f5 f6 f7 f8 c3 g3 c4 g4 c5 g5
  all_goals rintro w5 ⟨z2, z3, z4', z5, hrd5, k5⟩
  all_goals obtain ⟨d0, d1, d2, d3, d4, d5, d6, d7, d8⟩ := row9 z2
  all_goals have c3 := z3.one
  all_goals have c4 := z4'.one
  all_goals have c5 := z5.one
  all_goals exact bodyPost_ret (v := .tuple #[.agg (hcells fin r o mk M ps.length), .slice (some ⟨g, 0, none⟩) ps.length cap, .int .i64 rest.length, .bool true]) (by simp [results, Tryd.results36, go_sem, d0, d1, d2, d3, d4, d5, d6, d7, d8, c3, c4, c5]) rfl ⟨g, cap, rfl, hrd5, k5⟩

end Go.Proofs.YtechapgchjdhaaaDoor
