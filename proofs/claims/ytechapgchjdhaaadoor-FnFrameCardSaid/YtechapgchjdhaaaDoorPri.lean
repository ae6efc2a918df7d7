/- impl.ParseHeader: the walks. -/
import Derived.Test.YtechapgchjdhaaaDoorPrs
namespace Go.Proofs.YtechapgchjdhaaaDoor
open Go.RowKit

/-- Three variables: a header, a number, true. -/
def ToldSize (w' : World) (b2 b3 b4 : Nat) (hc : Array Value) (k : Nat) : Prop := Blk w' b2 29 hc ∧ Blk w' b3 3 #[.int .i64 k] ∧ Blk w' b4 4 #[.bool true]
def Kp3 (b2 b3 b4 : Nat) : World → World → Prop := Kp (fun i => i ≠ b2 ∧ i ≠ b3 ∧ i ≠ b4)

set_option maxRecDepth 100000 in
set_option maxHeartbeats 2000000 in
theorem c62 (w : World) (b1 b2 b3 b4 : Nat) (A : Option Addr) (c : Nat) (fin : Bool) (r o : Nat) (mk : Bool) (M : Nat → UInt8) (n : Nat) (rest : List UInt8) (hr : r < 8) (ho : o < 16) (hn : n ≤ 9223372036854775807) (hz : mk = true ∨ M = z4)
    (bs : List UInt8) (hbs : bs = hbytes fin r o mk M n ++ rest) (hlen : bs.length ≤ 140737488355328) (h1 : Blk w b1 22 #[.slice A bs.length c]) (hrd : Rd w w.heap.size A bs) (h2 : Nine w b2 29) (h3 : One w b3 3) (h4 : One w b4 4) :
    Calls Tryd.prog 62 #[.pointer (some ⟨b1, 0, none⟩), .pointer (some ⟨b2, 0, none⟩), .pointer (some ⟨b3, 0, none⟩), .pointer (some ⟨b4, 0, none⟩)] w fun e w' => e = .returned (.tuple #[]) ∧ Kp3 b2 b3 b4 w w' ∧ ToldSize w' b2 b3 b4 (hcells fin r o mk M n) (hbytes fin r o mk M n).length := by
  have HR := hide (fun w g rr h1 h2 => zzReadHeader w g rr fin r o mk M n rest hr ho hn hz bs hbs hlen h1 h2)
  have HT := hide (fun w => told_any w fin r o mk M n (by omega) (by omega))
  have c0 := h1.one
  obtain ⟨k, hk⟩ : ∃ k, k = (hbytes fin r o mk M n).length := ⟨_, rfl⟩
  rw [← hk] at HR ⊢
  clear hk hbs hr ho hn hz
  go_enter Tryd.func62, Tryd.ntmps62
  go_wp2_with fail
  refine (copied_any w A bs.length c bs hrd rfl hlen).mono ?_
  rintro e w1 ⟨g, rr, rfl, hg, hblk, hm, hk1⟩
  have h2' := h2.on hk1
  have h3' := h3.on hk1
  have h4' := h4.on hk1
  clear c0 h1 hrd
  go_wp2_with fail
  refine (unhide HR w1 g rr hblk hm).mono ?_
  rintro e w2 ⟨rfl, hk2⟩
  replace h2' := h2'.on hk2
  replace h3' := h3'.on hk2
  replace h4' := h4'.on hk2
  have k2 := Kp.trans hk1 hk2
  clear hblk hk1 hk2 HR h2 h3 h4
  go_upto_region 1 with fail
  refine wp_abs (fun w3 => Blk w3 w2.heap.size 78 (wcells fin r o mk M n) ∧ Nine w3 b2 29 ∧ One w3 b3 3 ∧ One w3 b4 4 ∧ KT w w3)
    ⟨Blk.new w2 78 _, h2'.on ((KT.refl w2).alloc _), h3'.on ((KT.refl w2).alloc _), h4'.on ((KT.refl w2).alloc _), k2.alloc _⟩ ?_
  obtain ⟨b6, hb6⟩ : ∃ b6, b6 = w2.heap.size := ⟨_, rfl⟩
  rw [← hb6]
  clear hb6 h2' h3' h4' k2
  rintro w3 ⟨q6, h2, h3, h4, k3⟩
  obtain ⟨c0, c1, c2, c3, c4, c5, c6, c7, c8⟩ := row9 q6
  go_wp2_with fail
  refine (unhide HT w3).mono ?_
  rintro e w4 ⟨rfl, hk4⟩
  obtain ⟨a0, a1, a2, a3, a4, a5, a6, a7, a8, h2⟩ := h2.on hk4
  obtain ⟨u3, h3⟩ := h3.on hk4
  obtain ⟨u4, h4⟩ := h4.on hk4
  have k4 := Kp.trans k3 hk4
  have n23 := h2.ne_ h3 (by decide)
  have n24 := h2.ne_ h4 (by decide)
  have n34 := h3.ne_ h4 (by decide)
  clear c0 c1 c2 c3 c4 c5 c6 c7 c8 q6 k3 hk4 HT
  obtain ⟨d0, d1, d2, d3, d4, d5, d6, d7, d8⟩ := row9 h2
  obtain ⟨f0, f1, f2, f3, f4, f5, f6, f7, f8⟩ := row9f h2
  have c3 := h3.one
  have g3 := h3.frozen 0
  have c4 := h4.one
  have g4 := h4.frozen 0
  go_wp2_with fail
  go_end0
  refine ⟨rfl, ?_, ?_, ?_, ?_⟩
  · exact ((put9_kp (k4.mono fun _ _ _ => trivial) (fun _ h => h.1 rfl)).setCell (p := ⟨b3, 0, none⟩) (fun _ h => h.2.1 rfl) _).setCell (p := ⟨b4, 0, none⟩) (fun _ h => h.2.2 rfl) _
  · exact ((put9_blk h2).far (p := ⟨b3, 0, none⟩) n23 _).far (p := ⟨b4, 0, none⟩) n24 _
  · exact (Blk.put (l := [u3]) (put9_far h3 (Ne.symm n23)) 0 _).far (p := ⟨b4, 0, none⟩) n34 _
  · exact Blk.put (l := [u4]) ((put9_far h4 (Ne.symm n24)).far (p := ⟨b3, 0, none⟩) (Ne.symm n34) _) 0 _

set_option maxRecDepth 100000 in
set_option maxHeartbeats 2000000 in
theorem c62_cut (w : World) (b1 b2 b3 b4 : Nat) (A : Option Addr) (c : Nat) (fin : Bool) (r o : Nat) (mk : Bool) (M : Nat → UInt8) (n k : Nat) (hk : k < (hbytes fin r o mk M n).length)
    (bs : List UInt8) (hbs : bs = (hbytes fin r o mk M n).take k) (hlen : bs.length ≤ 140737488355328) (h1 : Blk w b1 22 #[.slice A bs.length c]) (hrd : Rd w w.heap.size A bs) :
    Calls Tryd.prog 62 #[.pointer (some ⟨b1, 0, none⟩), .pointer (some ⟨b2, 0, none⟩), .pointer (some ⟨b3, 0, none⟩), .pointer (some ⟨b4, 0, none⟩)] w fun e w' => e = .returned (.tuple #[]) ∧ KT w w' := by
  have HR := hide (fun w g rr h1 h2 => zzReadHeader_cut w g rr fin r o mk M n k hk bs hbs hlen h1 h2)
  have c0 := h1.one
  clear hk hbs
  go_enter Tryd.func62, Tryd.ntmps62
  go_wp2_with fail
  refine (copied_any w A bs.length c bs hrd rfl hlen).mono ?_
  rintro e w1 ⟨g, rr, rfl, hg, hblk, hm, hk1⟩
  clear c0 h1 hrd
  go_wp2_with fail
  refine (unhide HR w1 g rr hblk hm).mono ?_
  rintro e w2 ⟨fin', r', o', mk', M', n', z, sx, rfl, hk2⟩
  have HK : Hid (∀ x, KT w (w2.alloc x)) := fun x => (Kp.trans hk1 hk2).alloc x
  clear hk1 hk2 hblk
  go_wp2_with fail
  go_end0
  exact ⟨rfl, unhide HK _⟩

set_option maxRecDepth 100000 in
set_option maxHeartbeats 4000000 in
theorem implParse (w : World) (A : Option Addr) (c : Nat) (fin : Bool) (r o : Nat) (mk : Bool) (M : Nat → UInt8) (n : Nat) (rest : List UInt8) (hr : r < 8) (ho : o < 16) (hn : n ≤ 9223372036854775807) (hz : mk = true ∨ M = z4)
    (bs : List UInt8) (hbs : bs = hbytes fin r o mk M n ++ rest) (hlen : bs.length ≤ 140737488355328) (hrd : Rd w w.heap.size A bs) :
    Calls Tryd.prog 34 #[.slice A bs.length c] w fun e w' => e = .returned (.tuple #[hval fin r o mk M n, .int .i64 (hbytes fin r o mk M n).length, .bool true]) ∧ KT w w' := by
  have HZ := hide (fun w b1 b2 b3 b4 h1 h h2 h3 h4 => c62 w b1 b2 b3 b4 A c fin r o mk M n rest hr ho hn hz bs hbs hlen h1 h h2 h3 h4)
  obtain ⟨k, hk⟩ : ∃ k, k = (hbytes fin r o mk M n).length := ⟨_, rfl⟩
  rw [← hk] at HZ ⊢
  clear hk hbs hr ho hn hz hlen
  have hcf : ∀ (args : Array Value) (w : World), (callFunc 62 args).run Tryd.prog w = .ok (.enter 62 args) w := fun _ _ => by simp [go_sem]
  have k4 : ∀ a b c d, KT w ((((w.alloc a).alloc b).alloc c).alloc d) := fun a b c d => ((((KT.refl w).alloc a).alloc b).alloc c).alloc d
  have K4 := hide k4
  have HC := hide hcf
  clear k4 hcf
  go_enter Tryd.func34, Tryd.ntmps34
  go_upto_region 1 with fail
  refine wp_abs (fun w1 => Blk w1 w.heap.size 22 #[.slice A bs.length c] ∧ Nine w1 (w.heap.size + 1) 29 ∧ One w1 (w.heap.size + 1 + 1) 3 ∧ One w1 (w.heap.size + 1 + 1 + 1) 4 ∧ KT w w1)
    ⟨(((Blk.new w 22 _).alloc _).alloc _).alloc _, ⟨_, _, _, _, _, _, _, _, _, ((Blk.new2 w _ 29 _).alloc _).alloc _⟩, ⟨_, (Blk.new3 w _ _ 3 _).alloc _⟩, ⟨_, Blk.new4 w _ _ _ 4 _⟩, unhide K4 _ _ _ _⟩ ?_
  obtain ⟨b1, hb1⟩ : ∃ b, b = w.heap.size := ⟨_, rfl⟩
  obtain ⟨b2, hb2⟩ : ∃ b, b = w.heap.size + 1 := ⟨_, rfl⟩
  obtain ⟨b3, hb3⟩ : ∃ b, b = w.heap.size + 1 + 1 := ⟨_, rfl⟩
  obtain ⟨b4, hb4⟩ : ∃ b, b = w.heap.size + 1 + 1 + 1 := ⟨_, rfl⟩
  rw [← hb4, ← hb3, ← hb2, ← hb1]
  have hl2 : w.heap.size ≤ b2 := by omega
  have hl3 : w.heap.size ≤ b3 := by omega
  have hl4 : w.heap.size ≤ b4 := by omega
  clear hb1 hb2 hb3 hb4 K4
  rintro w3 ⟨q1, q2, q3, q4, hk3⟩
  have hlt2 : b2 < w3.heap.size := q2.lt
  have hlt3 : b3 < w3.heap.size := q3.lt
  have hlt4 : b4 < w3.heap.size := q4.lt
  go_wp2_with fail
  refine (quietly_kp w3 62 _ (fun i => i ≠ b2 ∧ i ≠ b3 ∧ i ≠ b4) (fun wq => ToldSize wq b2 b3 b4 (hcells fin r o mk M n) k) (unhide HC) ⟨by omega, by omega, by omega⟩
    (fun wq hq => ⟨hq.1.far (p := ⟨w3.heap.size, 0, none⟩) (show b2 ≠ w3.heap.size by omega) _, hq.2.1.far (p := ⟨w3.heap.size, 0, none⟩) (show b3 ≠ w3.heap.size by omega) _, hq.2.2.far (p := ⟨w3.heap.size, 0, none⟩) (show b4 ≠ w3.heap.size by omega) _⟩)
    (unhide HZ (w3.alloc (.cells #[.bool false] 4)) b1 b2 b3 b4 (q1.alloc _) (hrd.on (hk3.alloc _)) (q2.on ((KT.refl w3).alloc _)) (q3.on ((KT.refl w3).alloc _)) (q4.on ((KT.refl w3).alloc _)))).mono ?_
  rintro e w4 ⟨rfl, hk4, r2, r3, r4⟩
  have hk5 : KT w w4 := hk3.then_ hk4 (fun i hi _ => ⟨by omega, by omega, by omega⟩)
  have n23 := r2.ne_ r3 (by decide)
  have n24 := r2.ne_ r4 (by decide)
  have n34 := r3.ne_ r4 (by decide)
  obtain ⟨d0, d1, d2, d3, d4, d5, d6, d7, d8⟩ := row9 r2
  obtain ⟨f0, f1, f2, f3, f4, f5, f6, f7, f8⟩ := row9f r2
  have c3 := r3.one
  have g3 := r3.frozen 0
  have c4 := r4.one
  have g4 := r4.frozen 0
  go_upto_region 2 with fail
  go_region
  all_goals go_wp2_with fail
  all_goals refine bp_abs (fun w5 => Blk w5 b2 29 (hcells fin r o mk M n) ∧ Blk w5 b3 3 #[.int .i64 k] ∧ Blk w5 b4 4 #[.bool true] ∧ KT w w5) ⟨(((put9_blk r2).far (p := ⟨b3, 0, none⟩) n23 _).far (p := ⟨b4, 0, none⟩) n24 _).drew, ((Blk.put (l := [_]) (put9_far r3 (Ne.symm n23)) 0 _).far (p := ⟨b4, 0, none⟩) n34 _).drew, (Blk.put (l := [_]) ((put9_far r4 (Ne.symm n24)).far (p := ⟨b3, 0, none⟩) (Ne.symm n34) _) 0 _).drew, (((put9_kp hk5 (fun h => absurd h (by show ¬ b2 < w.heap.size; omega))).setCell (p := ⟨b3, 0, none⟩) (fun h => absurd h (by show ¬ b3 < w.heap.size; omega)) _).setCell (p := ⟨b4, 0, none⟩) (fun h => absurd h (by show ¬ b4 < w.heap.size; omega)) _).drew⟩ ?_
  all_goals clear d0 d1 d2 d3 d4 d5 d6 d7 d8 f0 f1 f2 f3 f4 f5 f6 f7 f8 c3 g3 c4 g4
  all_goals rintro w5 ⟨z2, z3, z4', k5⟩
  all_goals obtain ⟨d0, d1, d2, d3, d4, d5, d6, d7, d8⟩ := row9 z2
  all_goals have c3 := z3.one
  all_goals have c4 := z4'.one
  all_goals exact bodyPost_ret (v := .tuple #[.agg (hcells fin r o mk M n), .int .i64 k, .bool true]) (by simp [results, Tryd.results34, go_sem, d0, d1, d2, d3, d4, d5, d6, d7, d8, c3, c4]) rfl ⟨rfl, k5⟩

set_option maxRecDepth 100000 in
set_option maxHeartbeats 4000000 in
theorem implParse_cut (w : World) (A : Option Addr) (c : Nat) (fin : Bool) (r o : Nat) (mk : Bool) (M : Nat → UInt8) (n k : Nat) (hk : k < (hbytes fin r o mk M n).length)
    (bs : List UInt8) (hbs : bs = (hbytes fin r o mk M n).take k) (hlen : bs.length ≤ 140737488355328) (hrd : Rd w w.heap.size A bs) :
    Calls Tryd.prog 34 #[.slice A bs.length c] w fun e w' => e = .returned (.tuple #[hval false 0 0 false z4 0, .int .i64 0, .bool false]) ∧ KT w w' := by
  have HZ := hide (fun w b1 b2 b3 b4 h1 h => c62_cut w b1 b2 b3 b4 A c fin r o mk M n k hk bs hbs hlen h1 h)
  clear hk hbs hlen
  have hcf : ∀ (args : Array Value) (w : World), (callFunc 62 args).run Tryd.prog w = .ok (.enter 62 args) w := fun _ _ => by simp [go_sem]
  have k4 : ∀ a b c d, KT w ((((w.alloc a).alloc b).alloc c).alloc d) := fun a b c d => ((((KT.refl w).alloc a).alloc b).alloc c).alloc d
  have K4 := hide k4
  have HC := hide hcf
  clear k4 hcf
  go_enter Tryd.func34, Tryd.ntmps34
  go_upto_region 1 with fail
  refine wp_abs (fun w1 => Blk w1 w.heap.size 22 #[.slice A bs.length c] ∧ Blk w1 (w.heap.size + 1) 29 (hcells false 0 0 false z4 0) ∧ Blk w1 (w.heap.size + 1 + 1) 3 #[.int .i64 0] ∧ Blk w1 (w.heap.size + 1 + 1 + 1) 4 #[.bool false] ∧ KT w w1)
    ⟨(((Blk.new w 22 _).alloc _).alloc _).alloc _, ((Blk.new2 w _ 29 _).alloc _).alloc _, (Blk.new3 w _ _ 3 _).alloc _, Blk.new4 w _ _ _ 4 _, unhide K4 _ _ _ _⟩ ?_
  obtain ⟨b1, hb1⟩ : ∃ b, b = w.heap.size := ⟨_, rfl⟩
  obtain ⟨b2, hb2⟩ : ∃ b, b = w.heap.size + 1 := ⟨_, rfl⟩
  obtain ⟨b3, hb3⟩ : ∃ b, b = w.heap.size + 1 + 1 := ⟨_, rfl⟩
  obtain ⟨b4, hb4⟩ : ∃ b, b = w.heap.size + 1 + 1 + 1 := ⟨_, rfl⟩
  rw [← hb4, ← hb3, ← hb2, ← hb1]
  have hl2 : w.heap.size ≤ b2 := by omega
  have hl3 : w.heap.size ≤ b3 := by omega
  have hl4 : w.heap.size ≤ b4 := by omega
  clear hb1 hb2 hb3 hb4 K4
  rintro w3 ⟨q1, q2, q3, q4, hk3⟩
  have hlt2 : b2 < w3.heap.size := q2.lt
  have hlt3 : b3 < w3.heap.size := q3.lt
  have hlt4 : b4 < w3.heap.size := q4.lt
  go_wp2_with fail
  refine (quietly_kp w3 62 _ (fun _ => True) (fun _ => True) (unhide HC) trivial (fun _ _ => trivial)
    ((unhide HZ (w3.alloc (.cells #[.bool false] 4)) b1 b2 b3 b4 (q1.alloc _) (hrd.on (hk3.alloc _))).mono fun _ _ h => ⟨h.1, h.2, trivial⟩)).mono ?_
  rintro e w4 ⟨rfl, hk4, _⟩
  have hk5 : KT w w4 := Kp.trans hk3 hk4
  have r2 := q2.on hk4
  have r3 := q3.on hk4
  have r4 := q4.on hk4
  have n23 := r2.ne_ r3 (by decide)
  have n24 := r2.ne_ r4 (by decide)
  have n34 := r3.ne_ r4 (by decide)
  obtain ⟨d0, d1, d2, d3, d4, d5, d6, d7, d8⟩ := row9 r2
  obtain ⟨f0, f1, f2, f3, f4, f5, f6, f7, f8⟩ := row9f r2
  have c3 := r3.one
  have g3 := r3.frozen 0
  have c4 := r4.one
  have g4 := r4.frozen 0
  go_upto_region 2 with fail
  go_region
  all_goals go_wp2_with fail
  all_goals refine bp_abs (fun w5 => Blk w5 b2 29 (hcells false 0 0 false z4 0) ∧ Blk w5 b3 3 #[.int .i64 0] ∧ Blk w5 b4 4 #[.bool false] ∧ KT w w5) ⟨(((put9_blk r2).far (p := ⟨b3, 0, none⟩) n23 _).far (p := ⟨b4, 0, none⟩) n24 _).drew, ((Blk.put (l := [_]) (put9_far r3 (Ne.symm n23)) 0 _).far (p := ⟨b4, 0, none⟩) n34 _).drew, (Blk.put (l := [_]) ((put9_far r4 (Ne.symm n24)).far (p := ⟨b3, 0, none⟩) (Ne.symm n34) _) 0 _).drew, (((put9_kp hk5 (fun h => absurd h (by show ¬ b2 < w.heap.size; omega))).setCell (p := ⟨b3, 0, none⟩) (fun h => absurd h (by show ¬ b3 < w.heap.size; omega)) _).setCell (p := ⟨b4, 0, none⟩) (fun h => absurd h (by show ¬ b4 < w.heap.size; omega)) _).drew⟩ ?_
  all_goals clear d0 d1 d2 d3 d4 d5 d6 d7 d8 f0 f1 f2 f3 f4 f5 f6 f7 f8 c3 g3 c4 g4
  all_goals rintro w5 ⟨z2, z3, z4', k5⟩
  all_goals obtain ⟨d0, d1, d2, d3, d4, d5, d6, d7, d8⟩ := row9 z2
  all_goals have c3 := z3.one
  all_goals have c4 := z4'.one
  all_goals exact bodyPost_ret (v := .tuple #[.agg (hcells false 0 0 false z4 0), .int .i64 0, .bool false]) (by simp [results, Tryd.results34, go_sem, d0, d1, d2, d3, d4, d5, d6, d7, d8, c3, c4]) rfl ⟨rfl, k5⟩

end Go.Proofs.YtechapgchjdhaaaDoor
