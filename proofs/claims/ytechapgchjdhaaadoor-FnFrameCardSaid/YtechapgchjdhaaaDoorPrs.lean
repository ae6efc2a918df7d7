/- ws.ZZReadHeader, impl.ParseHeader: the walks. -/
import Derived.Test.YtechapgchjdhaaaDoorRhc
namespace Go.Proofs.YtechapgchjdhaaaDoor
open Go.RowKit

theorem Fresh.bufR {w : World} {g B : Nat} {bs : List UInt8} {rest : List Value} {L : Nat} (hb : Blk w B 149 #[.slice (some ⟨g, 0, none⟩) bs.length (bs.length + rest.length)]) (h : Blk w g 5 (bs.map bv ++ rest).toArray) (hm : bs.length + rest.length ≤ maxLen) (hL : g < L) : BufR w B L bs :=
  ⟨_, _, hb, Rd.of_byt (Blk.byt (pre := []) rfl h) hL, by omega, hm⟩

set_option maxRecDepth 100000 in
set_option maxHeartbeats 2000000 in
theorem zzReadHeader (w : World) (g : Nat) (rr : List Value) (fin : Bool) (r o : Nat) (mk : Bool) (M : Nat → UInt8) (n : Nat) (rest : List UInt8) (hr : r < 8) (ho : o < 16) (hn : n ≤ 9223372036854775807) (hz : mk = true ∨ M = z4)
    (bs : List UInt8) (hbs : bs = hbytes fin r o mk M n ++ rest) (hlen : bs.length ≤ 140737488355328) (hb : Blk w g 5 (bs.map bv ++ rr).toArray) (hm : bs.length + rr.length ≤ maxLen) :
    Calls Tryd.prog 63 #[.slice (some ⟨g, 0, none⟩) bs.length (bs.length + rr.length)] w fun e w' => e = .returned (.tuple #[wval fin r o mk M n, .int .i64 (hbytes fin r o mk M n).length, .nilIface]) ∧ KT w w' := by
  have hgl := hb.lt
  have hle : bs.length = (hbytes fin r o mk M n).length + rest.length := by rw [hbs, List.length_append]
  have HR : Hid (∀ w B L, BufR w B L bs → L ≤ B → L ≤ w.heap.size → Calls Tryd.prog 90 #[rdr B] w fun e w' => NewHdr w w' B L (wval fin r o mk M n) rest e) := fun w B L h h1 h2 => readHeader w B L fin r o mk M n rest hr ho hn hz (by rw [← hbs]; exact h) h1 h2
  obtain ⟨k, hk⟩ : ∃ k, k = (hbytes fin r o mk M n).length := ⟨_, rfl⟩
  rw [← hk] at hle ⊢
  have HLE := hide hle
  clear hle hk hbs hr ho hn hz
  go_enter Tryd.func63, Tryd.ntmps63
  go_upto_region 1 with fail
  refine wp_abs (fun w1 => Nine w1 w.heap.size 78 ∧ Blk w1 g 5 (bs.map bv ++ rr).toArray ∧ KT w w1) ⟨⟨_, _, _, _, _, _, _, _, _, Blk.new w 78 _⟩, hb.alloc _, (KT.refl w).alloc _⟩ ?_
  obtain ⟨b2, hb2⟩ : ∃ b2, b2 = w.heap.size := ⟨_, rfl⟩
  rw [← hb2]
  have hb2lo : w.heap.size ≤ b2 := by omega
  clear hb hb2
  rintro w1 ⟨p2, hb, hk1⟩
  go_wp2_with fail
  refine (newBuffer w1 (some ⟨g, 0, none⟩) bs.length (bs.length + rr.length)).mono ?_
  rintro e w2 ⟨rfl, hB, hk2⟩
  have hs1 := hk1.size
  have hp1 := p2.lt
  obtain ⟨B, hBe⟩ : ∃ B, B = w1.heap.size := ⟨_, rfl⟩
  rw [← hBe] at hB ⊢
  have hBR : BufR w2 B w.heap.size bs := Fresh.bufR hB (hb.on hk2) hm hgl
  have hBw : w.heap.size ≤ B := by omega
  have hb2B : b2 ≠ B := by omega
  have hs2 := hk2.size
  replace p2 := p2.on hk2
  have k2 := hk1.trans hk2
  have hw2 : w.heap.size ≤ w2.heap.size := by omega
  clear hBe hb hB hk1 hk2 hp1 hs1 hs2
  go_wp2_with fail
  refine (unhide HR w2 B w.heap.size hBR hBw hw2).mono ?_
  rintro e w3 ⟨rfl, hb3, hk3⟩
  obtain ⟨a0, a1, a2, a3, a4, a5, a6, a7, a8, p2⟩ := p2
  have p3 := p2.kp hk3 hb2B
  have k3 : KT w w3 := k2.then_ hk3 (fun i hi _ => by omega)
  have hb2lt := p3.lt
  have hw3 : w.heap.size ≤ w3.heap.size := k3.size
  clear hk3 k2 p2 hBR HR
  go_upto_region 3 with fail
  refine wp_abs (fun w4 => Blk w4 w3.heap.size 78 (wcells fin r o mk M n) ∧ Blk w4 b2 78 #[a0, a1, a2, a3, a4, a5, a6, a7, a8] ∧ BufR w4 B w.heap.size rest ∧ KT w w4)
    ⟨Blk.new w3 78 _, p3.alloc _, hb3.on ((KT.refl w3).alloc _) trivial (fun _ _ => trivial) hw3, k3.alloc _⟩ ?_
  obtain ⟨b6, hb6⟩ : ∃ b6, b6 = w3.heap.size := ⟨_, rfl⟩
  rw [← hb6]
  have hb26 : b2 ≠ b6 := by omega
  clear hb6 p3 hb3 k3
  rintro w4 ⟨q6, q2, hb4, k4⟩
  obtain ⟨c0, c1, c2, c3, c4, c5, c6, c7, c8⟩ := row9 q6
  obtain ⟨d0, d1, d2, d3, d4, d5, d6, d7, d8⟩ := row9 q2
  obtain ⟨f0, f1, f2, f3, f4, f5, f6, f7, f8⟩ := row9f q2
  have hl2 : rest.length ≤ 140737488355328 := by have := unhide HLE; omega
  have hkk : IntKind.i64.wrap ((bs.length : Int) - (rest.length : Int)) = k := by have := unhide HLE; simp [IntKind.wrap, IntKind.bits, IntKind.signed]; omega
  have HL := hide (bufLen w4.drew B w.heap.size rest hb4)
  go_region_with ((with_reducible refine (unhide HL).mono ?_); rintro e w5 ⟨rfl, rfl⟩)
  all_goals go_wp2_with fail
  all_goals refine bp_abs (fun w5 => Blk w5 b2 78 (wcells fin r o mk M n) ∧ KT w w5) ⟨(put9_blk q2).drew, (put9_kp k4 (fun h => absurd h (by show ¬ b2 < w.heap.size; omega))).drew⟩ ?_
  all_goals clear c0 c1 c2 c3 c4 c5 c6 c7 c8 d0 d1 d2 d3 d4 d5 d6 d7 d8 f0 f1 f2 f3 f4 f5 f6 f7 f8 q6 q2 k4 HL
  all_goals rintro w5 ⟨z2, k5⟩
  all_goals obtain ⟨c0, c1, c2, c3, c4, c5, c6, c7, c8⟩ := row9 z2
  all_goals exact bodyPost_ret (v := .tuple #[wval fin r o mk M n, .int .i64 k, .nilIface]) (by simp [results, Tryd.results63, go_sem, c0, c1, c2, c3, c4, c5, c6, c7, c8, hkk]) rfl ⟨rfl, k5⟩
/-- What ZZReadHeader gives back where the bytes end too early. -/
def CutZ (w w' : World) (e : Ending) : Prop := ∃ (fin : Bool) (r o : Int) (mk : Bool) (M : Nat → UInt8) (len z : Int) (s : ByteArray), e = .returned (.tuple #[wval fin r o mk M len, .int .i64 z, .iface 143 (.string s)]) ∧ KT w w'

set_option maxRecDepth 100000 in
set_option maxHeartbeats 2000000 in
theorem zzReadHeader_cut (w : World) (g : Nat) (rr : List Value) (fin : Bool) (r o : Nat) (mk : Bool) (M : Nat → UInt8) (n k : Nat) (hk : k < (hbytes fin r o mk M n).length)
    (bs : List UInt8) (hbs : bs = (hbytes fin r o mk M n).take k) (hlen : bs.length ≤ 140737488355328) (hb : Blk w g 5 (bs.map bv ++ rr).toArray) (hm : bs.length + rr.length ≤ maxLen) :
    Calls Tryd.prog 63 #[.slice (some ⟨g, 0, none⟩) bs.length (bs.length + rr.length)] w fun e w' => CutZ w w' e := by
  have hgl := hb.lt
  have HR : Hid (∀ w B L, BufR w B L bs → L ≤ B → L ≤ w.heap.size → Calls Tryd.prog 90 #[rdr B] w fun e w' => CutH w w' B L e) := fun w B L h h1 h2 => readHeader_cut w B L fin r o mk M n k hk (by rw [← hbs]; exact h) h1 h2
  clear hk hbs
  go_enter Tryd.func63, Tryd.ntmps63
  go_upto_region 1 with fail
  refine wp_abs (fun w1 => Nine w1 w.heap.size 78 ∧ Blk w1 g 5 (bs.map bv ++ rr).toArray ∧ KT w w1) ⟨⟨_, _, _, _, _, _, _, _, _, Blk.new w 78 _⟩, hb.alloc _, (KT.refl w).alloc _⟩ ?_
  obtain ⟨b2, hb2⟩ : ∃ b2, b2 = w.heap.size := ⟨_, rfl⟩
  rw [← hb2]
  have hb2lo : w.heap.size ≤ b2 := by omega
  clear hb hb2
  rintro w1 ⟨p2, hb, hk1⟩
  go_wp2_with fail
  refine (newBuffer w1 (some ⟨g, 0, none⟩) bs.length (bs.length + rr.length)).mono ?_
  rintro e w2 ⟨rfl, hB, hk2⟩
  have hs1 := hk1.size
  have hp1 := p2.lt
  obtain ⟨B, hBe⟩ : ∃ B, B = w1.heap.size := ⟨_, rfl⟩
  rw [← hBe] at hB ⊢
  have hBR : BufR w2 B w.heap.size bs := Fresh.bufR hB (hb.on hk2) hm hgl
  have hBw : w.heap.size ≤ B := by omega
  have hb2B : b2 ≠ B := by omega
  have hs2 := hk2.size
  replace p2 := p2.on hk2
  have k2 := hk1.trans hk2
  have hw2 : w.heap.size ≤ w2.heap.size := by omega
  clear hBe hb hB hk1 hk2 hp1 hs1 hs2
  go_wp2_with fail
  refine (unhide HR w2 B w.heap.size hBR hBw hw2).mono ?_
  rintro e w3 ⟨fin', r', o', mk', M', n', sx, rest, rfl, hb3, hk3⟩
  obtain ⟨a0, a1, a2, a3, a4, a5, a6, a7, a8, p2⟩ := p2
  have p3 := p2.kp hk3 hb2B
  have k3 : KT w w3 := k2.then_ hk3 (fun i hi _ => by omega)
  have hb2lt := p3.lt
  have hw3 : w.heap.size ≤ w3.heap.size := k3.size
  clear hk3 k2 p2 hBR HR
  go_upto_region 3 with fail
  refine wp_abs (fun w4 => Blk w4 w3.heap.size 78 (wcells fin' r' o' mk' M' n') ∧ Blk w4 b2 78 #[a0, a1, a2, a3, a4, a5, a6, a7, a8] ∧ BufR w4 B w.heap.size rest ∧ KT w w4)
    ⟨Blk.new w3 78 _, p3.alloc _, hb3.on ((KT.refl w3).alloc _) trivial (fun _ _ => trivial) hw3, k3.alloc _⟩ ?_
  obtain ⟨b6, hb6⟩ : ∃ b6, b6 = w3.heap.size := ⟨_, rfl⟩
  rw [← hb6]
  have hb26 : b2 ≠ b6 := by omega
  clear hb6 p3 hb3 k3
  rintro w4 ⟨q6, q2, hb4, k4⟩
  obtain ⟨c0, c1, c2, c3, c4, c5, c6, c7, c8⟩ := row9 q6
  obtain ⟨d0, d1, d2, d3, d4, d5, d6, d7, d8⟩ := row9 q2
  obtain ⟨f0, f1, f2, f3, f4, f5, f6, f7, f8⟩ := row9f q2
  have HL := hide (bufLen w4.drew B w.heap.size rest hb4)
  go_region_with ((with_reducible refine (unhide HL).mono ?_); rintro e w5 ⟨rfl, rfl⟩)
  all_goals go_wp2_with fail
  all_goals refine bp_abs (fun w5 => Blk w5 b2 78 (wcells fin' r' o' mk' M' n') ∧ KT w w5) ⟨(put9_blk q2).drew, (put9_kp k4 (fun h => absurd h (by show ¬ b2 < w.heap.size; omega))).drew⟩ ?_
  all_goals clear c0 c1 c2 c3 c4 c5 c6 c7 c8 d0 d1 d2 d3 d4 d5 d6 d7 d8 f0 f1 f2 f3 f4 f5 f6 f7 f8 q6 q2 k4 HL
  all_goals rintro w5 ⟨z2, k5⟩
  all_goals obtain ⟨c0, c1, c2, c3, c4, c5, c6, c7, c8⟩ := row9 z2
  all_goals exact bodyPost_ret (v := .tuple #[wval fin' r' o' mk' M' n', .int .i64 (IntKind.i64.wrap ((bs.length : Int) - (rest.length : Int))), .iface 143 (.string sx)]) (by simp [results, Tryd.results63, go_sem, c0, c1, c2, c3, c4, c5, c6, c7, c8]) rfl ⟨_, _, _, _, _, _, _, _, rfl, k5⟩
end Go.Proofs.YtechapgchjdhaaaDoor
