/- ws.ZZReadFrame: the walks. -/
import Derived.Test.YtechapgchjdhaaaDoorRfr
namespace Go.Proofs.YtechapgchjdhaaaDoor
open Go.RowKit

def Ten (w : World) (g : Nat) (t : TypeId) : Prop := ∃ v0 v1 v2 v3 v4 v5 v6 v7 v8 v9, Blk w g t #[v0, v1, v2, v3, v4, v5, v6, v7, v8, v9]
theorem Ten.lt {w : World} {g : Nat} {t : TypeId} (h : Ten w g t) : g < w.heap.size := by
  obtain ⟨_, _, _, _, _, _, _, _, _, _, h⟩ := h
  exact h.lt
theorem Ten.kp {S : Nat → Prop} {w w' : World} {g : Nat} {t : TypeId} (h : Ten w g t) (hk : Kp S w w') (hs : S g) : Ten w' g t := by
  obtain ⟨v0, v1, v2, v3, v4, v5, v6, v7, v8, v9, h⟩ := h
  exact ⟨v0, v1, v2, v3, v4, v5, v6, v7, v8, v9, h.kp hk hs⟩

/-- What ZZReadFrame gives back. -/
def NewZ (w w' : World) (fin : Bool) (r o : Nat) (mk : Bool) (M : Nat → UInt8) (ps : List UInt8) (k : Nat) (e : Ending) : Prop :=
  ∃ A, e = .returned (.tuple #[fval fin r o mk M ps.length (.slice A ps.length ps.length), .int .i64 k, .nilIface]) ∧ RdN w' w.heap.size A ps ∧ KT w w'

set_option maxRecDepth 100000 in
set_option maxHeartbeats 1500000 in
theorem zzReadFrame (w : World) (g : Nat) (rr : List Value) (fin : Bool) (r o : Nat) (mk : Bool) (M : Nat → UInt8) (ps rest : List UInt8) (hr : r < 8) (ho : o < 16) (hps : ps.length ≤ 2147483647) (hz : mk = true ∨ M = z4)
    (bs : List UInt8) (hbs : bs = hbytes fin r o mk M ps.length ++ (ps ++ rest)) (hlen : bs.length ≤ 140737488355328) (hb : Blk w g 5 (bs.map bv ++ rr).toArray) (hm : bs.length + rr.length ≤ maxLen) :
    Calls Tryd.prog 67 #[.slice (some ⟨g, 0, none⟩) bs.length (bs.length + rr.length)] w fun e w' => NewZ w w' fin r o mk M ps (bs.length - rest.length) e := by
  have hgl := hb.lt
  have hle : bs.length = (hbytes fin r o mk M ps.length).length + (ps.length + rest.length) := by rw [hbs, List.length_append, List.length_append]
  have HR : Hid (∀ w B L, BufR w B L bs → L ≤ B → L ≤ w.heap.size → Calls Tryd.prog 90 #[rdr B] w fun e w' => NewHdr w w' B L (wval fin r o mk M ps.length) (ps ++ rest) e) := fun w B L h h1 h2 => readHeader w B L fin r o mk M ps.length (ps ++ rest) hr ho (by omega) hz (by rw [← hbs]; exact h) h1 h2
  have HF : Hid (∀ w B L, BufR w B L bs → L ≤ B → L ≤ w.heap.size → Calls Tryd.prog 92 #[rdr B] w fun e w' => NewFr w w' B L fin r o mk M ps rest e) := fun w B L h h1 h2 => readFrame w B L fin r o mk M ps rest hr ho hps hz (by rw [← hbs]; exact h) h1 h2
  have HLE := hide hle
  clear hle hbs hr ho hz
  go_enter Tryd.func67, Tryd.ntmps67
  go_upto_region 1 with fail
  refine wp_abs (fun w1 => Ten w1 w.heap.size 82 ∧ Blk w1 g 5 (bs.map bv ++ rr).toArray ∧ KT w w1) ⟨⟨_, _, _, _, _, _, _, _, _, _, Blk.new w 82 _⟩, hb.alloc _, (KT.refl w).alloc _⟩ ?_
  obtain ⟨b2, hb2⟩ : ∃ b2, b2 = w.heap.size := ⟨_, rfl⟩
  rw [← hb2]
  have hb2lo : w.heap.size ≤ b2 := by omega
  clear hb hb2
  rintro w1 ⟨p2, hb, hk1⟩
  go_wp2_with fail
  refine (newBuffer w1 (some ⟨g, 0, none⟩) bs.length (bs.length + rr.length)).mono ?_
  rintro e w2 ⟨rfl, hB, hk2⟩
  have hs1 := hk1.size
  have hp1 := p2.lt
  obtain ⟨B, hBe⟩ : ∃ B, B = w1.heap.size := ⟨_, rfl⟩
  rw [← hBe] at hB ⊢
  have hBR : BufR w2 B w.heap.size bs := Fresh.bufR hB (hb.on hk2) hm hgl
  have hBw : w.heap.size ≤ B := by omega
  have hb2B : b2 ≠ B := by omega
  have hgB : g ≠ B := by omega
  have hs2 := hk2.size
  replace p2 := p2.kp hk2 trivial
  replace hb := hb.on hk2
  have k2 := hk1.trans hk2
  have hw2 : w.heap.size ≤ w2.heap.size := by omega
  clear hBe hB hk1 hk2 hp1 hs1 hs2
  go_wp2_with fail
  refine (unhide HR w2 B w.heap.size hBR hBw hw2).mono ?_
  rintro e w3 ⟨rfl, hb3, hk3⟩
  have p3 := p2.kp hk3 hb2B
  have q3 := hb.kp hk3 hgB
  have k3 : KT w w3 := k2.then_ hk3 (fun i hi _ => by omega)
  have hb2lt := p3.lt
  have hw3 : w.heap.size ≤ w3.heap.size := k3.size
  clear hk3 k2 p2 hBR HR hb
  go_upto_region 5 with fail
  refine wp_abs (fun w4 => Blk w4 w3.heap.size 78 (wcells fin r o mk M ps.length) ∧ Ten w4 b2 82 ∧ Blk w4 g 5 (bs.map bv ++ rr).toArray ∧ BufR w4 B w.heap.size (ps ++ rest) ∧ KT w w4)
    ⟨Blk.new w3 78 _, p3.kp ((KT.refl w3).alloc _) trivial, q3.alloc _, hb3.on ((KT.refl w3).alloc _) trivial (fun _ _ => trivial) hw3, k3.alloc _⟩ ?_
  obtain ⟨b6, hb6⟩ : ∃ b6, b6 = w3.heap.size := ⟨_, rfl⟩
  rw [← hb6]
  clear hb6 p3 q3 hb3 k3 hb2lt
  rintro w4 ⟨q6, p2, hb, hb4, k4⟩
  have c8 := q6.cell 8
  have HL := hide (bufLen w4.drew B w.heap.size (ps ++ rest) hb4)
  have hdd : decide (((ps ++ rest).length : Int) < (ps.length : Int)) = false := by rw [List.length_append]; simp; omega
  have hgl4 : g < w4.heap.size := hb.lt
  have hw4 : w.heap.size ≤ w4.heap.size := k4.size
  have P2 := hide p2
  have HBD := hide hb
  have K4 := hide k4
  clear p2 hb hb4 k4 q6
  go_region_with ((with_reducible refine (unhide HL).mono ?_); rintro e w5 ⟨rfl, rfl⟩)
  all_goals go_upto_region 10 with fail
  all_goals refine wp_abs (fun w5 => Ten w5 b2 82 ∧ Blk w5 g 5 (bs.map bv ++ rr).toArray ∧ KT w w5) ⟨unhide P2, unhide HBD, (unhide K4).drew⟩ ?_
  all_goals clear c8 HL hdd hgl4 hw4 P2 HBD K4
  all_goals (
    rintro w5 ⟨p2, hb, k5⟩
    go_wp2_with fail
    refine (newBuffer w5 (some ⟨g, 0, none⟩) bs.length (bs.length + rr.length)).mono ?_
    rintro e w6 ⟨rfl, hC, hk6⟩
    obtain ⟨C, hCe⟩ : ∃ C, C = w5.heap.size := ⟨_, rfl⟩
    rw [← hCe] at hC ⊢
    have hCR : BufR w6 C w.heap.size bs := Fresh.bufR hC (hb.on hk6) hm hgl
    have hb2lt := p2.lt
    have hs5 := k5.size
    have hs6 := hk6.size
    have hCw : w.heap.size ≤ C := by omega
    have hb2C : b2 ≠ C := by omega
    have hw6 : w.heap.size ≤ w6.heap.size := by omega
    have hb26 : b2 < w6.heap.size := by omega
    replace p2 := p2.kp hk6 trivial
    have k6 := k5.trans hk6
    clear hCe hC hb k5 hk6 hb2lt hs5 hs6
    go_wp2_with fail
    refine (unhide HF w6 C w.heap.size hCR hCw hw6).mono ?_
    rintro e w7 ⟨A3, rfl, hrd7, hbuf7, hk7⟩
    have p7 := p2.kp hk7 hb2C
    have k7 : KT w w7 := k6.then_ hk7 (fun i hi _ => by omega)
    have hw7 : w.heap.size ≤ w7.heap.size := k7.size
    have hb27 := p7.lt
    have hrdx : RdN w7 (b2 + 1) A3 ps := hrd7.mono (by omega)
    clear hk7 k6 p2 hCR HF hrd7
    go_upto_region 12 with fail
    refine wp_abs (fun w8 => Blk w8 w7.heap.size 82 (fcells fin r o mk M ps.length (.slice A3 ps.length ps.length)) ∧ Ten w8 b2 82 ∧ BufR w8 C w.heap.size rest ∧ RdN w8 (b2 + 1) A3 ps ∧ KT w w8)
      ⟨Blk.new w7 82 _, p7.kp ((KT.refl w7).alloc _) trivial, hbuf7.on ((KT.refl w7).alloc _) trivial (fun _ _ => trivial) hw7, hrdx.kp ((KT.refl w7).alloc _) (fun _ _ => trivial), k7.alloc _⟩ ?_
    obtain ⟨b9, hb9⟩ : ∃ b9, b9 = w7.heap.size := ⟨_, rfl⟩
    rw [← hb9]
    have hb29 : b2 ≠ b9 := by omega
    clear hb9 p7 hbuf7 hrdx k7 hb27 hw7
    rintro w8 ⟨q9, ⟨a0, a1, a2, a3, a4, a5, a6, a7, a8, a9, q2⟩, hb8, hrd8, k8⟩
    obtain ⟨c0, c1, c2, c3, c4, c5, c6, c7, c8, c9⟩ := row10 q9
    obtain ⟨d0, d1, d2, d3, d4, d5, d6, d7, d8, d9⟩ := row10 q2
    obtain ⟨f0, f1, f2, f3, f4, f5, f6, f7, f8, f9⟩ := free10 q2
    have hkk : IntKind.i64.wrap ((bs.length : Int) - (rest.length : Int)) = ((bs.length - rest.length : Nat) : Int) := by have := unhide HLE; simp [IntKind.wrap, IntKind.bits, IntKind.signed]; omega
    have HL := hide (bufLen w8.drew C w.heap.size rest hb8)
    go_region_with ((with_reducible refine (unhide HL).mono ?_); rintro e w9 ⟨rfl, rfl⟩)
    all_goals go_wp2_with fail
    all_goals refine bp_abs (fun w9 => Blk w9 b2 82 (fcells fin r o mk M ps.length (.slice A3 ps.length ps.length)) ∧ RdN w9 w.heap.size A3 ps ∧ KT w w9) ⟨(put10_blk q2).drew, ((hrd8.put10 (Nat.lt_succ_self b2) _ _ _ _ _ _ _ _ _ _).mono (by omega)).kp ((KT.refl _).drew) (fun _ _ => trivial), (put10_kp k8 (fun h => absurd h (by show ¬ b2 < w.heap.size; omega))).drew⟩ ?_
    all_goals clear c0 c1 c2 c3 c4 c5 c6 c7 c8 c9 d0 d1 d2 d3 d4 d5 d6 d7 d8 d9 f0 f1 f2 f3 f4 f5 f6 f7 f8 f9 q9 q2 k8 HL hrd8 hb8
    all_goals rintro w9 ⟨z2, hrd9, k9⟩
    all_goals obtain ⟨c0, c1, c2, c3, c4, c5, c6, c7, c8, c9⟩ := row10 z2
    all_goals exact bodyPost_ret (v := .tuple #[fval fin r o mk M ps.length (.slice A3 ps.length ps.length), .int .i64 ((bs.length - rest.length : Nat) : Int), .nilIface]) (by simp [results, Tryd.results67, go_sem, c0, c1, c2, c3, c4, c5, c6, c7, c8, c9]) rfl ⟨A3, rfl, hrd9, k9⟩)

/-- What ZZReadFrame gives back where the bytes end too early. -/
def CutF (w w' : World) (e : Ending) : Prop := ∃ (fin : Bool) (r o : Int) (mk : Bool) (M : Nat → UInt8) (len z : Int) (s : ByteArray), e = .returned (.tuple #[fval fin r o mk M len (.slice none 0 0), .int .i64 z, .iface 143 (.string s)]) ∧ KT w w'

set_option maxRecDepth 100000 in
set_option maxHeartbeats 1500000 in
theorem zzReadFrame_cutA (w : World) (g : Nat) (rr : List Value) (fin : Bool) (r o : Nat) (mk : Bool) (M : Nat → UInt8) (n k : Nat) (hk : k < (hbytes fin r o mk M n).length)
    (bs : List UInt8) (hbs : bs = (hbytes fin r o mk M n).take k) (hb : Blk w g 5 (bs.map bv ++ rr).toArray) (hm : bs.length + rr.length ≤ maxLen) :
    Calls Tryd.prog 67 #[.slice (some ⟨g, 0, none⟩) bs.length (bs.length + rr.length)] w fun e w' => CutF w w' e := by
  have hgl := hb.lt
  have HR : Hid (∀ w B L, BufR w B L bs → L ≤ B → L ≤ w.heap.size → Calls Tryd.prog 90 #[rdr B] w fun e w' => CutH w w' B L e) := fun w B L h h1 h2 => readHeader_cut w B L fin r o mk M n k hk (by rw [← hbs]; exact h) h1 h2
  clear hk hbs
  go_enter Tryd.func67, Tryd.ntmps67
  go_upto_region 1 with fail
  refine wp_abs (fun w1 => Ten w1 w.heap.size 82 ∧ Blk w1 g 5 (bs.map bv ++ rr).toArray ∧ KT w w1) ⟨⟨_, _, _, _, _, _, _, _, _, _, Blk.new w 82 _⟩, hb.alloc _, (KT.refl w).alloc _⟩ ?_
  obtain ⟨b2, hb2⟩ : ∃ b2, b2 = w.heap.size := ⟨_, rfl⟩
  rw [← hb2]
  have hb2lo : w.heap.size ≤ b2 := by omega
  clear hb hb2
  rintro w1 ⟨p2, hb, hk1⟩
  go_wp2_with fail
  refine (newBuffer w1 (some ⟨g, 0, none⟩) bs.length (bs.length + rr.length)).mono ?_
  rintro e w2 ⟨rfl, hB, hk2⟩
  have hs1 := hk1.size
  have hp1 := p2.lt
  obtain ⟨B, hBe⟩ : ∃ B, B = w1.heap.size := ⟨_, rfl⟩
  rw [← hBe] at hB ⊢
  have hBR : BufR w2 B w.heap.size bs := Fresh.bufR hB (hb.on hk2) hm hgl
  have hBw : w.heap.size ≤ B := by omega
  have hb2B : b2 ≠ B := by omega
  have hs2 := hk2.size
  replace p2 := p2.kp hk2 trivial
  have k2 := hk1.trans hk2
  have hw2 : w.heap.size ≤ w2.heap.size := by omega
  clear hBe hB hk1 hk2 hp1 hs1 hs2 hb
  go_wp2_with fail
  refine (unhide HR w2 B w.heap.size hBR hBw hw2).mono ?_
  rintro e w3 ⟨fin', r', o', mk', M', n', sx, rest, rfl, hb3, hk3⟩
  have p3 := p2.kp hk3 hb2B
  have k3 : KT w w3 := k2.then_ hk3 (fun i hi _ => by omega)
  have hb2lt := p3.lt
  have hw3 : w.heap.size ≤ w3.heap.size := k3.size
  clear hk3 k2 p2 hBR HR
  go_upto_region 3 with fail
  refine wp_abs (fun w4 => Blk w4 w3.heap.size 78 (wcells fin' r' o' mk' M' n') ∧ Ten w4 b2 82 ∧ BufR w4 B w.heap.size rest ∧ KT w w4)
    ⟨Blk.new w3 78 _, p3.kp ((KT.refl w3).alloc _) trivial, hb3.on ((KT.refl w3).alloc _) trivial (fun _ _ => trivial) hw3, k3.alloc _⟩ ?_
  obtain ⟨b6, hb6⟩ : ∃ b6, b6 = w3.heap.size := ⟨_, rfl⟩
  rw [← hb6]
  have hb26 : b2 ≠ b6 := by omega
  clear hb6 p3 hb3 k3 hb2lt
  rintro w4 ⟨q6, ⟨a0, a1, a2, a3, a4, a5, a6, a7, a8, a9, q2⟩, hb4, k4⟩
  obtain ⟨c0, c1, c2, c3, c4, c5, c6, c7, c8⟩ := row9 q6
  obtain ⟨d0, d1, d2, d3, d4, d5, d6, d7, d8, d9⟩ := row10 q2
  obtain ⟨f0, f1, f2, f3, f4, f5, f6, f7, f8, f9⟩ := free10 q2
  have HL := hide (bufLen w4.drew B w.heap.size rest hb4)
  go_upto_region 4 with fail
  go_region_with ((with_reducible refine (unhide HL).mono ?_); rintro e w5 ⟨rfl, rfl⟩)
  all_goals go_wp2_with fail
  all_goals refine bp_abs (fun w5 => Blk w5 b2 82 (fcells fin' r' o' mk' M' n' (.slice none 0 0)) ∧ KT w w5) ⟨(put10_blk q2).drew, (put10_kp k4 (fun h => absurd h (by show ¬ b2 < w.heap.size; omega))).drew⟩ ?_
  all_goals clear c0 c1 c2 c3 c4 c5 c6 c7 c8 d0 d1 d2 d3 d4 d5 d6 d7 d8 d9 f0 f1 f2 f3 f4 f5 f6 f7 f8 f9 q6 q2 k4 HL hb4
  all_goals rintro w5 ⟨z2, k5⟩
  all_goals obtain ⟨c0, c1, c2, c3, c4, c5, c6, c7, c8, c9⟩ := row10 z2
  all_goals exact bodyPost_ret (v := .tuple #[fval fin' r' o' mk' M' n' (.slice none 0 0), .int .i64 (IntKind.i64.wrap ((bs.length : Int) - (rest.length : Int))), .iface 143 (.string sx)]) (by simp [results, Tryd.results67, go_sem, c0, c1, c2, c3, c4, c5, c6, c7, c8, c9]) rfl ⟨_, _, _, _, _, _, _, _, rfl, k5⟩

set_option maxRecDepth 100000 in
set_option maxHeartbeats 1500000 in
theorem zzReadFrame_cutB (w : World) (g : Nat) (rr : List Value) (fin : Bool) (r o : Nat) (mk : Bool) (M : Nat → UInt8) (n : Nat) (rest : List UInt8) (hr : r < 8) (ho : o < 16) (hn : n ≤ 2147483647) (hz : mk = true ∨ M = z4) (hsh : rest.length < n)
    (bs : List UInt8) (hbs : bs = hbytes fin r o mk M n ++ rest) (hb : Blk w g 5 (bs.map bv ++ rr).toArray) (hm : bs.length + rr.length ≤ maxLen) :
    Calls Tryd.prog 67 #[.slice (some ⟨g, 0, none⟩) bs.length (bs.length + rr.length)] w fun e w' => CutF w w' e := by
  have hgl := hb.lt
  have HR : Hid (∀ w B L, BufR w B L bs → L ≤ B → L ≤ w.heap.size → Calls Tryd.prog 90 #[rdr B] w fun e w' => NewHdr w w' B L (wval fin r o mk M n) rest e) := fun w B L h h1 h2 => readHeader w B L fin r o mk M n rest hr ho (by omega) hz (by rw [← hbs]; exact h) h1 h2
  clear hbs hr ho hz
  go_enter Tryd.func67, Tryd.ntmps67
  go_upto_region 1 with fail
  refine wp_abs (fun w1 => Ten w1 w.heap.size 82 ∧ Blk w1 g 5 (bs.map bv ++ rr).toArray ∧ KT w w1) ⟨⟨_, _, _, _, _, _, _, _, _, _, Blk.new w 82 _⟩, hb.alloc _, (KT.refl w).alloc _⟩ ?_
  obtain ⟨b2, hb2⟩ : ∃ b2, b2 = w.heap.size := ⟨_, rfl⟩
  rw [← hb2]
  have hb2lo : w.heap.size ≤ b2 := by omega
  clear hb hb2
  rintro w1 ⟨p2, hb, hk1⟩
  go_wp2_with fail
  refine (newBuffer w1 (some ⟨g, 0, none⟩) bs.length (bs.length + rr.length)).mono ?_
  rintro e w2 ⟨rfl, hB, hk2⟩
  have hs1 := hk1.size
  have hp1 := p2.lt
  obtain ⟨B, hBe⟩ : ∃ B, B = w1.heap.size := ⟨_, rfl⟩
  rw [← hBe] at hB ⊢
  have hBR : BufR w2 B w.heap.size bs := Fresh.bufR hB (hb.on hk2) hm hgl
  have hBw : w.heap.size ≤ B := by omega
  have hb2B : b2 ≠ B := by omega
  have hs2 := hk2.size
  replace p2 := p2.kp hk2 trivial
  have k2 := hk1.trans hk2
  have hw2 : w.heap.size ≤ w2.heap.size := by omega
  clear hBe hB hk1 hk2 hp1 hs1 hs2 hb
  go_wp2_with fail
  refine (unhide HR w2 B w.heap.size hBR hBw hw2).mono ?_
  rintro e w3 ⟨rfl, hb3, hk3⟩
  have p3 := p2.kp hk3 hb2B
  have k3 : KT w w3 := k2.then_ hk3 (fun i hi _ => by omega)
  have hb2lt := p3.lt
  have hw3 : w.heap.size ≤ w3.heap.size := k3.size
  clear hk3 k2 p2 hBR HR
  go_upto_region 3 with fail
  refine wp_abs (fun w4 => Blk w4 w3.heap.size 78 (wcells fin r o mk M n) ∧ Ten w4 b2 82 ∧ BufR w4 B w.heap.size rest ∧ KT w w4)
    ⟨Blk.new w3 78 _, p3.kp ((KT.refl w3).alloc _) trivial, hb3.on ((KT.refl w3).alloc _) trivial (fun _ _ => trivial) hw3, k3.alloc _⟩ ?_
  obtain ⟨b6, hb6⟩ : ∃ b6, b6 = w3.heap.size := ⟨_, rfl⟩
  rw [← hb6]
  have hb26 : b2 ≠ b6 := by omega
  clear hb6 p3 hb3 k3 hb2lt
  rintro w4 ⟨q6, ⟨a0, a1, a2, a3, a4, a5, a6, a7, a8, a9, q2⟩, hb4, k4⟩
  obtain ⟨c0, c1, c2, c3, c4, c5, c6, c7, c8⟩ := row9 q6
  obtain ⟨d0, d1, d2, d3, d4, d5, d6, d7, d8, d9⟩ := row10 q2
  obtain ⟨f0, f1, f2, f3, f4, f5, f6, f7, f8, f9⟩ := free10 q2
  have HL := hide (bufLen w4.drew B w.heap.size rest hb4)
  have hdd : decide ((rest.length : Int) < (n : Int)) = true := by simp; omega
  go_upto_region 5 with fail
  go_region_with ((with_reducible refine (unhide HL).mono ?_); rintro e w5 ⟨rfl, rfl⟩)
  all_goals (
    by_cases h0 : rest.length = 0
    · go_wp2_with ((with_reducible refine (unhide HL).mono ?_); rintro e w5 ⟨rfl, rfl⟩)
      refine bp_abs (fun w5 => Blk w5 b2 82 (fcells fin r o mk M n (.slice none 0 0)) ∧ KT w w5) ⟨(put10_blk q2).drew, (put10_kp k4 (fun h => absurd h (by show ¬ b2 < w.heap.size; omega))).drew⟩ ?_
      clear c0 c1 c2 c3 c4 c5 c6 c7 c8 d0 d1 d2 d3 d4 d5 d6 d7 d8 d9 f0 f1 f2 f3 f4 f5 f6 f7 f8 f9 q6 q2 k4 HL hb4
      rintro w5 ⟨z2, k5⟩
      obtain ⟨c0, c1, c2, c3, c4, c5, c6, c7, c8, c9⟩ := row10 z2
      exact bodyPost_ret (v := .tuple #[fval fin r o mk M n (.slice none 0 0), .int .i64 bs.length, eof]) (by simp [results, Tryd.results67, go_sem, c0, c1, c2, c3, c4, c5, c6, c7, c8, c9]) rfl ⟨_, _, _, _, _, _, _, _, rfl, k5⟩
    · go_wp2_with ((with_reducible refine (unhide HL).mono ?_); rintro e w5 ⟨rfl, rfl⟩)
      refine bp_abs (fun w5 => Blk w5 b2 82 (fcells fin r o mk M n (.slice none 0 0)) ∧ KT w w5) ⟨(put10_blk q2).drew, (put10_kp k4 (fun h => absurd h (by show ¬ b2 < w.heap.size; omega))).drew⟩ ?_
      clear c0 c1 c2 c3 c4 c5 c6 c7 c8 d0 d1 d2 d3 d4 d5 d6 d7 d8 d9 f0 f1 f2 f3 f4 f5 f6 f7 f8 f9 q6 q2 k4 HL hb4
      rintro w5 ⟨z2, k5⟩
      obtain ⟨c0, c1, c2, c3, c4, c5, c6, c7, c8, c9⟩ := row10 z2
      exact bodyPost_ret (v := .tuple #[fval fin r o mk M n (.slice none 0 0), .int .i64 bs.length, ueof]) (by simp [results, Tryd.results67, go_sem, c0, c1, c2, c3, c4, c5, c6, c7, c8, c9]) rfl ⟨_, _, _, _, _, _, _, _, rfl, k5⟩)

theorem zzReadFrame_cut (w : World) (g : Nat) (rr : List Value) (fin : Bool) (r o : Nat) (mk : Bool) (M : Nat → UInt8) (ps : List UInt8) (k : Nat) (hr : r < 8) (ho : o < 16) (hps : ps.length ≤ 2147483647) (hz : mk = true ∨ M = z4) (hk : k < (hbytes fin r o mk M ps.length ++ ps).length)
    (bs : List UInt8) (hbs : bs = (hbytes fin r o mk M ps.length ++ ps).take k) (hb : Blk w g 5 (bs.map bv ++ rr).toArray) (hm : bs.length + rr.length ≤ maxLen) :
    Calls Tryd.prog 67 #[.slice (some ⟨g, 0, none⟩) bs.length (bs.length + rr.length)] w fun e w' => CutF w w' e := by
  rw [List.length_append] at hk
  by_cases h : k < (hbytes fin r o mk M ps.length).length
  · exact zzReadFrame_cutA w g rr fin r o mk M ps.length k h bs (by rw [hbs, List.take_append_of_le_length (by omega)]) hb hm
  · exact zzReadFrame_cutB w g rr fin r o mk M ps.length (ps.take (k - (hbytes fin r o mk M ps.length).length)) hr ho hps hz (by rw [List.length_take]; omega) bs (by rw [hbs, List.take_append, List.take_of_length_le (by omega)]) hb hm
end Go.Proofs.YtechapgchjdhaaaDoor
