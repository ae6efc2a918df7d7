/- ws.ReadHeader where the bytes end too early: the walk. -/
import Derived.Test.YtechapgchjdhaaaDoorRhd
namespace Go.Proofs.YtechapgchjdhaaaDoor
open Go.RowKit

/-- Reading that ends too early. -/
def Fell (w w' : World) (B L g : Nat) (e : Ending) : Prop := ∃ (k : Nat) (s : ByteArray) (bs' : List UInt8), e = .returned (.tuple #[.int .i64 k, .iface 143 (.string s)]) ∧ BufR w' B L bs' ∧ KpTwo g B w w'

theorem readFull_fell (w : World) (B L : Nat) (bs : List UInt8) (h : BufR w B L bs) (t g off m c : Nat) (cur : Array Value) (hg : Blk w g t cur) (hfit : off + m ≤ cur.size) (ht : t ≠ 149) (hL : L ≤ g) (hLB : L ≤ B) (hLw : L ≤ w.heap.size) (hmc : m ≤ c) (hc : c ≤ 9223372036854775807) (hlen : bs.length < m) :
    Calls Tryd.prog 102 #[rdr B, .slice (some ⟨g, off, none⟩) m c] w fun e w' => Fell w w' B L g e := by
  by_cases h0 : bs = []
  · subst h0
    refine (readFull_none w B L h (some ⟨g, off, none⟩) m c (by simpa using hlen)).mono ?_
    rintro e w' ⟨rfl, hk⟩
    exact ⟨0, _, [], rfl, h.on hk trivial (fun _ _ => trivial) hLw, hk.mono fun _ _ _ => trivial⟩
  · refine (readFull_short w B L bs h t g off m c cur hg hfit ht hL hLB hmc hc h0 hlen).mono ?_
    rintro e w' ⟨rfl, hT⟩
    exact ⟨bs.length, _, _, rfl, hT.buf, hT.kp⟩

/-- A header that was not read to its end. -/
def CutH (w w' : World) (B L : Nat) (e : Ending) : Prop := ∃ (fin : Bool) (r o : Int) (mk : Bool) (M : Nat → UInt8) (len : Int) (s : ByteArray) (bs' : List UInt8), e = .returned (.tuple #[wval fin r o mk M len, .iface 143 (.string s)]) ∧ BufR w' B L bs' ∧ Kp (· ≠ B) w w'

theorem Rhs.fell {w w1 w2 : World} {B L b2 g : Nat} {hc cs : Array Value} {bs bs' : List UInt8} (h : Rhs w w1 B L b2 g hc cs bs) (h1 : BufR w2 B L bs') (h2 : KpTwo g B w1 w2) (hb2 : b2 ≠ g) (hB : b2 ≠ B) (hg : w.heap.size ≤ g) : Blk w2 b2 78 hc ∧ BufR w2 B L bs' ∧ Kp (· ≠ B) w w2 :=
  ⟨h.hdr.kp h2 ⟨hb2, hB⟩, h1, h.kp.then_ h2 (fun i hi hi2 => ⟨by omega, hi2⟩)⟩

/-- The end of such a call: the header stored upon itself. -/
structure Lost (w w' : World) (B L b2 : Nat) (hc : Array Value) (bs : List UInt8) : Prop where
  hdr : Blk w' b2 78 hc
  buf : BufR w' B L bs
  kp : Kp (· ≠ B) w w'
theorem Lost.set {w w1 : World} {B L b2 i : Nat} {l : List Value} {bs : List UInt8} (h : Lost w w1 B L b2 l.toArray bs) (hB : b2 ≠ B) (hL : L ≤ b2) (hw : w.heap.size ≤ b2) (v : Value) : Lost w (w1.setCell ⟨b2, i, none⟩ v) B L b2 (l.set i v).toArray bs :=
  ⟨h.hdr.put i v, h.buf.set (p := ⟨b2, i, none⟩) (Ne.symm hB) hL v, h.kp.setCell (p := ⟨b2, i, none⟩) (fun hlt => absurd hlt (by show ¬ b2 < w.heap.size; omega)) v⟩
theorem Lost.put9 {w w1 : World} {B L b2 : Nat} {a0 a1 a2 a3 a4 a5 a6 a7 a8 v0 v1 v2 v3 v4 v5 v6 v7 v8 : Value} {bs : List UInt8} (h : Lost w w1 B L b2 #[a0, a1, a2, a3, a4, a5, a6, a7, a8] bs) (hB : b2 ≠ B) (hL : L ≤ b2) (hw : w.heap.size ≤ b2) :
    Lost w (((((((((w1.setCell ⟨b2, 0, none⟩ v0).setCell ⟨b2, 1, none⟩ v1).setCell ⟨b2, 2, none⟩ v2).setCell ⟨b2, 3, none⟩ v3).setCell ⟨b2, 4, none⟩ v4).setCell ⟨b2, 5, none⟩ v5).setCell ⟨b2, 6, none⟩ v6).setCell ⟨b2, 7, none⟩ v7).setCell ⟨b2, 8, none⟩ v8) B L b2 #[v0, v1, v2, v3, v4, v5, v6, v7, v8] bs :=
  ((((((((h.set hB hL hw (i := 0) _).set hB hL hw (i := 1) _).set hB hL hw (i := 2) _).set hB hL hw (i := 3) _).set hB hL hw (i := 4) _).set hB hL hw (i := 5) _).set hB hL hw (i := 6) _).set hB hL hw (i := 7) _).set hB hL hw (i := 8) _

set_option maxRecDepth 100000 in
set_option maxHeartbeats 8000000 in
theorem readHeader_cutA (w : World) (B L : Nat) (bs : List UInt8) (hlen : bs.length < 2) (h : BufR w B L bs) (hLB : L ≤ B) (hLw : L ≤ w.heap.size) :
    Calls Tryd.prog 90 #[rdr B] w fun e w' => CutH w w' B L e := by
  have hmk : ∀ w, (Instr.makeSlice 22 (.int .i64 2) (.int .i64 12)).run Tryd.prog w = .ok (.slice (some ⟨w.heap.size, 0, none⟩) 2 12) (w.alloc (.cells (zrow 12) 5)) := fun w => run_make_bytes 2 12 (by omega) (by omega) w
  have hBw := h.at_
  have H := hide h
  clear h
  obtain ⟨b2, hb2⟩ : ∃ b2, b2 = w.heap.size := ⟨_, rfl⟩
  obtain ⟨g, hg⟩ : ∃ g, g = w.heap.size + 1 := ⟨_, rfl⟩
  have hbg : b2 ≠ g := by omega
  have hbB : b2 ≠ B := by omega
  have hwb : w.heap.size ≤ b2 := by omega
  have hwg : w.heap.size ≤ g := by omega
  have hLb : L ≤ b2 := by omega
  have hLg : L ≤ g := by omega
  go_enter Tryd.func90, Tryd.ntmps90
  go_upto_region 2 with fail
  refine wp_abs (fun w1 => Rhs w w1 B L b2 g (wcells false 0 0 false z4 0) (zrow 12) bs) ⟨?_, ?_, ?_, ?_⟩ ?_
  · rw [hb2]; exact (Blk.new w 78 _).alloc _
  · rw [hg]; exact Blk.new2 w _ 5 _
  · have k2 : KT w ((w.alloc (.cells (wcells false 0 0 false z4 0) 78)).alloc (.cells (zrow 12) 5)) := ((KT.refl w).alloc _).alloc _
    exact (unhide H).on k2 trivial (fun _ _ => trivial) hLw
  · exact ((Kp.refl _ w).alloc _).alloc _
  rw [← hg, ← hb2]
  clear hmk hg hb2 H
  rintro w1 h1
  have HT := hide (readFull_fell w1 B L _ h1.buf 5 g 0 2 12 (zrow 12) h1.row (by rw [zrow_size]; omega) (by decide) hLg hLB (Nat.le_trans hLw h1.kp.size) (by omega) (by omega) hlen)
  go_wp2_with fail
  refine (unhide HT).mono ?_
  rintro e w2 ⟨k, s, bsN, rfl, hq1, hq2⟩
  obtain ⟨z1, z2, z3⟩ := h1.fell hq1 hq2 hbg hbB hwg
  have hN : Lost w w2 B L b2 (wcells false 0 0 false z4 0) bsN := ⟨z1, z2, z3⟩
  clear HT h1 hq1 hq2 z1 z2 z3
  obtain ⟨c0, c1, c2, c3, c4, c5, c6, c7, c8⟩ := row9 hN.hdr
  obtain ⟨f0, f1, f2, f3, f4, f5, f6, f7, f8⟩ := row9f hN.hdr
  have HN := hide hN
  clear hN
  go_wp2_with fail
  refine bp_abs (fun w5 => Lost w w5 B L b2 (wcells false 0 0 false z4 0) bsN) ((unhide HN).put9 hbB hLb hwb) ?_
  clear c0 c1 c2 c3 c4 c5 c6 c7 c8 f0 f1 f2 f3 f4 f5 f6 f7 f8
  rintro w5 h5
  obtain ⟨c0, c1, c2, c3, c4, c5, c6, c7, c8⟩ := row9 h5.hdr
  refine bodyPost_ret (v := .tuple #[wval false 0 0 false z4 0, .iface 143 (.string s)]) (by simp [results, Tryd.results90, go_sem, c0, c1, c2, c3, c4, c5, c6, c7, c8]) rfl ⟨_, _, _, _, _, _, s, bsN, rfl, h5.buf, h5.kp⟩

set_option maxRecDepth 100000 in
set_option maxHeartbeats 8000000 in
theorem readHeader_cut0t (w : World) (B L : Nat) (fin : Bool) (r o : Nat) (M : Nat → UInt8) (n : Nat) (bs : List UInt8) (hn : n < 126) (hlen : 2 ≤ bs.length) (hlen2 : bs.length < 6)
    (hx0 : bs.getD 0 0 = B0 fin r o) (hx1 : bs.getD 1 0 = B1 true n) (h : BufR w B L bs) (hLB : L ≤ B) (hLw : L ≤ w.heap.size) :
    Calls Tryd.prog 90 #[rdr B] w fun e w' => CutH w w' B L e := by
  have e4 := and_mk true n
  have e5 := and_len true n
  have hL7 : L7 n = n := by simp [L7, hn]
  rw [hL7] at e5
  simp only [if_true] at e4
  clear hL7
  obtain ⟨x0, q0⟩ : ∃ x, x = B0 fin r o := ⟨_, rfl⟩
  rw [← q0] at hx0
  clear q0
  have hmk : ∀ w, (Instr.makeSlice 22 (.int .i64 2) (.int .i64 12)).run Tryd.prog w = .ok (.slice (some ⟨w.heap.size, 0, none⟩) 2 12) (w.alloc (.cells (zrow 12) 5)) := fun w => run_make_bytes 2 12 (by omega) (by omega) w
  have hBw := h.at_
  have H := hide h
  clear h
  obtain ⟨b2, hb2⟩ : ∃ b2, b2 = w.heap.size := ⟨_, rfl⟩
  obtain ⟨g, hg⟩ : ∃ g, g = w.heap.size + 1 := ⟨_, rfl⟩
  have hbg : b2 ≠ g := by omega
  have hbB : b2 ≠ B := by omega
  have hwb : w.heap.size ≤ b2 := by omega
  have hwg : w.heap.size ≤ g := by omega
  have hLb : L ≤ b2 := by omega
  have hLg : L ≤ g := by omega
  go_enter Tryd.func90, Tryd.ntmps90
  go_upto_region 2 with fail
  refine wp_abs (fun w1 => Rhs w w1 B L b2 g (wcells false 0 0 false z4 0) (zrow 12) bs) ⟨?_, ?_, ?_, ?_⟩ ?_
  · rw [hb2]; exact (Blk.new w 78 _).alloc _
  · rw [hg]; exact Blk.new2 w _ 5 _
  · have k2 : KT w ((w.alloc (.cells (wcells false 0 0 false z4 0) 78)).alloc (.cells (zrow 12) 5)) := ((KT.refl w).alloc _).alloc _
    exact (unhide H).on k2 trivial (fun _ _ => trivial) hLw
  · exact ((Kp.refl _ w).alloc _).alloc _
  rw [← hg, ← hb2]
  clear hmk hg hb2 H
  rintro w1 h1
  have HT := hide (readFull_ok w1 B L _ h1.buf 5 g 0 2 12 (zrow 12) h1.row (by rw [zrow_size]; omega) (by decide) hLg hLB (by omega) (by omega) (by omega) hlen)
  go_wp2_with fail
  refine (unhide HT).mono ?_
  rintro e w2 ⟨rfl, hT⟩
  obtain ⟨cs2, hu2, h2⟩ := h1.took hT hbg hbB hwg
  have d0 : w2.cell? ⟨g, 0, none⟩ = some (bv x0) := (h2.row.cell 0).trans (by have := hu2.new 0 (by omega); rw [hx0] at this; exact this)
  have d1 : w2.cell? ⟨g, 1, none⟩ = some (bv (B1 true n)) := (h2.row.cell 1).trans (by have := hu2.new 1 (by omega); rw [hx1] at this; exact this)
  have hs2 : cs2.size = 12 := by rw [hu2.size, zrow_size]
  obtain ⟨c0, c1, c2, c3, c4, c5, c6, c7, c8⟩ := row9 h2.hdr
  have f0 := h2.hdr.frozen 0
  have f1 := h2.hdr.frozen 1
  have f2 := h2.hdr.frozen 2
  have f3 := h2.hdr.frozen 3
  have f8 := h2.hdr.frozen 8
  have H2 := hide h2
  have HS2 := hide hs2
  have hlb : (bs.drop 2).length < 4 := by rw [List.length_drop]; omega
  clear HT hT h1 hu2 h2 hs2 hx0 hx1 hlen hlen2
  go_upto_region 21 with fail
  refine wp_abs (fun w3 => Rhs w w3 B L b2 g (wcells (bits .and .u8 (x0.toNat : Int) 128 != 0) (bits .and .u8 (x0.toNat : Int) 112 / 16) (bits .and .u8 (x0.toNat : Int) 15) true z4 (n : Int)) cs2 (bs.drop 2)) ((((((unhide H2).set hbg hbB hLb hwb (i := 0) _).set hbg hbB hLb hwb (i := 1) _).set hbg hbB hLb hwb (i := 2) _).set hbg hbB hLb hwb (i := 3) _).set hbg hbB hLb hwb (i := 8) _) ?_
  clear c0 c1 c2 c3 c4 c5 c6 c7 c8 f0 f1 f2 f3 f8 d0 d1 H2 e4 e5
  rintro w3 h3
  have HT := hide (readFull_fell w3 B L _ h3.buf 5 g 0 4 12 cs2 h3.row (by rw [unhide HS2]; omega) (by decide) hLg hLB (Nat.le_trans hLw h3.kp.size) (by omega) (by omega) hlb)
  go_wp2_with fail
  refine (unhide HT).mono ?_
  rintro e w4 ⟨k, s, bsN, rfl, hq1, hq2⟩
  obtain ⟨z1, z2, z3⟩ := h3.fell hq1 hq2 hbg hbB hwg
  have hN : Lost w w4 B L b2 (wcells (bits .and .u8 (x0.toNat : Int) 128 != 0) (bits .and .u8 (x0.toNat : Int) 112 / 16) (bits .and .u8 (x0.toNat : Int) 15) true z4 (n : Int)) bsN := ⟨z1, z2, z3⟩
  clear HT h3 hq1 hq2 z1 z2 z3
  obtain ⟨c0, c1, c2, c3, c4, c5, c6, c7, c8⟩ := row9 hN.hdr
  obtain ⟨f0, f1, f2, f3, f4, f5, f6, f7, f8⟩ := row9f hN.hdr
  have HN := hide hN
  clear hN
  go_wp2_with fail
  refine bp_abs (fun w5 => Lost w w5 B L b2 (wcells (bits .and .u8 (x0.toNat : Int) 128 != 0) (bits .and .u8 (x0.toNat : Int) 112 / 16) (bits .and .u8 (x0.toNat : Int) 15) true z4 (n : Int)) bsN) ((unhide HN).put9 hbB hLb hwb) ?_
  clear c0 c1 c2 c3 c4 c5 c6 c7 c8 f0 f1 f2 f3 f4 f5 f6 f7 f8
  rintro w5 h5
  obtain ⟨c0, c1, c2, c3, c4, c5, c6, c7, c8⟩ := row9 h5.hdr
  refine bodyPost_ret (v := .tuple #[wval (bits .and .u8 (x0.toNat : Int) 128 != 0) (bits .and .u8 (x0.toNat : Int) 112 / 16) (bits .and .u8 (x0.toNat : Int) 15) true z4 (n : Int), .iface 143 (.string s)]) (by simp [results, Tryd.results90, go_sem, c0, c1, c2, c3, c4, c5, c6, c7, c8]) rfl ⟨_, _, _, _, _, _, s, bsN, rfl, h5.buf, h5.kp⟩

set_option maxRecDepth 100000 in
set_option maxHeartbeats 8000000 in
theorem readHeader_cut2f (w : World) (B L : Nat) (fin : Bool) (r o : Nat) (M : Nat → UInt8) (n : Nat) (bs : List UInt8) (h1 : 126 ≤ n) (h2 : n < 65536) (hlen : 2 ≤ bs.length) (hlen2 : bs.length < 4)
    (hx0 : bs.getD 0 0 = B0 fin r o) (hx1 : bs.getD 1 0 = B1 false n) (h : BufR w B L bs) (hLB : L ≤ B) (hLw : L ≤ w.heap.size) :
    Calls Tryd.prog 90 #[rdr B] w fun e w' => CutH w w' B L e := by
  have e4 := and_mk false n
  have e5 := and_len false n
  have hL7 : L7 n = 126 := by rw [L7, if_neg (by omega), if_pos h2]
  rw [hL7] at e5
  simp only [Bool.false_eq_true, if_false] at e4
  clear hL7
  obtain ⟨x0, q0⟩ : ∃ x, x = B0 fin r o := ⟨_, rfl⟩
  rw [← q0] at hx0
  clear q0
  have hmk : ∀ w, (Instr.makeSlice 22 (.int .i64 2) (.int .i64 12)).run Tryd.prog w = .ok (.slice (some ⟨w.heap.size, 0, none⟩) 2 12) (w.alloc (.cells (zrow 12) 5)) := fun w => run_make_bytes 2 12 (by omega) (by omega) w
  have hBw := h.at_
  have H := hide h
  clear h
  obtain ⟨b2, hb2⟩ : ∃ b2, b2 = w.heap.size := ⟨_, rfl⟩
  obtain ⟨g, hg⟩ : ∃ g, g = w.heap.size + 1 := ⟨_, rfl⟩
  have hbg : b2 ≠ g := by omega
  have hbB : b2 ≠ B := by omega
  have hwb : w.heap.size ≤ b2 := by omega
  have hwg : w.heap.size ≤ g := by omega
  have hLb : L ≤ b2 := by omega
  have hLg : L ≤ g := by omega
  go_enter Tryd.func90, Tryd.ntmps90
  go_upto_region 2 with fail
  refine wp_abs (fun w1 => Rhs w w1 B L b2 g (wcells false 0 0 false z4 0) (zrow 12) bs) ⟨?_, ?_, ?_, ?_⟩ ?_
  · rw [hb2]; exact (Blk.new w 78 _).alloc _
  · rw [hg]; exact Blk.new2 w _ 5 _
  · have k2 : KT w ((w.alloc (.cells (wcells false 0 0 false z4 0) 78)).alloc (.cells (zrow 12) 5)) := ((KT.refl w).alloc _).alloc _
    exact (unhide H).on k2 trivial (fun _ _ => trivial) hLw
  · exact ((Kp.refl _ w).alloc _).alloc _
  rw [← hg, ← hb2]
  clear hmk hg hb2 H
  rintro w1 h1
  have HT := hide (readFull_ok w1 B L _ h1.buf 5 g 0 2 12 (zrow 12) h1.row (by rw [zrow_size]; omega) (by decide) hLg hLB (by omega) (by omega) (by omega) hlen)
  go_wp2_with fail
  refine (unhide HT).mono ?_
  rintro e w2 ⟨rfl, hT⟩
  obtain ⟨cs2, hu2, h2⟩ := h1.took hT hbg hbB hwg
  have d0 : w2.cell? ⟨g, 0, none⟩ = some (bv x0) := (h2.row.cell 0).trans (by have := hu2.new 0 (by omega); rw [hx0] at this; exact this)
  have d1 : w2.cell? ⟨g, 1, none⟩ = some (bv (B1 false n)) := (h2.row.cell 1).trans (by have := hu2.new 1 (by omega); rw [hx1] at this; exact this)
  have hs2 : cs2.size = 12 := by rw [hu2.size, zrow_size]
  obtain ⟨c0, c1, c2, c3, c4, c5, c6, c7, c8⟩ := row9 h2.hdr
  have f0 := h2.hdr.frozen 0
  have f1 := h2.hdr.frozen 1
  have f2 := h2.hdr.frozen 2
  have f3 := h2.hdr.frozen 3
  have f8 := h2.hdr.frozen 8
  have H2 := hide h2
  have HS2 := hide hs2
  have hlb : (bs.drop 2).length < 2 := by rw [List.length_drop]; omega
  clear HT hT h1 hu2 h2 hs2 hx0 hx1 hlen hlen2
  go_upto_region 21 with fail
  refine wp_abs (fun w3 => Rhs w w3 B L b2 g (wcells (bits .and .u8 (x0.toNat : Int) 128 != 0) (bits .and .u8 (x0.toNat : Int) 112 / 16) (bits .and .u8 (x0.toNat : Int) 15) false z4 0) cs2 (bs.drop 2)) ((((unhide H2).set hbg hbB hLb hwb (i := 0) _).set hbg hbB hLb hwb (i := 1) _).set hbg hbB hLb hwb (i := 2) _) ?_
  clear c0 c1 c2 c3 c4 c5 c6 c7 c8 f0 f1 f2 f3 f8 d0 d1 H2 e4 e5
  rintro w3 h3
  have HT := hide (readFull_fell w3 B L _ h3.buf 5 g 0 2 12 cs2 h3.row (by rw [unhide HS2]; omega) (by decide) hLg hLB (Nat.le_trans hLw h3.kp.size) (by omega) (by omega) hlb)
  go_wp2_with fail
  refine (unhide HT).mono ?_
  rintro e w4 ⟨k, s, bsN, rfl, hq1, hq2⟩
  obtain ⟨z1, z2, z3⟩ := h3.fell hq1 hq2 hbg hbB hwg
  have hN : Lost w w4 B L b2 (wcells (bits .and .u8 (x0.toNat : Int) 128 != 0) (bits .and .u8 (x0.toNat : Int) 112 / 16) (bits .and .u8 (x0.toNat : Int) 15) false z4 0) bsN := ⟨z1, z2, z3⟩
  clear HT h3 hq1 hq2 z1 z2 z3
  obtain ⟨c0, c1, c2, c3, c4, c5, c6, c7, c8⟩ := row9 hN.hdr
  obtain ⟨f0, f1, f2, f3, f4, f5, f6, f7, f8⟩ := row9f hN.hdr
  have HN := hide hN
  clear hN
  go_wp2_with fail
  refine bp_abs (fun w5 => Lost w w5 B L b2 (wcells (bits .and .u8 (x0.toNat : Int) 128 != 0) (bits .and .u8 (x0.toNat : Int) 112 / 16) (bits .and .u8 (x0.toNat : Int) 15) false z4 0) bsN) ((unhide HN).put9 hbB hLb hwb) ?_
  clear c0 c1 c2 c3 c4 c5 c6 c7 c8 f0 f1 f2 f3 f4 f5 f6 f7 f8
  rintro w5 h5
  obtain ⟨c0, c1, c2, c3, c4, c5, c6, c7, c8⟩ := row9 h5.hdr
  refine bodyPost_ret (v := .tuple #[wval (bits .and .u8 (x0.toNat : Int) 128 != 0) (bits .and .u8 (x0.toNat : Int) 112 / 16) (bits .and .u8 (x0.toNat : Int) 15) false z4 0, .iface 143 (.string s)]) (by simp [results, Tryd.results90, go_sem, c0, c1, c2, c3, c4, c5, c6, c7, c8]) rfl ⟨_, _, _, _, _, _, s, bsN, rfl, h5.buf, h5.kp⟩

set_option maxRecDepth 100000 in
set_option maxHeartbeats 8000000 in
theorem readHeader_cut2t (w : World) (B L : Nat) (fin : Bool) (r o : Nat) (M : Nat → UInt8) (n : Nat) (bs : List UInt8) (h1 : 126 ≤ n) (h2 : n < 65536) (hlen : 2 ≤ bs.length) (hlen2 : bs.length < 8)
    (hx0 : bs.getD 0 0 = B0 fin r o) (hx1 : bs.getD 1 0 = B1 true n) (h : BufR w B L bs) (hLB : L ≤ B) (hLw : L ≤ w.heap.size) :
    Calls Tryd.prog 90 #[rdr B] w fun e w' => CutH w w' B L e := by
  have e4 := and_mk true n
  have e5 := and_len true n
  have hL7 : L7 n = 126 := by rw [L7, if_neg (by omega), if_pos h2]
  rw [hL7] at e5
  simp only [if_true] at e4
  clear hL7
  obtain ⟨x0, q0⟩ : ∃ x, x = B0 fin r o := ⟨_, rfl⟩
  rw [← q0] at hx0
  clear q0
  have hmk : ∀ w, (Instr.makeSlice 22 (.int .i64 2) (.int .i64 12)).run Tryd.prog w = .ok (.slice (some ⟨w.heap.size, 0, none⟩) 2 12) (w.alloc (.cells (zrow 12) 5)) := fun w => run_make_bytes 2 12 (by omega) (by omega) w
  have hBw := h.at_
  have H := hide h
  clear h
  obtain ⟨b2, hb2⟩ : ∃ b2, b2 = w.heap.size := ⟨_, rfl⟩
  obtain ⟨g, hg⟩ : ∃ g, g = w.heap.size + 1 := ⟨_, rfl⟩
  have hbg : b2 ≠ g := by omega
  have hbB : b2 ≠ B := by omega
  have hwb : w.heap.size ≤ b2 := by omega
  have hwg : w.heap.size ≤ g := by omega
  have hLb : L ≤ b2 := by omega
  have hLg : L ≤ g := by omega
  go_enter Tryd.func90, Tryd.ntmps90
  go_upto_region 2 with fail
  refine wp_abs (fun w1 => Rhs w w1 B L b2 g (wcells false 0 0 false z4 0) (zrow 12) bs) ⟨?_, ?_, ?_, ?_⟩ ?_
  · rw [hb2]; exact (Blk.new w 78 _).alloc _
  · rw [hg]; exact Blk.new2 w _ 5 _
  · have k2 : KT w ((w.alloc (.cells (wcells false 0 0 false z4 0) 78)).alloc (.cells (zrow 12) 5)) := ((KT.refl w).alloc _).alloc _
    exact (unhide H).on k2 trivial (fun _ _ => trivial) hLw
  · exact ((Kp.refl _ w).alloc _).alloc _
  rw [← hg, ← hb2]
  clear hmk hg hb2 H
  rintro w1 h1
  have HT := hide (readFull_ok w1 B L _ h1.buf 5 g 0 2 12 (zrow 12) h1.row (by rw [zrow_size]; omega) (by decide) hLg hLB (by omega) (by omega) (by omega) hlen)
  go_wp2_with fail
  refine (unhide HT).mono ?_
  rintro e w2 ⟨rfl, hT⟩
  obtain ⟨cs2, hu2, h2⟩ := h1.took hT hbg hbB hwg
  have d0 : w2.cell? ⟨g, 0, none⟩ = some (bv x0) := (h2.row.cell 0).trans (by have := hu2.new 0 (by omega); rw [hx0] at this; exact this)
  have d1 : w2.cell? ⟨g, 1, none⟩ = some (bv (B1 true n)) := (h2.row.cell 1).trans (by have := hu2.new 1 (by omega); rw [hx1] at this; exact this)
  have hs2 : cs2.size = 12 := by rw [hu2.size, zrow_size]
  obtain ⟨c0, c1, c2, c3, c4, c5, c6, c7, c8⟩ := row9 h2.hdr
  have f0 := h2.hdr.frozen 0
  have f1 := h2.hdr.frozen 1
  have f2 := h2.hdr.frozen 2
  have f3 := h2.hdr.frozen 3
  have f8 := h2.hdr.frozen 8
  have H2 := hide h2
  have HS2 := hide hs2
  have hlb : (bs.drop 2).length < 6 := by rw [List.length_drop]; omega
  clear HT hT h1 hu2 h2 hs2 hx0 hx1 hlen hlen2
  go_upto_region 21 with fail
  refine wp_abs (fun w3 => Rhs w w3 B L b2 g (wcells (bits .and .u8 (x0.toNat : Int) 128 != 0) (bits .and .u8 (x0.toNat : Int) 112 / 16) (bits .and .u8 (x0.toNat : Int) 15) true z4 0) cs2 (bs.drop 2)) (((((unhide H2).set hbg hbB hLb hwb (i := 0) _).set hbg hbB hLb hwb (i := 1) _).set hbg hbB hLb hwb (i := 2) _).set hbg hbB hLb hwb (i := 3) _) ?_
  clear c0 c1 c2 c3 c4 c5 c6 c7 c8 f0 f1 f2 f3 f8 d0 d1 H2 e4 e5
  rintro w3 h3
  have HT := hide (readFull_fell w3 B L _ h3.buf 5 g 0 6 12 cs2 h3.row (by rw [unhide HS2]; omega) (by decide) hLg hLB (Nat.le_trans hLw h3.kp.size) (by omega) (by omega) hlb)
  go_wp2_with fail
  refine (unhide HT).mono ?_
  rintro e w4 ⟨k, s, bsN, rfl, hq1, hq2⟩
  obtain ⟨z1, z2, z3⟩ := h3.fell hq1 hq2 hbg hbB hwg
  have hN : Lost w w4 B L b2 (wcells (bits .and .u8 (x0.toNat : Int) 128 != 0) (bits .and .u8 (x0.toNat : Int) 112 / 16) (bits .and .u8 (x0.toNat : Int) 15) true z4 0) bsN := ⟨z1, z2, z3⟩
  clear HT h3 hq1 hq2 z1 z2 z3
  obtain ⟨c0, c1, c2, c3, c4, c5, c6, c7, c8⟩ := row9 hN.hdr
  obtain ⟨f0, f1, f2, f3, f4, f5, f6, f7, f8⟩ := row9f hN.hdr
  have HN := hide hN
  clear hN
  go_wp2_with fail
  refine bp_abs (fun w5 => Lost w w5 B L b2 (wcells (bits .and .u8 (x0.toNat : Int) 128 != 0) (bits .and .u8 (x0.toNat : Int) 112 / 16) (bits .and .u8 (x0.toNat : Int) 15) true z4 0) bsN) ((unhide HN).put9 hbB hLb hwb) ?_
  clear c0 c1 c2 c3 c4 c5 c6 c7 c8 f0 f1 f2 f3 f4 f5 f6 f7 f8
  rintro w5 h5
  obtain ⟨c0, c1, c2, c3, c4, c5, c6, c7, c8⟩ := row9 h5.hdr
  refine bodyPost_ret (v := .tuple #[wval (bits .and .u8 (x0.toNat : Int) 128 != 0) (bits .and .u8 (x0.toNat : Int) 112 / 16) (bits .and .u8 (x0.toNat : Int) 15) true z4 0, .iface 143 (.string s)]) (by simp [results, Tryd.results90, go_sem, c0, c1, c2, c3, c4, c5, c6, c7, c8]) rfl ⟨_, _, _, _, _, _, s, bsN, rfl, h5.buf, h5.kp⟩

set_option maxRecDepth 100000 in
set_option maxHeartbeats 8000000 in
theorem readHeader_cut8f (w : World) (B L : Nat) (fin : Bool) (r o : Nat) (M : Nat → UInt8) (n : Nat) (bs : List UInt8) (h2 : 65536 ≤ n) (hlen : 2 ≤ bs.length) (hlen2 : bs.length < 10)
    (hx0 : bs.getD 0 0 = B0 fin r o) (hx1 : bs.getD 1 0 = B1 false n) (h : BufR w B L bs) (hLB : L ≤ B) (hLw : L ≤ w.heap.size) :
    Calls Tryd.prog 90 #[rdr B] w fun e w' => CutH w w' B L e := by
  have e4 := and_mk false n
  have e5 := and_len false n
  have hL7 : L7 n = 127 := by rw [L7, if_neg (by omega), if_neg (by omega)]
  rw [hL7] at e5
  simp only [Bool.false_eq_true, if_false] at e4
  clear hL7
  obtain ⟨x0, q0⟩ : ∃ x, x = B0 fin r o := ⟨_, rfl⟩
  rw [← q0] at hx0
  clear q0
  have hmk : ∀ w, (Instr.makeSlice 22 (.int .i64 2) (.int .i64 12)).run Tryd.prog w = .ok (.slice (some ⟨w.heap.size, 0, none⟩) 2 12) (w.alloc (.cells (zrow 12) 5)) := fun w => run_make_bytes 2 12 (by omega) (by omega) w
  have hBw := h.at_
  have H := hide h
  clear h
  obtain ⟨b2, hb2⟩ : ∃ b2, b2 = w.heap.size := ⟨_, rfl⟩
  obtain ⟨g, hg⟩ : ∃ g, g = w.heap.size + 1 := ⟨_, rfl⟩
  have hbg : b2 ≠ g := by omega
  have hbB : b2 ≠ B := by omega
  have hwb : w.heap.size ≤ b2 := by omega
  have hwg : w.heap.size ≤ g := by omega
  have hLb : L ≤ b2 := by omega
  have hLg : L ≤ g := by omega
  go_enter Tryd.func90, Tryd.ntmps90
  go_upto_region 2 with fail
  refine wp_abs (fun w1 => Rhs w w1 B L b2 g (wcells false 0 0 false z4 0) (zrow 12) bs) ⟨?_, ?_, ?_, ?_⟩ ?_
  · rw [hb2]; exact (Blk.new w 78 _).alloc _
  · rw [hg]; exact Blk.new2 w _ 5 _
  · have k2 : KT w ((w.alloc (.cells (wcells false 0 0 false z4 0) 78)).alloc (.cells (zrow 12) 5)) := ((KT.refl w).alloc _).alloc _
    exact (unhide H).on k2 trivial (fun _ _ => trivial) hLw
  · exact ((Kp.refl _ w).alloc _).alloc _
  rw [← hg, ← hb2]
  clear hmk hg hb2 H
  rintro w1 h1
  have HT := hide (readFull_ok w1 B L _ h1.buf 5 g 0 2 12 (zrow 12) h1.row (by rw [zrow_size]; omega) (by decide) hLg hLB (by omega) (by omega) (by omega) hlen)
  go_wp2_with fail
  refine (unhide HT).mono ?_
  rintro e w2 ⟨rfl, hT⟩
  obtain ⟨cs2, hu2, h2⟩ := h1.took hT hbg hbB hwg
  have d0 : w2.cell? ⟨g, 0, none⟩ = some (bv x0) := (h2.row.cell 0).trans (by have := hu2.new 0 (by omega); rw [hx0] at this; exact this)
  have d1 : w2.cell? ⟨g, 1, none⟩ = some (bv (B1 false n)) := (h2.row.cell 1).trans (by have := hu2.new 1 (by omega); rw [hx1] at this; exact this)
  have hs2 : cs2.size = 12 := by rw [hu2.size, zrow_size]
  obtain ⟨c0, c1, c2, c3, c4, c5, c6, c7, c8⟩ := row9 h2.hdr
  have f0 := h2.hdr.frozen 0
  have f1 := h2.hdr.frozen 1
  have f2 := h2.hdr.frozen 2
  have f3 := h2.hdr.frozen 3
  have f8 := h2.hdr.frozen 8
  have H2 := hide h2
  have HS2 := hide hs2
  have hlb : (bs.drop 2).length < 8 := by rw [List.length_drop]; omega
  clear HT hT h1 hu2 h2 hs2 hx0 hx1 hlen hlen2
  go_upto_region 21 with fail
  refine wp_abs (fun w3 => Rhs w w3 B L b2 g (wcells (bits .and .u8 (x0.toNat : Int) 128 != 0) (bits .and .u8 (x0.toNat : Int) 112 / 16) (bits .and .u8 (x0.toNat : Int) 15) false z4 0) cs2 (bs.drop 2)) ((((unhide H2).set hbg hbB hLb hwb (i := 0) _).set hbg hbB hLb hwb (i := 1) _).set hbg hbB hLb hwb (i := 2) _) ?_
  clear c0 c1 c2 c3 c4 c5 c6 c7 c8 f0 f1 f2 f3 f8 d0 d1 H2 e4 e5
  rintro w3 h3
  have HT := hide (readFull_fell w3 B L _ h3.buf 5 g 0 8 12 cs2 h3.row (by rw [unhide HS2]; omega) (by decide) hLg hLB (Nat.le_trans hLw h3.kp.size) (by omega) (by omega) hlb)
  go_wp2_with fail
  refine (unhide HT).mono ?_
  rintro e w4 ⟨k, s, bsN, rfl, hq1, hq2⟩
  obtain ⟨z1, z2, z3⟩ := h3.fell hq1 hq2 hbg hbB hwg
  have hN : Lost w w4 B L b2 (wcells (bits .and .u8 (x0.toNat : Int) 128 != 0) (bits .and .u8 (x0.toNat : Int) 112 / 16) (bits .and .u8 (x0.toNat : Int) 15) false z4 0) bsN := ⟨z1, z2, z3⟩
  clear HT h3 hq1 hq2 z1 z2 z3
  obtain ⟨c0, c1, c2, c3, c4, c5, c6, c7, c8⟩ := row9 hN.hdr
  obtain ⟨f0, f1, f2, f3, f4, f5, f6, f7, f8⟩ := row9f hN.hdr
  have HN := hide hN
  clear hN
  go_wp2_with fail
  refine bp_abs (fun w5 => Lost w w5 B L b2 (wcells (bits .and .u8 (x0.toNat : Int) 128 != 0) (bits .and .u8 (x0.toNat : Int) 112 / 16) (bits .and .u8 (x0.toNat : Int) 15) false z4 0) bsN) ((unhide HN).put9 hbB hLb hwb) ?_
  clear c0 c1 c2 c3 c4 c5 c6 c7 c8 f0 f1 f2 f3 f4 f5 f6 f7 f8
  rintro w5 h5
  obtain ⟨c0, c1, c2, c3, c4, c5, c6, c7, c8⟩ := row9 h5.hdr
  refine bodyPost_ret (v := .tuple #[wval (bits .and .u8 (x0.toNat : Int) 128 != 0) (bits .and .u8 (x0.toNat : Int) 112 / 16) (bits .and .u8 (x0.toNat : Int) 15) false z4 0, .iface 143 (.string s)]) (by simp [results, Tryd.results90, go_sem, c0, c1, c2, c3, c4, c5, c6, c7, c8]) rfl ⟨_, _, _, _, _, _, s, bsN, rfl, h5.buf, h5.kp⟩

set_option maxRecDepth 100000 in
set_option maxHeartbeats 8000000 in
theorem readHeader_cut8t (w : World) (B L : Nat) (fin : Bool) (r o : Nat) (M : Nat → UInt8) (n : Nat) (bs : List UInt8) (h2 : 65536 ≤ n) (hlen : 2 ≤ bs.length) (hlen2 : bs.length < 14)
    (hx0 : bs.getD 0 0 = B0 fin r o) (hx1 : bs.getD 1 0 = B1 true n) (h : BufR w B L bs) (hLB : L ≤ B) (hLw : L ≤ w.heap.size) :
    Calls Tryd.prog 90 #[rdr B] w fun e w' => CutH w w' B L e := by
  have e4 := and_mk true n
  have e5 := and_len true n
  have hL7 : L7 n = 127 := by rw [L7, if_neg (by omega), if_neg (by omega)]
  rw [hL7] at e5
  simp only [if_true] at e4
  clear hL7
  obtain ⟨x0, q0⟩ : ∃ x, x = B0 fin r o := ⟨_, rfl⟩
  rw [← q0] at hx0
  clear q0
  have hmk : ∀ w, (Instr.makeSlice 22 (.int .i64 2) (.int .i64 12)).run Tryd.prog w = .ok (.slice (some ⟨w.heap.size, 0, none⟩) 2 12) (w.alloc (.cells (zrow 12) 5)) := fun w => run_make_bytes 2 12 (by omega) (by omega) w
  have hBw := h.at_
  have H := hide h
  clear h
  obtain ⟨b2, hb2⟩ : ∃ b2, b2 = w.heap.size := ⟨_, rfl⟩
  obtain ⟨g, hg⟩ : ∃ g, g = w.heap.size + 1 := ⟨_, rfl⟩
  have hbg : b2 ≠ g := by omega
  have hbB : b2 ≠ B := by omega
  have hwb : w.heap.size ≤ b2 := by omega
  have hwg : w.heap.size ≤ g := by omega
  have hLb : L ≤ b2 := by omega
  have hLg : L ≤ g := by omega
  go_enter Tryd.func90, Tryd.ntmps90
  go_upto_region 2 with fail
  refine wp_abs (fun w1 => Rhs w w1 B L b2 g (wcells false 0 0 false z4 0) (zrow 12) bs) ⟨?_, ?_, ?_, ?_⟩ ?_
  · rw [hb2]; exact (Blk.new w 78 _).alloc _
  · rw [hg]; exact Blk.new2 w _ 5 _
  · have k2 : KT w ((w.alloc (.cells (wcells false 0 0 false z4 0) 78)).alloc (.cells (zrow 12) 5)) := ((KT.refl w).alloc _).alloc _
    exact (unhide H).on k2 trivial (fun _ _ => trivial) hLw
  · exact ((Kp.refl _ w).alloc _).alloc _
  rw [← hg, ← hb2]
  clear hmk hg hb2 H
  rintro w1 h1
  have HT := hide (readFull_ok w1 B L _ h1.buf 5 g 0 2 12 (zrow 12) h1.row (by rw [zrow_size]; omega) (by decide) hLg hLB (by omega) (by omega) (by omega) hlen)
  go_wp2_with fail
  refine (unhide HT).mono ?_
  rintro e w2 ⟨rfl, hT⟩
  obtain ⟨cs2, hu2, h2⟩ := h1.took hT hbg hbB hwg
  have d0 : w2.cell? ⟨g, 0, none⟩ = some (bv x0) := (h2.row.cell 0).trans (by have := hu2.new 0 (by omega); rw [hx0] at this; exact this)
  have d1 : w2.cell? ⟨g, 1, none⟩ = some (bv (B1 true n)) := (h2.row.cell 1).trans (by have := hu2.new 1 (by omega); rw [hx1] at this; exact this)
  have hs2 : cs2.size = 12 := by rw [hu2.size, zrow_size]
  obtain ⟨c0, c1, c2, c3, c4, c5, c6, c7, c8⟩ := row9 h2.hdr
  have f0 := h2.hdr.frozen 0
  have f1 := h2.hdr.frozen 1
  have f2 := h2.hdr.frozen 2
  have f3 := h2.hdr.frozen 3
  have f8 := h2.hdr.frozen 8
  have H2 := hide h2
  have HS2 := hide hs2
  have hlb : (bs.drop 2).length < 12 := by rw [List.length_drop]; omega
  clear HT hT h1 hu2 h2 hs2 hx0 hx1 hlen hlen2
  go_upto_region 21 with fail
  refine wp_abs (fun w3 => Rhs w w3 B L b2 g (wcells (bits .and .u8 (x0.toNat : Int) 128 != 0) (bits .and .u8 (x0.toNat : Int) 112 / 16) (bits .and .u8 (x0.toNat : Int) 15) true z4 0) cs2 (bs.drop 2)) (((((unhide H2).set hbg hbB hLb hwb (i := 0) _).set hbg hbB hLb hwb (i := 1) _).set hbg hbB hLb hwb (i := 2) _).set hbg hbB hLb hwb (i := 3) _) ?_
  clear c0 c1 c2 c3 c4 c5 c6 c7 c8 f0 f1 f2 f3 f8 d0 d1 H2 e4 e5
  rintro w3 h3
  have HT := hide (readFull_fell w3 B L _ h3.buf 5 g 0 12 12 cs2 h3.row (by rw [unhide HS2]; omega) (by decide) hLg hLB (Nat.le_trans hLw h3.kp.size) (by omega) (by omega) hlb)
  go_wp2_with fail
  refine (unhide HT).mono ?_
  rintro e w4 ⟨k, s, bsN, rfl, hq1, hq2⟩
  obtain ⟨z1, z2, z3⟩ := h3.fell hq1 hq2 hbg hbB hwg
  have hN : Lost w w4 B L b2 (wcells (bits .and .u8 (x0.toNat : Int) 128 != 0) (bits .and .u8 (x0.toNat : Int) 112 / 16) (bits .and .u8 (x0.toNat : Int) 15) true z4 0) bsN := ⟨z1, z2, z3⟩
  clear HT h3 hq1 hq2 z1 z2 z3
  obtain ⟨c0, c1, c2, c3, c4, c5, c6, c7, c8⟩ := row9 hN.hdr
  obtain ⟨f0, f1, f2, f3, f4, f5, f6, f7, f8⟩ := row9f hN.hdr
  have HN := hide hN
  clear hN
  go_wp2_with fail
  refine bp_abs (fun w5 => Lost w w5 B L b2 (wcells (bits .and .u8 (x0.toNat : Int) 128 != 0) (bits .and .u8 (x0.toNat : Int) 112 / 16) (bits .and .u8 (x0.toNat : Int) 15) true z4 0) bsN) ((unhide HN).put9 hbB hLb hwb) ?_
  clear c0 c1 c2 c3 c4 c5 c6 c7 c8 f0 f1 f2 f3 f4 f5 f6 f7 f8
  rintro w5 h5
  obtain ⟨c0, c1, c2, c3, c4, c5, c6, c7, c8⟩ := row9 h5.hdr
  refine bodyPost_ret (v := .tuple #[wval (bits .and .u8 (x0.toNat : Int) 128 != 0) (bits .and .u8 (x0.toNat : Int) 112 / 16) (bits .and .u8 (x0.toNat : Int) 15) true z4 0, .iface 143 (.string s)]) (by simp [results, Tryd.results90, go_sem, c0, c1, c2, c3, c4, c5, c6, c7, c8]) rfl ⟨_, _, _, _, _, _, s, bsN, rfl, h5.buf, h5.kp⟩

theorem readHeader_cut (w : World) (B L : Nat) (fin : Bool) (r o : Nat) (mk : Bool) (M : Nat → UInt8) (n k : Nat) (hk : k < (hbytes fin r o mk M n).length) (h : BufR w B L ((hbytes fin r o mk M n).take k)) (hLB : L ≤ B) (hLw : L ≤ w.heap.size) :
    Calls Tryd.prog 90 #[rdr B] w fun e w' => CutH w w' B L e := by
  have hl : ((hbytes fin r o mk M n).take k).length = k := by rw [List.length_take]; omega
  by_cases h2 : k < 2
  · exact readHeader_cutA w B L _ (by omega) h hLB hLw
  · have hx0 : ((hbytes fin r o mk M n).take k).getD 0 0 = B0 fin r o := by
      rw [List.getD, List.getElem?_take, if_pos (by omega)]; rfl
    have hx1 : ((hbytes fin r o mk M n).take k).getD 1 0 = B1 mk n := by
      rw [List.getD, List.getElem?_take, if_pos (by omega)]; rfl
    rw [hbytes_length] at hk
    by_cases h3 : n < 126
    · rw [if_pos h3] at hk
      cases mk
      · simp at hk; omega
      · exact readHeader_cut0t w B L fin r o M n _ h3 (by omega) (by rw [hl]; simpa using hk) hx0 hx1 h hLB hLw
    · rw [if_neg h3] at hk
      by_cases h4 : n < 65536
      · rw [if_pos h4] at hk
        cases mk
        · exact readHeader_cut2f w B L fin r o M n _ (by omega) h4 (by omega) (by rw [hl]; simpa using hk) hx0 hx1 h hLB hLw
        · exact readHeader_cut2t w B L fin r o M n _ (by omega) h4 (by omega) (by rw [hl]; simpa using hk) hx0 hx1 h hLB hLw
      · rw [if_neg h4] at hk
        cases mk
        · exact readHeader_cut8f w B L fin r o M n _ (by omega) (by omega) (by rw [hl]; simpa using hk) hx0 hx1 h hLB hLw
        · exact readHeader_cut8t w B L fin r o M n _ (by omega) (by omega) (by rw [hl]; simpa using hk) hx0 hx1 h hLB hLw
end Go.Proofs.YtechapgchjdhaaaDoor
