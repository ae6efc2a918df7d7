/- ws.ReadFrame: the walk. -/
import Derived.Test.YtechapgchjdhaaaDoorPri
namespace Go.Proofs.YtechapgchjdhaaaDoor
open Go.RowKit

/-- What has come of a call that reads a frame: the frame so far, the buffer. -/
structure Fst (w w' : World) (B L b2 : Nat) (fc : Array Value) (bs : List UInt8) : Prop where
  hdr : Blk w' b2 82 fc
  buf : BufR w' B L bs
  kp : Kp (· ≠ B) w w'
theorem Fst.set {w w1 : World} {B L b2 i : Nat} {l : List Value} {bs : List UInt8} (h : Fst w w1 B L b2 l.toArray bs) (hB : b2 ≠ B) (hL : L ≤ b2) (hw : w.heap.size ≤ b2) (v : Value) : Fst w (w1.setCell ⟨b2, i, none⟩ v) B L b2 (l.set i v).toArray bs :=
  ⟨h.hdr.put i v, h.buf.set (p := ⟨b2, i, none⟩) (Ne.symm hB) hL v, h.kp.setCell (p := ⟨b2, i, none⟩) (fun hlt => absurd hlt (by show ¬ b2 < w.heap.size; omega)) v⟩
theorem Fst.put9 {w w1 : World} {B L b2 : Nat} {a0 a1 a2 a3 a4 a5 a6 a7 a8 a9 v0 v1 v2 v3 v4 v5 v6 v7 v8 : Value} {bs : List UInt8} (h : Fst w w1 B L b2 #[a0, a1, a2, a3, a4, a5, a6, a7, a8, a9] bs) (hB : b2 ≠ B) (hL : L ≤ b2) (hw : w.heap.size ≤ b2) :
    Fst w (((((((((w1.setCell ⟨b2, 0, none⟩ v0).setCell ⟨b2, 1, none⟩ v1).setCell ⟨b2, 2, none⟩ v2).setCell ⟨b2, 3, none⟩ v3).setCell ⟨b2, 4, none⟩ v4).setCell ⟨b2, 5, none⟩ v5).setCell ⟨b2, 6, none⟩ v6).setCell ⟨b2, 7, none⟩ v7).setCell ⟨b2, 8, none⟩ v8) B L b2 #[v0, v1, v2, v3, v4, v5, v6, v7, v8, a9] bs :=
  ((((((((h.set hB hL hw (i := 0) _).set hB hL hw (i := 1) _).set hB hL hw (i := 2) _).set hB hL hw (i := 3) _).set hB hL hw (i := 4) _).set hB hL hw (i := 5) _).set hB hL hw (i := 6) _).set hB hL hw (i := 7) _).set hB hL hw (i := 8) _
theorem Fst.put10 {w w1 : World} {B L b2 : Nat} {a0 a1 a2 a3 a4 a5 a6 a7 a8 a9 v0 v1 v2 v3 v4 v5 v6 v7 v8 v9 : Value} {bs : List UInt8} (h : Fst w w1 B L b2 #[a0, a1, a2, a3, a4, a5, a6, a7, a8, a9] bs) (hB : b2 ≠ B) (hL : L ≤ b2) (hw : w.heap.size ≤ b2) :
    Fst w ((((((((((w1.setCell ⟨b2, 0, none⟩ v0).setCell ⟨b2, 1, none⟩ v1).setCell ⟨b2, 2, none⟩ v2).setCell ⟨b2, 3, none⟩ v3).setCell ⟨b2, 4, none⟩ v4).setCell ⟨b2, 5, none⟩ v5).setCell ⟨b2, 6, none⟩ v6).setCell ⟨b2, 7, none⟩ v7).setCell ⟨b2, 8, none⟩ v8).setCell ⟨b2, 9, none⟩ v9) B L b2 #[v0, v1, v2, v3, v4, v5, v6, v7, v8, v9] bs :=
  (((((((((h.set hB hL hw (i := 0) _).set hB hL hw (i := 1) _).set hB hL hw (i := 2) _).set hB hL hw (i := 3) _).set hB hL hw (i := 4) _).set hB hL hw (i := 5) _).set hB hL hw (i := 6) _).set hB hL hw (i := 7) _).set hB hL hw (i := 8) _).set hB hL hw (i := 9) _

/-- A slice that reads as these bytes and lies in no block below lo. -/
def RdN (w : World) (lo : Nat) (A : Option Addr) (bs : List UInt8) : Prop := bs ≠ [] → ∃ g off, A = some ⟨g, off, none⟩ ∧ lo ≤ g ∧ g < w.heap.size ∧ Byt w g off bs
section
variable {w w' : World} {lo : Nat} {A : Option Addr} {bs : List UInt8}
theorem RdN.rd (h : RdN w lo A bs) : Rd w w.heap.size A bs := fun hne => by
  obtain ⟨g, off, e, _, h2, h3⟩ := h hne
  exact ⟨g, off, e, h2, h3⟩
theorem RdN.kp {S : Nat → Prop} (h : RdN w lo A bs) (hk : Kp S w w') (hs : ∀ g, lo ≤ g → S g) : RdN w' lo A bs := fun hne => by
  obtain ⟨g, off, e, h1, h2, h3⟩ := h hne
  exact ⟨g, off, e, h1, Nat.lt_of_lt_of_le h2 hk.size, h3.kp hk h2 (hs g h1)⟩
theorem RdN.set (h : RdN w lo A bs) {p : Addr} (hp : p.block < lo) (v : Value) : RdN (w.setCell p v) lo A bs := fun hne => by
  obtain ⟨g, off, e, h1, h2, h3⟩ := h hne
  exact ⟨g, off, e, h1, by simpa using h2, h3.setCell (by omega) v⟩
theorem RdN.mono {lo' : Nat} (h : RdN w lo A bs) (hl : lo' ≤ lo) : RdN w lo' A bs := fun hne => by
  obtain ⟨g, off, e, h1, h2, h3⟩ := h hne
  exact ⟨g, off, e, by omega, h2, h3⟩
theorem RdN.nil : RdN w lo A [] := fun h => absurd rfl h
theorem RdN.put10 {b : Nat} (h : RdN w lo A bs) (hp : b < lo) (v0 v1 v2 v3 v4 v5 v6 v7 v8 v9 : Value) :
    RdN ((((((((((w.setCell ⟨b, 0, none⟩ v0).setCell ⟨b, 1, none⟩ v1).setCell ⟨b, 2, none⟩ v2).setCell ⟨b, 3, none⟩ v3).setCell ⟨b, 4, none⟩ v4).setCell ⟨b, 5, none⟩ v5).setCell ⟨b, 6, none⟩ v6).setCell ⟨b, 7, none⟩ v7).setCell ⟨b, 8, none⟩ v8).setCell ⟨b, 9, none⟩ v9) lo A bs :=
  (((((((((h.set (p := ⟨b, 0, none⟩) hp _).set (p := ⟨b, 1, none⟩) hp _).set (p := ⟨b, 2, none⟩) hp _).set (p := ⟨b, 3, none⟩) hp _).set (p := ⟨b, 4, none⟩) hp _).set (p := ⟨b, 5, none⟩) hp _).set (p := ⟨b, 6, none⟩) hp _).set (p := ⟨b, 7, none⟩) hp _).set (p := ⟨b, 8, none⟩) hp _).set (p := ⟨b, 9, none⟩) hp _
end

/-- A frame that was read. -/
def NewFr (w w' : World) (B L : Nat) (fin : Bool) (r o : Nat) (mk : Bool) (M : Nat → UInt8) (ps rest : List UInt8) (e : Ending) : Prop :=
  ∃ A, e = .returned (.tuple #[fval fin r o mk M ps.length (.slice A ps.length ps.length), .nilIface]) ∧ RdN w' w.heap.size A ps ∧ BufR w' B L rest ∧ Kp (· ≠ B) w w'

set_option maxRecDepth 100000 in
set_option maxHeartbeats 4000000 in
theorem readFrame (w : World) (B L : Nat) (fin : Bool) (r o : Nat) (mk : Bool) (M : Nat → UInt8) (ps rest : List UInt8) (hr : r < 8) (ho : o < 16) (hps : ps.length ≤ 2147483647) (hz : mk = true ∨ M = z4)
    (h : BufR w B L (hbytes fin r o mk M ps.length ++ (ps ++ rest))) (hLB : L ≤ B) (hLw : L ≤ w.heap.size) :
    Calls Tryd.prog 92 #[rdr B] w fun e w' => NewFr w w' B L fin r o mk M ps rest e := by
  have HR : Hid (∀ w B L, BufR w B L (hbytes fin r o mk M ps.length ++ (ps ++ rest)) → L ≤ B → L ≤ w.heap.size → Calls Tryd.prog 90 #[rdr B] w fun e w' => NewHdr w w' B L (wval fin r o mk M ps.length) (ps ++ rest) e) := fun w B L h h1 h2 => readHeader w B L fin r o mk M ps.length (ps ++ rest) hr ho (by omega) hz h h1 h2
  have hBw := h.at_
  have H := hide h
  clear h hr ho hz
  obtain ⟨b2, hb2⟩ : ∃ b2, b2 = w.heap.size := ⟨_, rfl⟩
  have hbB : b2 ≠ B := by omega
  have hwb : w.heap.size ≤ b2 := by omega
  have hLb : L ≤ b2 := by omega
  go_enter Tryd.func92, Tryd.ntmps92
  go_upto_region 1 with fail
  refine wp_abs (fun w1 => Fst w w1 B L b2 (fcells false 0 0 false z4 0 (.slice none 0 0)) (hbytes fin r o mk M ps.length ++ (ps ++ rest))) ⟨?_, ?_, ?_⟩ ?_
  · rw [hb2]; exact Blk.new w 82 _
  · have k2 : KT w (w.alloc (.cells (fcells false 0 0 false z4 0 (.slice none 0 0)) 82)) := (KT.refl w).alloc _
    exact (unhide H).on k2 trivial (fun _ _ => trivial) hLw
  · exact (Kp.refl _ w).alloc _
  rw [← hb2]
  clear hb2 H
  rintro w1 h1
  go_wp2_with fail
  refine (unhide HR w1 B L h1.buf hLB (Nat.le_trans hLw h1.kp.size)).mono ?_
  rintro e w2 ⟨rfl, hq1, hq2⟩
  have h2 : Fst w w2 B L b2 (fcells false 0 0 false z4 0 (.slice none 0 0)) (ps ++ rest) := ⟨h1.hdr.kp hq2 hbB, hq1, h1.kp.trans hq2⟩
  obtain ⟨c0, c1, c2, c3, c4, c5, c6, c7, c8, c9⟩ := row10 h2.hdr
  obtain ⟨f0, f1, f2, f3, f4, f5, f6, f7, f8, f9⟩ := free10 h2.hdr
  have H2 := hide h2
  clear h1 hq1 hq2 h2 HR
  go_upto_region 2 with fail
  refine wp_abs (fun w3 => Fst w w3 B L b2 (fcells fin r o mk M ps.length (.slice none 0 0)) (ps ++ rest)) ((unhide H2).put9 hbB hLb hwb) ?_
  clear c0 c1 c2 c3 c4 c5 c6 c7 c8 c9 f0 f1 f2 f3 f4 f5 f6 f7 f8 f9 H2
  rintro w3 h3
  by_cases h0 : ps = []
  · subst h0
    obtain ⟨c0, c1, c2, c3, c4, c5, c6, c7, c8, c9⟩ := row10 h3.hdr
    obtain ⟨f0, f1, f2, f3, f4, f5, f6, f7, f8, f9⟩ := free10 h3.hdr
    have H3 := hide h3
    clear h3
    simp only [List.length_nil] at c8
    go_wp2_with fail
    refine bp_abs (fun w5 => Fst w w5 B L b2 (fcells fin r o mk M 0 (.slice none 0 0)) rest) ((unhide H3).put10 hbB hLb hwb) ?_
    clear c0 c1 c2 c3 c4 c5 c6 c7 c8 c9 f0 f1 f2 f3 f4 f5 f6 f7 f8 f9
    rintro w5 h5
    obtain ⟨c0, c1, c2, c3, c4, c5, c6, c7, c8, c9⟩ := row10 h5.hdr
    refine bodyPost_ret (v := .tuple #[fval fin r o mk M 0 (.slice none 0 0), .nilIface]) (by simp [results, Tryd.results92, go_sem, c0, c1, c2, c3, c4, c5, c6, c7, c8, c9]) rfl ⟨none, rfl, RdN.nil, h5.buf, h5.kp⟩
  · have hpos := List.length_pos_iff.2 h0
    have hmk := run_make_bytes ps.length ps.length (Nat.le_refl _) (by omega)
    have hn0 : decide (0 < (ps.length : Int)) = true := by simp; omega
    obtain ⟨c0, c1, c2, c3, c4, c5, c6, c7, c8, c9⟩ := row10 h3.hdr
    obtain ⟨f0, f1, f2, f3, f4, f5, f6, f7, f8, f9⟩ := free10 h3.hdr
    have H3 := hide h3
    have hb3 := h3.hdr.lt
    clear h3
    go_upto_region 6 with fail
    refine wp_abs (fun w4 => Fst w w4 B L b2 (fcells fin r o mk M ps.length (.slice (some ⟨w3.heap.size, 0, none⟩) ps.length ps.length)) (ps ++ rest) ∧ Blk w4 w3.heap.size 5 (zrow ps.length)) ⟨?_, ?_⟩ ?_
    · have ha := (unhide H3).set hbB hLb hwb (i := 9) (.slice (some ⟨w3.heap.size, 0, none⟩) ps.length ps.length)
      exact ⟨ha.hdr.alloc _, ha.buf.on ((KT.refl _).alloc _) trivial (fun _ _ => trivial) (Nat.le_trans hLw ha.kp.size), ha.kp.alloc _⟩
    · have := Blk.new (w3.setCell ⟨b2, 9, none⟩ (.slice (some ⟨w3.heap.size, 0, none⟩) ps.length ps.length)) 5 (zrow ps.length)
      rw [World.size_setCell] at this
      exact this
    obtain ⟨g, hg⟩ : ∃ g, g = w3.heap.size := ⟨_, rfl⟩
    rw [← hg]
    have hLg : L ≤ g := by have := (unhide H3).kp.size; omega
    have hgb : b2 ≠ g := by omega
    have hgb2 : b2 < g := by omega
    have hgw : w.heap.size ≤ g := by have := (unhide H3).kp.size; omega
    clear c0 c1 c2 c3 c4 c5 c6 c7 c8 c9 f0 f1 f2 f3 f4 f5 f6 f7 f8 f9 hmk hg H3 hb3
    rintro w4 ⟨h4, hz4⟩
    have HT := hide (readFull_ok w4 B L _ h4.buf 5 g 0 ps.length ps.length (zrow ps.length) hz4 (by rw [zrow_size]; omega) (by decide) hLg hLB hpos (Nat.le_refl _) (by omega) (by rw [List.length_append]; omega))
    obtain ⟨c0, c1, c2, c3, c4, c5, c6, c7, c8, c9⟩ := row10 h4.hdr
    go_wp2_with fail
    refine (unhide HT).mono ?_
    rintro e w5 ⟨rfl, hT⟩
    obtain ⟨cs5, hb5, hu5⟩ := hT.row
    have hby : Byt w5 g 0 ps := by
      intro i hi
      rw [Nat.zero_add, hb5.cell]
      have := hu5.new i hi
      rw [Nat.zero_add] at this
      rw [this]
      simp [List.getD, List.getElem?_append, hi]
    have hrd : RdN w5 (b2 + 1) (some ⟨g, 0, none⟩) ps := fun _ => ⟨g, 0, rfl, by omega, hb5.lt, hby⟩
    have h5 : Fst w w5 B L b2 (fcells fin r o mk M ps.length (.slice (some ⟨g, 0, none⟩) ps.length ps.length)) rest :=
      ⟨h4.hdr.kp hT.kp ⟨hgb, hbB⟩, by have := hT.buf; rwa [List.drop_left] at this, h4.kp.then_ hT.kp (fun i hi hi2 => ⟨by omega, hi2⟩)⟩
    have HRD := hide hrd
    have H5 := hide h5
    clear c0 c1 c2 c3 c4 c5 c6 c7 c8 c9 HT hT h4 hz4 hby hb5 hu5 hrd
    obtain ⟨c0, c1, c2, c3, c4, c5, c6, c7, c8, c9⟩ := row10 h5.hdr
    obtain ⟨f0, f1, f2, f3, f4, f5, f6, f7, f8, f9⟩ := free10 h5.hdr
    clear h5
    go_wp2_with fail
    refine bp_abs (fun w6 => Fst w w6 B L b2 (fcells fin r o mk M ps.length (.slice (some ⟨g, 0, none⟩) ps.length ps.length)) rest ∧ RdN w6 w.heap.size (some ⟨g, 0, none⟩) ps) ⟨(unhide H5).put10 hbB hLb hwb, ?_⟩ ?_
    · exact ((unhide HRD).put10 (Nat.lt_succ_self b2) _ _ _ _ _ _ _ _ _ _).mono (by omega)
    clear c0 c1 c2 c3 c4 c5 c6 c7 c8 c9 f0 f1 f2 f3 f4 f5 f6 f7 f8 f9
    rintro w6 ⟨h6, hrd6⟩
    obtain ⟨c0, c1, c2, c3, c4, c5, c6, c7, c8, c9⟩ := row10 h6.hdr
    refine bodyPost_ret (v := .tuple #[fval fin r o mk M ps.length (.slice (some ⟨g, 0, none⟩) ps.length ps.length), .nilIface]) (by simp [results, Tryd.results92, go_sem, c0, c1, c2, c3, c4, c5, c6, c7, c8, c9]) rfl ⟨some ⟨g, 0, none⟩, rfl, hrd6, h6.buf, h6.kp⟩
end Go.Proofs.YtechapgchjdhaaaDoor
