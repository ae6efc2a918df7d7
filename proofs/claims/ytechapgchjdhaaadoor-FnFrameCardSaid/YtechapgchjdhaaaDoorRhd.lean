/- ws.ReadHeader: the walk. -/
import Derived.Test.YtechapgchjdhaaaDoorRhb
import Derived.Test.YtechapgchjdhaaaDoorFhd
namespace Go.Proofs.YtechapgchjdhaaaDoor
open Go.RowKit

theorem BufR.set {w : World} {B L : Nat} {bs : List UInt8} (h : BufR w B L bs) {p : Addr} (hB : B ≠ p.block) (hL : L ≤ p.block) (v : Value) : BufR (w.setCell p v) B L bs := by
  obtain ⟨A, c, hb, hr, h1, h2⟩ := h
  exact ⟨A, c, hb.far hB v, hr.setCell hL v, h1, h2⟩
theorem BufR.at_ {w : World} {B L : Nat} {bs : List UInt8} (h : BufR w B L bs) : B < w.heap.size := by
  obtain ⟨A, c, hb, _⟩ := h
  exact hb.lt

/-- What has come of a call that reads a header: the header so far, the row, the buffer. -/
structure Rhs (w w' : World) (B L b2 g : Nat) (hc cs : Array Value) (bs : List UInt8) : Prop where
  hdr : Blk w' b2 78 hc
  row : Blk w' g 5 cs
  buf : BufR w' B L bs
  kp : Kp (· ≠ B) w w'

theorem Rhs.took {w w1 w2 : World} {B L b2 g k : Nat} {hc cs : Array Value} {bs : List UInt8} (h : Rhs w w1 B L b2 g hc cs bs) (h2 : Took w1 w2 B L g 5 0 k cs bs) (hb2 : b2 ≠ g) (hB : b2 ≠ B) (hg : w.heap.size ≤ g) : ∃ cs', Upd cs cs' 0 k (fun i => bs.getD i 0) ∧ Rhs w w2 B L b2 g hc cs' (bs.drop k) := by
  obtain ⟨cs', hb, hu⟩ := h2.row
  exact ⟨cs', hu, h.hdr.kp h2.kp ⟨hb2, hB⟩, hb, h2.buf, h.kp.then_ h2.kp (fun i hi hi2 => ⟨by omega, hi2⟩)⟩

theorem Rhs.set {w w1 : World} {B L b2 g i : Nat} {l : List Value} {cs : Array Value} {bs : List UInt8} (h : Rhs w w1 B L b2 g l.toArray cs bs) (hb2 : b2 ≠ g) (hB : b2 ≠ B) (hL : L ≤ b2) (hw : w.heap.size ≤ b2) (v : Value) : Rhs w (w1.setCell ⟨b2, i, none⟩ v) B L b2 g (l.set i v).toArray cs bs :=
  ⟨h.hdr.put i v, h.row.far (p := ⟨b2, i, none⟩) (Ne.symm hb2) v, h.buf.set (p := ⟨b2, i, none⟩) (Ne.symm hB) hL v, h.kp.setCell (p := ⟨b2, i, none⟩) (fun hlt => absurd hlt (by show ¬ b2 < w.heap.size; omega)) v⟩

def NewHdr (w w' : World) (B L : Nat) (v : Value) (rest : List UInt8) (e : Ending) : Prop := e = .returned (.tuple #[v, .nilIface]) ∧ BufR w' B L rest ∧ Kp (· ≠ B) w w'

abbrev z4 : Nat → UInt8 := fun _ => 0

theorem put_mask {a0 a1 a2 a3 a4 a5 a6 a7 a8 : Value} {cs' : Array Value} {M : Nat → UInt8} {F : Nat → UInt8} (h : Upd #[a0, a1, a2, a3, a4, a5, a6, a7, a8] cs' 4 4 F) (hF : ∀ i, i < 4 → F i = M i) : cs' = #[a0, a1, a2, a3, bv (M 0), bv (M 1), bv (M 2), bv (M 3), a8] := by
  apply Array.ext_getElem?
  intro i
  match i with
  | 0 => exact h.old 0 (by omega)
  | 1 => exact h.old 1 (by omega)
  | 2 => exact h.old 2 (by omega)
  | 3 => exact h.old 3 (by omega)
  | 4 => exact (h.new 0 (by omega)).trans (by rw [hF 0 (by omega)]; rfl)
  | 5 => exact (h.new 1 (by omega)).trans (by rw [hF 1 (by omega)]; rfl)
  | 6 => exact (h.new 2 (by omega)).trans (by rw [hF 2 (by omega)]; rfl)
  | 7 => exact (h.new 3 (by omega)).trans (by rw [hF 3 (by omega)]; rfl)
  | j + 8 => exact h.old (j + 8) (by omega)

theorem Rhs.put9 {w w1 : World} {B L b2 g : Nat} {a0 a1 a2 a3 a4 a5 a6 a7 a8 v0 v1 v2 v3 v4 v5 v6 v7 v8 : Value} {cs : Array Value} {bs : List UInt8} (h : Rhs w w1 B L b2 g #[a0, a1, a2, a3, a4, a5, a6, a7, a8] cs bs) (hb2 : b2 ≠ g) (hB : b2 ≠ B) (hL : L ≤ b2) (hw : w.heap.size ≤ b2) :
    Rhs w (((((((((w1.setCell ⟨b2, 0, none⟩ v0).setCell ⟨b2, 1, none⟩ v1).setCell ⟨b2, 2, none⟩ v2).setCell ⟨b2, 3, none⟩ v3).setCell ⟨b2, 4, none⟩ v4).setCell ⟨b2, 5, none⟩ v5).setCell ⟨b2, 6, none⟩ v6).setCell ⟨b2, 7, none⟩ v7).setCell ⟨b2, 8, none⟩ v8) B L b2 g #[v0, v1, v2, v3, v4, v5, v6, v7, v8] cs bs :=
  ((((((((h.set hb2 hB hL hw (i := 0) _).set hb2 hB hL hw (i := 1) _).set hb2 hB hL hw (i := 2) _).set hb2 hB hL hw (i := 3) _).set hb2 hB hL hw (i := 4) _).set hb2 hB hL hw (i := 5) _).set hb2 hB hL hw (i := 6) _).set hb2 hB hL hw (i := 7) _).set hb2 hB hL hw (i := 8) _

theorem row9f {w : World} {g : Nat} {t : TypeId} {cs : Array Value} (h : Blk w g t cs) : w.frozen? ⟨g, 0, none⟩ = false ∧ w.frozen? ⟨g, 1, none⟩ = false ∧ w.frozen? ⟨g, 2, none⟩ = false ∧ w.frozen? ⟨g, 3, none⟩ = false ∧ w.frozen? ⟨g, 4, none⟩ = false ∧
    w.frozen? ⟨g, 5, none⟩ = false ∧ w.frozen? ⟨g, 6, none⟩ = false ∧ w.frozen? ⟨g, 7, none⟩ = false ∧ w.frozen? ⟨g, 8, none⟩ = false :=
  ⟨h.frozen 0, h.frozen 1, h.frozen 2, h.frozen 3, h.frozen 4, h.frozen 5, h.frozen 6, h.frozen 7, h.frozen 8⟩

set_option maxRecDepth 100000 in
set_option maxHeartbeats 8000000 in
theorem readHeader0 (w : World) (B L : Nat) (fin : Bool) (r o : Nat) (mk : Bool) (M : Nat → UInt8) (n : Nat) (rest : List UInt8) (hr : r < 8) (ho : o < 16) (hn : n < 126) (hz : mk = true ∨ M = z4)
    (h : BufR w B L (hbytes fin r o mk M n ++ rest)) (hLB : L ≤ B) (hLw : L ≤ w.heap.size) :
    Calls Tryd.prog 90 #[rdr B] w fun e w' => NewHdr w w' B L (wval fin r o mk M n) rest e := by
  have e1 := and_fin fin r hr o ho
  have e2 := and_rsv fin r hr o ho
  have e3 := and_op fin r hr o ho
  have e4 := and_mk mk n
  have e5 := and_len mk n
  have hL7 : L7 n = n := by simp [L7, hn]
  rw [hL7] at e5
  have hmk : ∀ w, (Instr.makeSlice 22 (.int .i64 2) (.int .i64 12)).run Tryd.prog w = .ok (.slice (some ⟨w.heap.size, 0, none⟩) 2 12) (w.alloc (.cells (zrow 12) 5)) := fun w => run_make_bytes 2 12 (by omega) (by omega) w
  have hBw := h.at_
  have H := hide h
  clear h hL7
  obtain ⟨b2, hb2⟩ : ∃ b2, b2 = w.heap.size := ⟨_, rfl⟩
  obtain ⟨g, hg⟩ : ∃ g, g = w.heap.size + 1 := ⟨_, rfl⟩
  have hbg : b2 ≠ g := by omega
  have hbB : b2 ≠ B := by omega
  have hwb : w.heap.size ≤ b2 := by omega
  have hwg : w.heap.size ≤ g := by omega
  have hLb : L ≤ b2 := by omega
  have hLg : L ≤ g := by omega
  go_enter Tryd.func90, Tryd.ntmps90
  go_upto_region 2 with fail
  refine wp_abs (fun w1 => Rhs w w1 B L b2 g (wcells false 0 0 false z4 0) (zrow 12) (hbytes fin r o mk M n ++ rest)) ⟨?_, ?_, ?_, ?_⟩ ?_
  · rw [hb2]; exact (Blk.new w 78 _).alloc _
  · rw [hg]; exact Blk.new2 w _ 5 _
  · have k2 : KT w ((w.alloc (.cells (wcells false 0 0 false z4 0) 78)).alloc (.cells (zrow 12) 5)) := ((KT.refl w).alloc _).alloc _
    exact (unhide H).on k2 trivial (fun _ _ => trivial) hLw
  · exact ((Kp.refl _ w).alloc _).alloc _
  rw [← hg, ← hb2]
  clear hmk hg hb2 H
  rintro w1 h1
  have HT := hide (readFull_ok w1 B L _ h1.buf 5 g 0 2 12 (zrow 12) h1.row (by rw [zrow_size]; omega) (by decide) hLg hLB (by omega) (by omega) (by omega) (by simp [hbytes]))
  go_wp2_with fail
  refine (unhide HT).mono ?_
  rintro e w2 ⟨rfl, hT⟩
  obtain ⟨cs2, hu2, h2⟩ := h1.took hT hbg hbB hwg
  have d0 : w2.cell? ⟨g, 0, none⟩ = some (bv (B0 fin r o)) := (h2.row.cell 0).trans (by have := hu2.new 0 (by omega); simpa [hbytes] using this)
  have d1 : w2.cell? ⟨g, 1, none⟩ = some (bv (B1 mk n)) := (h2.row.cell 1).trans (by have := hu2.new 1 (by omega); simpa [hbytes] using this)
  have hs2 : cs2.size = 12 := by rw [hu2.size, zrow_size]
  have hb2 : (hbytes fin r o mk M n ++ rest).drop 2 = ext n ++ tail4 mk M ++ rest := by simp [hbytes]
  rw [hb2] at h2
  obtain ⟨c0, c1, c2, c3, c4, c5, c6, c7, c8⟩ := row9 h2.hdr
  have f0 := h2.hdr.frozen 0
  have f1 := h2.hdr.frozen 1
  have f2 := h2.hdr.frozen 2
  have f3 := h2.hdr.frozen 3
  have f8 := h2.hdr.frozen 8
  have H2 := hide h2
  have HS2 := hide hs2
  clear HT hT h1 hu2 h2 hs2 hb2
  cases fin <;> cases mk
  · have hM : M = z4 := by simpa using hz
    subst hM
    go_upto_region 21 with fail
    refine wp_abs (fun w3 => Rhs w w3 B L b2 g (wcells false r o false z4 n) cs2 (ext n ++ tail4 false z4 ++ rest)) ?_ ?_
    · exact (((((unhide H2).set hbg hbB hLb hwb (i := 0) _).set hbg hbB hLb hwb (i := 1) _).set hbg hbB hLb hwb (i := 2) _).set hbg hbB hLb hwb (i := 8) _)
    clear c0 c1 c2 c3 c4 c5 c6 c7 c8 f0 f1 f2 f3 f8 d0 d1 H2 e1 e2 e3 e4 e5
    rw [show ext n ++ tail4 false z4 ++ rest = rest by simp [ext, hn, tail4]]
    rintro wN hN
    obtain ⟨c0, c1, c2, c3, c4, c5, c6, c7, c8⟩ := row9 hN.hdr
    obtain ⟨f0, f1, f2, f3, f4, f5, f6, f7, f8⟩ := row9f hN.hdr
    have HN := hide hN
    clear hN
    go_wp2_with fail
    refine bp_abs (fun w5 => Rhs w w5 B L b2 g (wcells false r o false z4 n) cs2 rest) ((unhide HN).put9 hbg hbB hLb hwb) ?_
    clear c0 c1 c2 c3 c4 c5 c6 c7 c8 f0 f1 f2 f3 f4 f5 f6 f7 f8
    rintro w5 h5
    obtain ⟨c0, c1, c2, c3, c4, c5, c6, c7, c8⟩ := row9 h5.hdr
    refine bodyPost_ret (v := .tuple #[wval false r o false z4 n, .nilIface]) (by simp [results, Tryd.results90, go_sem, c0, c1, c2, c3, c4, c5, c6, c7, c8]) rfl ⟨rfl, h5.buf, h5.kp⟩
  · go_upto_region 21 with fail
    refine wp_abs (fun w3 => Rhs w w3 B L b2 g (wcells false r o true z4 n) cs2 (ext n ++ tail4 true M ++ rest)) ?_ ?_
    · exact ((((((unhide H2).set hbg hbB hLb hwb (i := 0) _).set hbg hbB hLb hwb (i := 1) _).set hbg hbB hLb hwb (i := 2) _).set hbg hbB hLb hwb (i := 3) _).set hbg hbB hLb hwb (i := 8) _)
    clear c0 c1 c2 c3 c4 c5 c6 c7 c8 f0 f1 f2 f3 f8 d0 d1 H2 e1 e2 e3 e4 e5
    rintro w3 h3
    have HT := hide (readFull_ok w3 B L _ h3.buf 5 g 0 4 12 cs2 h3.row (by rw [unhide HS2]; omega) (by decide) hLg hLB (by omega) (by omega) (by omega) (by simp [show ext n = [] from if_pos hn, tail4, be_length] <;> omega))
    go_wp2_with fail
    refine (unhide HT).mono ?_
    rintro e w4 ⟨rfl, hT⟩
    obtain ⟨cs4, hu4, h4⟩ := h3.took hT hbg hbB hwg
    clear HT hT h3
    rw [show (ext n ++ tail4 true M ++ rest).drop 4 = rest by simp [show ext n = [] from if_pos hn, tail4, List.drop_append, be_length]] at h4
    have c3 := h4.hdr.cell 3
    have HU := hide hu4
    have H4 := hide h4
    clear hu4 h4
    go_upto_region 37 with fail
    refine wp_abs (fun w5 => Rhs w w5 B L b2 g (wcells false r o true z4 n) cs4 rest) (unhide H4) ?_
    clear c3 H4
    rintro w5 h5
    have hby : Byt w5 g 0 [M 0, M 1, M 2, M 3] := by
      have hx : ∀ i, i < 4 → w5.cell? ⟨g, 0 + i, none⟩ = some (bv (M i)) := fun i hi => by
        rw [h5.row.cell, show (0 + i : Nat) = 0 + (0 + i) by omega, (unhide HU).new (0 + i) (by omega)]
        have : i = 0 ∨ i = 1 ∨ i = 2 ∨ i = 3 := by omega
        rcases this with rfl | rfl | rfl | rfl <;> simp [show ext n = [] from if_pos hn, tail4, List.getD, List.getElem?_append, be_length]
      intro i hi
      have hi4 : i < 4 := hi
      rw [hx i hi4]
      have : i = 0 ∨ i = 1 ∨ i = 2 ∨ i = 3 := by omega
      rcases this with rfl | rfl | rfl | rfl <;> rfl
    have HBY := hide (Rd.of_byt hby h5.row.lt)
    have HMN : Hid (4 = min [M 0, M 1, M 2, M 3].length 4) := rfl
    have HF8 : Hid (4 + 4 ≤ (wcells false r o true z4 n).size) := by show 8 ≤ 9; omega
    have HFM : Hid (∀ i, i < 4 → [M 0, M 1, M 2, M 3].getD i 0 = M i) := fun i hi => by rcases (show i = 0 ∨ i = 1 ∨ i = 2 ∨ i = 3 by omega) with rfl | rfl | rfl | rfl <;> rfl
    have H5 := hide h5
    have HBL := hide h5.hdr
    clear hby h5
    go_upto_region 38 with (with_reducible refine wpList_copy_into rfl (.tmp 114) (.tmp 115) rfl 78 b2 4 4 4 rfl (some ⟨g, 0, none⟩) 4 12 rfl w5.heap.size [M 0, M 1, M 2, M 3] (unhide HBY) rfl (wcells false r o true z4 n) (unhide HBL) 4 (unhide HMN) (unhide HF8) ?_; intro w6 cs6 hb6 hu6 hk6; obtain rfl := put_mask (M := M) hu6 (unhide HFM); have h6 : Rhs w w6 B L b2 g (wcells false r o true M n) cs4 rest := ⟨hb6, (unhide H5).row.kp hk6 (Ne.symm hbg), (unhide H5).buf.on hk6 (Ne.symm hbB) (fun i hi => by omega) (by have := (unhide H5).hdr.lt; omega), (unhide H5).kp.then_ hk6 (fun i hi _ => by omega)⟩; have H6 := hide h6; clear hb6 hu6 hk6 h6)
    refine wp_abs (fun w7 => Rhs w w7 B L b2 g (wcells false r o true M n) cs4 rest) (unhide H6) ?_
    clear H5 H6 HBY HMN HBL HU HF8 HFM
    rintro wN hN
    obtain ⟨c0, c1, c2, c3, c4, c5, c6, c7, c8⟩ := row9 hN.hdr
    obtain ⟨f0, f1, f2, f3, f4, f5, f6, f7, f8⟩ := row9f hN.hdr
    have HN := hide hN
    clear hN
    go_wp2_with fail
    refine bp_abs (fun w5 => Rhs w w5 B L b2 g (wcells false r o true M n) cs4 rest) ((unhide HN).put9 hbg hbB hLb hwb) ?_
    clear c0 c1 c2 c3 c4 c5 c6 c7 c8 f0 f1 f2 f3 f4 f5 f6 f7 f8
    rintro w5 h5
    obtain ⟨c0, c1, c2, c3, c4, c5, c6, c7, c8⟩ := row9 h5.hdr
    refine bodyPost_ret (v := .tuple #[wval false r o true M n, .nilIface]) (by simp [results, Tryd.results90, go_sem, c0, c1, c2, c3, c4, c5, c6, c7, c8]) rfl ⟨rfl, h5.buf, h5.kp⟩
  · have hM : M = z4 := by simpa using hz
    subst hM
    go_upto_region 21 with fail
    refine wp_abs (fun w3 => Rhs w w3 B L b2 g (wcells true r o false z4 n) cs2 (ext n ++ tail4 false z4 ++ rest)) ?_ ?_
    · exact (((((unhide H2).set hbg hbB hLb hwb (i := 0) _).set hbg hbB hLb hwb (i := 1) _).set hbg hbB hLb hwb (i := 2) _).set hbg hbB hLb hwb (i := 8) _)
    clear c0 c1 c2 c3 c4 c5 c6 c7 c8 f0 f1 f2 f3 f8 d0 d1 H2 e1 e2 e3 e4 e5
    rw [show ext n ++ tail4 false z4 ++ rest = rest by simp [ext, hn, tail4]]
    rintro wN hN
    obtain ⟨c0, c1, c2, c3, c4, c5, c6, c7, c8⟩ := row9 hN.hdr
    obtain ⟨f0, f1, f2, f3, f4, f5, f6, f7, f8⟩ := row9f hN.hdr
    have HN := hide hN
    clear hN
    go_wp2_with fail
    refine bp_abs (fun w5 => Rhs w w5 B L b2 g (wcells true r o false z4 n) cs2 rest) ((unhide HN).put9 hbg hbB hLb hwb) ?_
    clear c0 c1 c2 c3 c4 c5 c6 c7 c8 f0 f1 f2 f3 f4 f5 f6 f7 f8
    rintro w5 h5
    obtain ⟨c0, c1, c2, c3, c4, c5, c6, c7, c8⟩ := row9 h5.hdr
    refine bodyPost_ret (v := .tuple #[wval true r o false z4 n, .nilIface]) (by simp [results, Tryd.results90, go_sem, c0, c1, c2, c3, c4, c5, c6, c7, c8]) rfl ⟨rfl, h5.buf, h5.kp⟩
  · go_upto_region 21 with fail
    refine wp_abs (fun w3 => Rhs w w3 B L b2 g (wcells true r o true z4 n) cs2 (ext n ++ tail4 true M ++ rest)) ?_ ?_
    · exact ((((((unhide H2).set hbg hbB hLb hwb (i := 0) _).set hbg hbB hLb hwb (i := 1) _).set hbg hbB hLb hwb (i := 2) _).set hbg hbB hLb hwb (i := 3) _).set hbg hbB hLb hwb (i := 8) _)
    clear c0 c1 c2 c3 c4 c5 c6 c7 c8 f0 f1 f2 f3 f8 d0 d1 H2 e1 e2 e3 e4 e5
    rintro w3 h3
    have HT := hide (readFull_ok w3 B L _ h3.buf 5 g 0 4 12 cs2 h3.row (by rw [unhide HS2]; omega) (by decide) hLg hLB (by omega) (by omega) (by omega) (by simp [show ext n = [] from if_pos hn, tail4, be_length] <;> omega))
    go_wp2_with fail
    refine (unhide HT).mono ?_
    rintro e w4 ⟨rfl, hT⟩
    obtain ⟨cs4, hu4, h4⟩ := h3.took hT hbg hbB hwg
    clear HT hT h3
    rw [show (ext n ++ tail4 true M ++ rest).drop 4 = rest by simp [show ext n = [] from if_pos hn, tail4, List.drop_append, be_length]] at h4
    have c3 := h4.hdr.cell 3
    have HU := hide hu4
    have H4 := hide h4
    clear hu4 h4
    go_upto_region 37 with fail
    refine wp_abs (fun w5 => Rhs w w5 B L b2 g (wcells true r o true z4 n) cs4 rest) (unhide H4) ?_
    clear c3 H4
    rintro w5 h5
    have hby : Byt w5 g 0 [M 0, M 1, M 2, M 3] := by
      have hx : ∀ i, i < 4 → w5.cell? ⟨g, 0 + i, none⟩ = some (bv (M i)) := fun i hi => by
        rw [h5.row.cell, show (0 + i : Nat) = 0 + (0 + i) by omega, (unhide HU).new (0 + i) (by omega)]
        have : i = 0 ∨ i = 1 ∨ i = 2 ∨ i = 3 := by omega
        rcases this with rfl | rfl | rfl | rfl <;> simp [show ext n = [] from if_pos hn, tail4, List.getD, List.getElem?_append, be_length]
      intro i hi
      have hi4 : i < 4 := hi
      rw [hx i hi4]
      have : i = 0 ∨ i = 1 ∨ i = 2 ∨ i = 3 := by omega
      rcases this with rfl | rfl | rfl | rfl <;> rfl
    have HBY := hide (Rd.of_byt hby h5.row.lt)
    have HMN : Hid (4 = min [M 0, M 1, M 2, M 3].length 4) := rfl
    have HF8 : Hid (4 + 4 ≤ (wcells true r o true z4 n).size) := by show 8 ≤ 9; omega
    have HFM : Hid (∀ i, i < 4 → [M 0, M 1, M 2, M 3].getD i 0 = M i) := fun i hi => by rcases (show i = 0 ∨ i = 1 ∨ i = 2 ∨ i = 3 by omega) with rfl | rfl | rfl | rfl <;> rfl
    have H5 := hide h5
    have HBL := hide h5.hdr
    clear hby h5
    go_upto_region 38 with (with_reducible refine wpList_copy_into rfl (.tmp 114) (.tmp 115) rfl 78 b2 4 4 4 rfl (some ⟨g, 0, none⟩) 4 12 rfl w5.heap.size [M 0, M 1, M 2, M 3] (unhide HBY) rfl (wcells true r o true z4 n) (unhide HBL) 4 (unhide HMN) (unhide HF8) ?_; intro w6 cs6 hb6 hu6 hk6; obtain rfl := put_mask (M := M) hu6 (unhide HFM); have h6 : Rhs w w6 B L b2 g (wcells true r o true M n) cs4 rest := ⟨hb6, (unhide H5).row.kp hk6 (Ne.symm hbg), (unhide H5).buf.on hk6 (Ne.symm hbB) (fun i hi => by omega) (by have := (unhide H5).hdr.lt; omega), (unhide H5).kp.then_ hk6 (fun i hi _ => by omega)⟩; have H6 := hide h6; clear hb6 hu6 hk6 h6)
    refine wp_abs (fun w7 => Rhs w w7 B L b2 g (wcells true r o true M n) cs4 rest) (unhide H6) ?_
    clear H5 H6 HBY HMN HBL HU HF8 HFM
    rintro wN hN
    obtain ⟨c0, c1, c2, c3, c4, c5, c6, c7, c8⟩ := row9 hN.hdr
    obtain ⟨f0, f1, f2, f3, f4, f5, f6, f7, f8⟩ := row9f hN.hdr
    have HN := hide hN
    clear hN
    go_wp2_with fail
    refine bp_abs (fun w5 => Rhs w w5 B L b2 g (wcells true r o true M n) cs4 rest) ((unhide HN).put9 hbg hbB hLb hwb) ?_
    clear c0 c1 c2 c3 c4 c5 c6 c7 c8 f0 f1 f2 f3 f4 f5 f6 f7 f8
    rintro w5 h5
    obtain ⟨c0, c1, c2, c3, c4, c5, c6, c7, c8⟩ := row9 h5.hdr
    refine bodyPost_ret (v := .tuple #[wval true r o true M n, .nilIface]) (by simp [results, Tryd.results90, go_sem, c0, c1, c2, c3, c4, c5, c6, c7, c8]) rfl ⟨rfl, h5.buf, h5.kp⟩

set_option maxRecDepth 100000 in
set_option maxHeartbeats 8000000 in
theorem readHeader2 (w : World) (B L : Nat) (fin : Bool) (r o : Nat) (mk : Bool) (M : Nat → UInt8) (n : Nat) (rest : List UInt8) (hr : r < 8) (ho : o < 16) (h1 : 126 ≤ n) (h2 : n < 65536) (hz : mk = true ∨ M = z4)
    (h : BufR w B L (hbytes fin r o mk M n ++ rest)) (hLB : L ≤ B) (hLw : L ≤ w.heap.size) :
    Calls Tryd.prog 90 #[rdr B] w fun e w' => NewHdr w w' B L (wval fin r o mk M n) rest e := by
  have e1 := and_fin fin r hr o ho
  have e2 := and_rsv fin r hr o ho
  have e3 := and_op fin r hr o ho
  have e4 := and_mk mk n
  have e5 := and_len mk n
  have hL7 : L7 n = 126 := by rw [L7, if_neg (by omega), if_pos h2]
  rw [hL7] at e5
  have hext : ext n = be 2 n := by rw [ext, if_neg (by omega), if_pos h2]
  have hmk : ∀ w, (Instr.makeSlice 22 (.int .i64 2) (.int .i64 12)).run Tryd.prog w = .ok (.slice (some ⟨w.heap.size, 0, none⟩) 2 12) (w.alloc (.cells (zrow 12) 5)) := fun w => run_make_bytes 2 12 (by omega) (by omega) w
  have hBw := h.at_
  have H := hide h
  clear h hL7
  obtain ⟨b2, hb2⟩ : ∃ b2, b2 = w.heap.size := ⟨_, rfl⟩
  obtain ⟨g, hg⟩ : ∃ g, g = w.heap.size + 1 := ⟨_, rfl⟩
  have hbg : b2 ≠ g := by omega
  have hbB : b2 ≠ B := by omega
  have hwb : w.heap.size ≤ b2 := by omega
  have hwg : w.heap.size ≤ g := by omega
  have hLb : L ≤ b2 := by omega
  have hLg : L ≤ g := by omega
  go_enter Tryd.func90, Tryd.ntmps90
  go_upto_region 2 with fail
  refine wp_abs (fun w1 => Rhs w w1 B L b2 g (wcells false 0 0 false z4 0) (zrow 12) (hbytes fin r o mk M n ++ rest)) ⟨?_, ?_, ?_, ?_⟩ ?_
  · rw [hb2]; exact (Blk.new w 78 _).alloc _
  · rw [hg]; exact Blk.new2 w _ 5 _
  · have k2 : KT w ((w.alloc (.cells (wcells false 0 0 false z4 0) 78)).alloc (.cells (zrow 12) 5)) := ((KT.refl w).alloc _).alloc _
    exact (unhide H).on k2 trivial (fun _ _ => trivial) hLw
  · exact ((Kp.refl _ w).alloc _).alloc _
  rw [← hg, ← hb2]
  clear hmk hg hb2 H
  rintro w1 h1
  have HT := hide (readFull_ok w1 B L _ h1.buf 5 g 0 2 12 (zrow 12) h1.row (by rw [zrow_size]; omega) (by decide) hLg hLB (by omega) (by omega) (by omega) (by simp [hbytes]))
  go_wp2_with fail
  refine (unhide HT).mono ?_
  rintro e w2 ⟨rfl, hT⟩
  obtain ⟨cs2, hu2, h2⟩ := h1.took hT hbg hbB hwg
  have d0 : w2.cell? ⟨g, 0, none⟩ = some (bv (B0 fin r o)) := (h2.row.cell 0).trans (by have := hu2.new 0 (by omega); simpa [hbytes] using this)
  have d1 : w2.cell? ⟨g, 1, none⟩ = some (bv (B1 mk n)) := (h2.row.cell 1).trans (by have := hu2.new 1 (by omega); simpa [hbytes] using this)
  have hs2 : cs2.size = 12 := by rw [hu2.size, zrow_size]
  have hb2 : (hbytes fin r o mk M n ++ rest).drop 2 = ext n ++ tail4 mk M ++ rest := by simp [hbytes]
  rw [hb2] at h2
  obtain ⟨c0, c1, c2, c3, c4, c5, c6, c7, c8⟩ := row9 h2.hdr
  have f0 := h2.hdr.frozen 0
  have f1 := h2.hdr.frozen 1
  have f2 := h2.hdr.frozen 2
  have f3 := h2.hdr.frozen 3
  have f8 := h2.hdr.frozen 8
  have H2 := hide h2
  have HS2 := hide hs2
  clear HT hT h1 hu2 h2 hs2 hb2
  cases fin <;> cases mk
  · have hM : M = z4 := by simpa using hz
    subst hM
    go_upto_region 21 with fail
    refine wp_abs (fun w3 => Rhs w w3 B L b2 g (wcells false r o false z4 0) cs2 (ext n ++ tail4 false z4 ++ rest)) ?_ ?_
    · exact ((((unhide H2).set hbg hbB hLb hwb (i := 0) _).set hbg hbB hLb hwb (i := 1) _).set hbg hbB hLb hwb (i := 2) _)
    clear c0 c1 c2 c3 c4 c5 c6 c7 c8 f0 f1 f2 f3 f8 d0 d1 H2 e1 e2 e3 e4 e5
    rintro w3 h3
    have HT := hide (readFull_ok w3 B L _ h3.buf 5 g 0 2 12 cs2 h3.row (by rw [unhide HS2]; omega) (by decide) hLg hLB (by omega) (by omega) (by omega) (by simp [show ext n = be 2 n from hext, tail4, be_length] <;> omega))
    go_wp2_with fail
    refine (unhide HT).mono ?_
    rintro e w4 ⟨rfl, hT⟩
    obtain ⟨cs4, hu4, h4⟩ := h3.took hT hbg hbB hwg
    clear HT hT h3
    rw [show (ext n ++ tail4 false z4 ++ rest).drop 2 = rest by simp [show ext n = be 2 n from hext, tail4, List.drop_append, be_length]] at h4
    have hdig : ∀ i, i < 2 → w4.cell? ⟨g, 0 + i, none⟩ = some (bv (digit n (2 - 1 - i))) := fun i hi => by
      rw [h4.row.cell, hu4.new i (by omega)]
      simp [show ext n = be 2 n from hext, List.getD, List.getElem?_append, be_length, hi, be_get 2 n i hi, Nat.lt_of_lt_of_le hi (Nat.le_add_right 2 _)]
    have HBE : Hid (Calls Tryd.prog 75 #[.slice (some ⟨g, 0, none⟩) 2 12] w4 fun e w' => e = .returned (.int .u16 n) ∧ w4 = w') := by
      have := beUint16_any w4 g 0 2 12 (fun i => digit n (2 - 1 - i)) (by omega) (by omega) hdig
      rwa [acc_all n 2 (by omega)] at this
    have c8 := h4.hdr.cell 8
    have f8 := h4.hdr.frozen 8
    have c3 := h4.hdr.cell 3
    have HU := hide hu4
    have H4 := hide h4
    clear hdig hu4 h4
    have hwn : IntKind.i64.wrap (n : Int) = n := by simp [IntKind.wrap, IntKind.bits, IntKind.signed]; omega
    go_wp2_with fail
    refine (unhide HBE).mono ?_
    rintro e w4 ⟨rfl, rfl⟩
    go_upto_region 38 with fail
    refine wp_abs (fun w5 => Rhs w w5 B L b2 g (wcells false r o false z4 n) cs4 rest) ((unhide H4).set hbg hbB hLb hwb (i := 8) _) ?_
    clear c8 f8 c3 HU H4 hwn
    rintro wN hN
    obtain ⟨c0, c1, c2, c3, c4, c5, c6, c7, c8⟩ := row9 hN.hdr
    obtain ⟨f0, f1, f2, f3, f4, f5, f6, f7, f8⟩ := row9f hN.hdr
    have HN := hide hN
    clear hN
    go_wp2_with fail
    refine bp_abs (fun w5 => Rhs w w5 B L b2 g (wcells false r o false z4 n) cs4 rest) ((unhide HN).put9 hbg hbB hLb hwb) ?_
    clear c0 c1 c2 c3 c4 c5 c6 c7 c8 f0 f1 f2 f3 f4 f5 f6 f7 f8
    rintro w5 h5
    obtain ⟨c0, c1, c2, c3, c4, c5, c6, c7, c8⟩ := row9 h5.hdr
    refine bodyPost_ret (v := .tuple #[wval false r o false z4 n, .nilIface]) (by simp [results, Tryd.results90, go_sem, c0, c1, c2, c3, c4, c5, c6, c7, c8]) rfl ⟨rfl, h5.buf, h5.kp⟩
  · go_upto_region 21 with fail
    refine wp_abs (fun w3 => Rhs w w3 B L b2 g (wcells false r o true z4 0) cs2 (ext n ++ tail4 true M ++ rest)) ?_ ?_
    · exact (((((unhide H2).set hbg hbB hLb hwb (i := 0) _).set hbg hbB hLb hwb (i := 1) _).set hbg hbB hLb hwb (i := 2) _).set hbg hbB hLb hwb (i := 3) _)
    clear c0 c1 c2 c3 c4 c5 c6 c7 c8 f0 f1 f2 f3 f8 d0 d1 H2 e1 e2 e3 e4 e5
    rintro w3 h3
    have HT := hide (readFull_ok w3 B L _ h3.buf 5 g 0 6 12 cs2 h3.row (by rw [unhide HS2]; omega) (by decide) hLg hLB (by omega) (by omega) (by omega) (by simp [show ext n = be 2 n from hext, tail4, be_length] <;> omega))
    go_wp2_with fail
    refine (unhide HT).mono ?_
    rintro e w4 ⟨rfl, hT⟩
    obtain ⟨cs4, hu4, h4⟩ := h3.took hT hbg hbB hwg
    clear HT hT h3
    rw [show (ext n ++ tail4 true M ++ rest).drop 6 = rest by simp [show ext n = be 2 n from hext, tail4, List.drop_append, be_length]] at h4
    have hdig : ∀ i, i < 2 → w4.cell? ⟨g, 0 + i, none⟩ = some (bv (digit n (2 - 1 - i))) := fun i hi => by
      rw [h4.row.cell, hu4.new i (by omega)]
      simp [show ext n = be 2 n from hext, List.getD, List.getElem?_append, be_length, hi, be_get 2 n i hi, Nat.lt_of_lt_of_le hi (Nat.le_add_right 2 _)]
    have HBE : Hid (Calls Tryd.prog 75 #[.slice (some ⟨g, 0, none⟩) 2 12] w4 fun e w' => e = .returned (.int .u16 n) ∧ w4 = w') := by
      have := beUint16_any w4 g 0 2 12 (fun i => digit n (2 - 1 - i)) (by omega) (by omega) hdig
      rwa [acc_all n 2 (by omega)] at this
    have c8 := h4.hdr.cell 8
    have f8 := h4.hdr.frozen 8
    have c3 := h4.hdr.cell 3
    have HU := hide hu4
    have H4 := hide h4
    clear hdig hu4 h4
    have hwn : IntKind.i64.wrap (n : Int) = n := by simp [IntKind.wrap, IntKind.bits, IntKind.signed]; omega
    go_wp2_with fail
    refine (unhide HBE).mono ?_
    rintro e w4 ⟨rfl, rfl⟩
    go_upto_region 37 with fail
    refine wp_abs (fun w5 => Rhs w w5 B L b2 g (wcells false r o true z4 n) cs4 rest) ((unhide H4).set hbg hbB hLb hwb (i := 8) _) ?_
    clear c8 f8 c3 H4 hwn
    rintro w5 h5
    have hby : Byt w5 g 2 [M 0, M 1, M 2, M 3] := by
      have hx : ∀ i, i < 4 → w5.cell? ⟨g, 2 + i, none⟩ = some (bv (M i)) := fun i hi => by
        rw [h5.row.cell, show (2 + i : Nat) = 0 + (2 + i) by omega, (unhide HU).new (2 + i) (by omega)]
        have : i = 0 ∨ i = 1 ∨ i = 2 ∨ i = 3 := by omega
        rcases this with rfl | rfl | rfl | rfl <;> simp [show ext n = be 2 n from hext, tail4, List.getD, List.getElem?_append, be_length]
      intro i hi
      have hi4 : i < 4 := hi
      rw [hx i hi4]
      have : i = 0 ∨ i = 1 ∨ i = 2 ∨ i = 3 := by omega
      rcases this with rfl | rfl | rfl | rfl <;> rfl
    have HBY := hide (Rd.of_byt hby h5.row.lt)
    have HMN : Hid (4 = min [M 0, M 1, M 2, M 3].length 4) := rfl
    have HF8 : Hid (4 + 4 ≤ (wcells false r o true z4 n).size) := by show 8 ≤ 9; omega
    have HFM : Hid (∀ i, i < 4 → [M 0, M 1, M 2, M 3].getD i 0 = M i) := fun i hi => by rcases (show i = 0 ∨ i = 1 ∨ i = 2 ∨ i = 3 by omega) with rfl | rfl | rfl | rfl <;> rfl
    have H5 := hide h5
    have HBL := hide h5.hdr
    clear hby h5
    go_upto_region 38 with (with_reducible refine wpList_copy_into rfl (.tmp 114) (.tmp 115) rfl 78 b2 4 4 4 rfl (some ⟨g, 2, none⟩) 4 10 rfl w5.heap.size [M 0, M 1, M 2, M 3] (unhide HBY) rfl (wcells false r o true z4 n) (unhide HBL) 4 (unhide HMN) (unhide HF8) ?_; intro w6 cs6 hb6 hu6 hk6; obtain rfl := put_mask (M := M) hu6 (unhide HFM); have h6 : Rhs w w6 B L b2 g (wcells false r o true M n) cs4 rest := ⟨hb6, (unhide H5).row.kp hk6 (Ne.symm hbg), (unhide H5).buf.on hk6 (Ne.symm hbB) (fun i hi => by omega) (by have := (unhide H5).hdr.lt; omega), (unhide H5).kp.then_ hk6 (fun i hi _ => by omega)⟩; have H6 := hide h6; clear hb6 hu6 hk6 h6)
    refine wp_abs (fun w7 => Rhs w w7 B L b2 g (wcells false r o true M n) cs4 rest) (unhide H6) ?_
    clear H5 H6 HBY HMN HBL HU HF8 HFM
    rintro wN hN
    obtain ⟨c0, c1, c2, c3, c4, c5, c6, c7, c8⟩ := row9 hN.hdr
    obtain ⟨f0, f1, f2, f3, f4, f5, f6, f7, f8⟩ := row9f hN.hdr
    have HN := hide hN
    clear hN
    go_wp2_with fail
    refine bp_abs (fun w5 => Rhs w w5 B L b2 g (wcells false r o true M n) cs4 rest) ((unhide HN).put9 hbg hbB hLb hwb) ?_
    clear c0 c1 c2 c3 c4 c5 c6 c7 c8 f0 f1 f2 f3 f4 f5 f6 f7 f8
    rintro w5 h5
    obtain ⟨c0, c1, c2, c3, c4, c5, c6, c7, c8⟩ := row9 h5.hdr
    refine bodyPost_ret (v := .tuple #[wval false r o true M n, .nilIface]) (by simp [results, Tryd.results90, go_sem, c0, c1, c2, c3, c4, c5, c6, c7, c8]) rfl ⟨rfl, h5.buf, h5.kp⟩
  · have hM : M = z4 := by simpa using hz
    subst hM
    go_upto_region 21 with fail
    refine wp_abs (fun w3 => Rhs w w3 B L b2 g (wcells true r o false z4 0) cs2 (ext n ++ tail4 false z4 ++ rest)) ?_ ?_
    · exact ((((unhide H2).set hbg hbB hLb hwb (i := 0) _).set hbg hbB hLb hwb (i := 1) _).set hbg hbB hLb hwb (i := 2) _)
    clear c0 c1 c2 c3 c4 c5 c6 c7 c8 f0 f1 f2 f3 f8 d0 d1 H2 e1 e2 e3 e4 e5
    rintro w3 h3
    have HT := hide (readFull_ok w3 B L _ h3.buf 5 g 0 2 12 cs2 h3.row (by rw [unhide HS2]; omega) (by decide) hLg hLB (by omega) (by omega) (by omega) (by simp [show ext n = be 2 n from hext, tail4, be_length] <;> omega))
    go_wp2_with fail
    refine (unhide HT).mono ?_
    rintro e w4 ⟨rfl, hT⟩
    obtain ⟨cs4, hu4, h4⟩ := h3.took hT hbg hbB hwg
    clear HT hT h3
    rw [show (ext n ++ tail4 false z4 ++ rest).drop 2 = rest by simp [show ext n = be 2 n from hext, tail4, List.drop_append, be_length]] at h4
    have hdig : ∀ i, i < 2 → w4.cell? ⟨g, 0 + i, none⟩ = some (bv (digit n (2 - 1 - i))) := fun i hi => by
      rw [h4.row.cell, hu4.new i (by omega)]
      simp [show ext n = be 2 n from hext, List.getD, List.getElem?_append, be_length, hi, be_get 2 n i hi, Nat.lt_of_lt_of_le hi (Nat.le_add_right 2 _)]
    have HBE : Hid (Calls Tryd.prog 75 #[.slice (some ⟨g, 0, none⟩) 2 12] w4 fun e w' => e = .returned (.int .u16 n) ∧ w4 = w') := by
      have := beUint16_any w4 g 0 2 12 (fun i => digit n (2 - 1 - i)) (by omega) (by omega) hdig
      rwa [acc_all n 2 (by omega)] at this
    have c8 := h4.hdr.cell 8
    have f8 := h4.hdr.frozen 8
    have c3 := h4.hdr.cell 3
    have HU := hide hu4
    have H4 := hide h4
    clear hdig hu4 h4
    have hwn : IntKind.i64.wrap (n : Int) = n := by simp [IntKind.wrap, IntKind.bits, IntKind.signed]; omega
    go_wp2_with fail
    refine (unhide HBE).mono ?_
    rintro e w4 ⟨rfl, rfl⟩
    go_upto_region 38 with fail
    refine wp_abs (fun w5 => Rhs w w5 B L b2 g (wcells true r o false z4 n) cs4 rest) ((unhide H4).set hbg hbB hLb hwb (i := 8) _) ?_
    clear c8 f8 c3 HU H4 hwn
    rintro wN hN
    obtain ⟨c0, c1, c2, c3, c4, c5, c6, c7, c8⟩ := row9 hN.hdr
    obtain ⟨f0, f1, f2, f3, f4, f5, f6, f7, f8⟩ := row9f hN.hdr
    have HN := hide hN
    clear hN
    go_wp2_with fail
    refine bp_abs (fun w5 => Rhs w w5 B L b2 g (wcells true r o false z4 n) cs4 rest) ((unhide HN).put9 hbg hbB hLb hwb) ?_
    clear c0 c1 c2 c3 c4 c5 c6 c7 c8 f0 f1 f2 f3 f4 f5 f6 f7 f8
    rintro w5 h5
    obtain ⟨c0, c1, c2, c3, c4, c5, c6, c7, c8⟩ := row9 h5.hdr
    refine bodyPost_ret (v := .tuple #[wval true r o false z4 n, .nilIface]) (by simp [results, Tryd.results90, go_sem, c0, c1, c2, c3, c4, c5, c6, c7, c8]) rfl ⟨rfl, h5.buf, h5.kp⟩
  · go_upto_region 21 with fail
    refine wp_abs (fun w3 => Rhs w w3 B L b2 g (wcells true r o true z4 0) cs2 (ext n ++ tail4 true M ++ rest)) ?_ ?_
    · exact (((((unhide H2).set hbg hbB hLb hwb (i := 0) _).set hbg hbB hLb hwb (i := 1) _).set hbg hbB hLb hwb (i := 2) _).set hbg hbB hLb hwb (i := 3) _)
    clear c0 c1 c2 c3 c4 c5 c6 c7 c8 f0 f1 f2 f3 f8 d0 d1 H2 e1 e2 e3 e4 e5
    rintro w3 h3
    have HT := hide (readFull_ok w3 B L _ h3.buf 5 g 0 6 12 cs2 h3.row (by rw [unhide HS2]; omega) (by decide) hLg hLB (by omega) (by omega) (by omega) (by simp [show ext n = be 2 n from hext, tail4, be_length] <;> omega))
    go_wp2_with fail
    refine (unhide HT).mono ?_
    rintro e w4 ⟨rfl, hT⟩
    obtain ⟨cs4, hu4, h4⟩ := h3.took hT hbg hbB hwg
    clear HT hT h3
    rw [show (ext n ++ tail4 true M ++ rest).drop 6 = rest by simp [show ext n = be 2 n from hext, tail4, List.drop_append, be_length]] at h4
    have hdig : ∀ i, i < 2 → w4.cell? ⟨g, 0 + i, none⟩ = some (bv (digit n (2 - 1 - i))) := fun i hi => by
      rw [h4.row.cell, hu4.new i (by omega)]
      simp [show ext n = be 2 n from hext, List.getD, List.getElem?_append, be_length, hi, be_get 2 n i hi, Nat.lt_of_lt_of_le hi (Nat.le_add_right 2 _)]
    have HBE : Hid (Calls Tryd.prog 75 #[.slice (some ⟨g, 0, none⟩) 2 12] w4 fun e w' => e = .returned (.int .u16 n) ∧ w4 = w') := by
      have := beUint16_any w4 g 0 2 12 (fun i => digit n (2 - 1 - i)) (by omega) (by omega) hdig
      rwa [acc_all n 2 (by omega)] at this
    have c8 := h4.hdr.cell 8
    have f8 := h4.hdr.frozen 8
    have c3 := h4.hdr.cell 3
    have HU := hide hu4
    have H4 := hide h4
    clear hdig hu4 h4
    have hwn : IntKind.i64.wrap (n : Int) = n := by simp [IntKind.wrap, IntKind.bits, IntKind.signed]; omega
    go_wp2_with fail
    refine (unhide HBE).mono ?_
    rintro e w4 ⟨rfl, rfl⟩
    go_upto_region 37 with fail
    refine wp_abs (fun w5 => Rhs w w5 B L b2 g (wcells true r o true z4 n) cs4 rest) ((unhide H4).set hbg hbB hLb hwb (i := 8) _) ?_
    clear c8 f8 c3 H4 hwn
    rintro w5 h5
    have hby : Byt w5 g 2 [M 0, M 1, M 2, M 3] := by
      have hx : ∀ i, i < 4 → w5.cell? ⟨g, 2 + i, none⟩ = some (bv (M i)) := fun i hi => by
        rw [h5.row.cell, show (2 + i : Nat) = 0 + (2 + i) by omega, (unhide HU).new (2 + i) (by omega)]
        have : i = 0 ∨ i = 1 ∨ i = 2 ∨ i = 3 := by omega
        rcases this with rfl | rfl | rfl | rfl <;> simp [show ext n = be 2 n from hext, tail4, List.getD, List.getElem?_append, be_length]
      intro i hi
      have hi4 : i < 4 := hi
      rw [hx i hi4]
      have : i = 0 ∨ i = 1 ∨ i = 2 ∨ i = 3 := by omega
      rcases this with rfl | rfl | rfl | rfl <;> rfl
    have HBY := hide (Rd.of_byt hby h5.row.lt)
    have HMN : Hid (4 = min [M 0, M 1, M 2, M 3].length 4) := rfl
    have HF8 : Hid (4 + 4 ≤ (wcells true r o true z4 n).size) := by show 8 ≤ 9; omega
    have HFM : Hid (∀ i, i < 4 → [M 0, M 1, M 2, M 3].getD i 0 = M i) := fun i hi => by rcases (show i = 0 ∨ i = 1 ∨ i = 2 ∨ i = 3 by omega) with rfl | rfl | rfl | rfl <;> rfl
    have H5 := hide h5
    have HBL := hide h5.hdr
    clear hby h5
    go_upto_region 38 with (with_reducible refine wpList_copy_into rfl (.tmp 114) (.tmp 115) rfl 78 b2 4 4 4 rfl (some ⟨g, 2, none⟩) 4 10 rfl w5.heap.size [M 0, M 1, M 2, M 3] (unhide HBY) rfl (wcells true r o true z4 n) (unhide HBL) 4 (unhide HMN) (unhide HF8) ?_; intro w6 cs6 hb6 hu6 hk6; obtain rfl := put_mask (M := M) hu6 (unhide HFM); have h6 : Rhs w w6 B L b2 g (wcells true r o true M n) cs4 rest := ⟨hb6, (unhide H5).row.kp hk6 (Ne.symm hbg), (unhide H5).buf.on hk6 (Ne.symm hbB) (fun i hi => by omega) (by have := (unhide H5).hdr.lt; omega), (unhide H5).kp.then_ hk6 (fun i hi _ => by omega)⟩; have H6 := hide h6; clear hb6 hu6 hk6 h6)
    refine wp_abs (fun w7 => Rhs w w7 B L b2 g (wcells true r o true M n) cs4 rest) (unhide H6) ?_
    clear H5 H6 HBY HMN HBL HU HF8 HFM
    rintro wN hN
    obtain ⟨c0, c1, c2, c3, c4, c5, c6, c7, c8⟩ := row9 hN.hdr
    obtain ⟨f0, f1, f2, f3, f4, f5, f6, f7, f8⟩ := row9f hN.hdr
    have HN := hide hN
    clear hN
    go_wp2_with fail
    refine bp_abs (fun w5 => Rhs w w5 B L b2 g (wcells true r o true M n) cs4 rest) ((unhide HN).put9 hbg hbB hLb hwb) ?_
    clear c0 c1 c2 c3 c4 c5 c6 c7 c8 f0 f1 f2 f3 f4 f5 f6 f7 f8
    rintro w5 h5
    obtain ⟨c0, c1, c2, c3, c4, c5, c6, c7, c8⟩ := row9 h5.hdr
    refine bodyPost_ret (v := .tuple #[wval true r o true M n, .nilIface]) (by simp [results, Tryd.results90, go_sem, c0, c1, c2, c3, c4, c5, c6, c7, c8]) rfl ⟨rfl, h5.buf, h5.kp⟩

set_option maxRecDepth 100000 in
set_option maxHeartbeats 8000000 in
theorem readHeader8 (w : World) (B L : Nat) (fin : Bool) (r o : Nat) (mk : Bool) (M : Nat → UInt8) (n : Nat) (rest : List UInt8) (hr : r < 8) (ho : o < 16) (h2 : 65536 ≤ n) (hn : n ≤ 9223372036854775807) (hz : mk = true ∨ M = z4)
    (h : BufR w B L (hbytes fin r o mk M n ++ rest)) (hLB : L ≤ B) (hLw : L ≤ w.heap.size) :
    Calls Tryd.prog 90 #[rdr B] w fun e w' => NewHdr w w' B L (wval fin r o mk M n) rest e := by
  have e1 := and_fin fin r hr o ho
  have e2 := and_rsv fin r hr o ho
  have e3 := and_op fin r hr o ho
  have e4 := and_mk mk n
  have e5 := and_len mk n
  have hL7 : L7 n = 127 := by rw [L7, if_neg (by omega), if_neg (by omega)]
  rw [hL7] at e5
  have hext : ext n = be 8 n := by rw [ext, if_neg (by omega), if_neg (by omega)]
  have hmk : ∀ w, (Instr.makeSlice 22 (.int .i64 2) (.int .i64 12)).run Tryd.prog w = .ok (.slice (some ⟨w.heap.size, 0, none⟩) 2 12) (w.alloc (.cells (zrow 12) 5)) := fun w => run_make_bytes 2 12 (by omega) (by omega) w
  have hBw := h.at_
  have H := hide h
  clear h hL7
  obtain ⟨b2, hb2⟩ : ∃ b2, b2 = w.heap.size := ⟨_, rfl⟩
  obtain ⟨g, hg⟩ : ∃ g, g = w.heap.size + 1 := ⟨_, rfl⟩
  have hbg : b2 ≠ g := by omega
  have hbB : b2 ≠ B := by omega
  have hwb : w.heap.size ≤ b2 := by omega
  have hwg : w.heap.size ≤ g := by omega
  have hLb : L ≤ b2 := by omega
  have hLg : L ≤ g := by omega
  go_enter Tryd.func90, Tryd.ntmps90
  go_upto_region 2 with fail
  refine wp_abs (fun w1 => Rhs w w1 B L b2 g (wcells false 0 0 false z4 0) (zrow 12) (hbytes fin r o mk M n ++ rest)) ⟨?_, ?_, ?_, ?_⟩ ?_
  · rw [hb2]; exact (Blk.new w 78 _).alloc _
  · rw [hg]; exact Blk.new2 w _ 5 _
  · have k2 : KT w ((w.alloc (.cells (wcells false 0 0 false z4 0) 78)).alloc (.cells (zrow 12) 5)) := ((KT.refl w).alloc _).alloc _
    exact (unhide H).on k2 trivial (fun _ _ => trivial) hLw
  · exact ((Kp.refl _ w).alloc _).alloc _
  rw [← hg, ← hb2]
  clear hmk hg hb2 H
  rintro w1 h1
  have HT := hide (readFull_ok w1 B L _ h1.buf 5 g 0 2 12 (zrow 12) h1.row (by rw [zrow_size]; omega) (by decide) hLg hLB (by omega) (by omega) (by omega) (by simp [hbytes]))
  go_wp2_with fail
  refine (unhide HT).mono ?_
  rintro e w2 ⟨rfl, hT⟩
  obtain ⟨cs2, hu2, h2⟩ := h1.took hT hbg hbB hwg
  have d0 : w2.cell? ⟨g, 0, none⟩ = some (bv (B0 fin r o)) := (h2.row.cell 0).trans (by have := hu2.new 0 (by omega); simpa [hbytes] using this)
  have d1 : w2.cell? ⟨g, 1, none⟩ = some (bv (B1 mk n)) := (h2.row.cell 1).trans (by have := hu2.new 1 (by omega); simpa [hbytes] using this)
  have hs2 : cs2.size = 12 := by rw [hu2.size, zrow_size]
  have hb2 : (hbytes fin r o mk M n ++ rest).drop 2 = ext n ++ tail4 mk M ++ rest := by simp [hbytes]
  rw [hb2] at h2
  obtain ⟨c0, c1, c2, c3, c4, c5, c6, c7, c8⟩ := row9 h2.hdr
  have f0 := h2.hdr.frozen 0
  have f1 := h2.hdr.frozen 1
  have f2 := h2.hdr.frozen 2
  have f3 := h2.hdr.frozen 3
  have f8 := h2.hdr.frozen 8
  have H2 := hide h2
  have HS2 := hide hs2
  clear HT hT h1 hu2 h2 hs2 hb2
  cases fin <;> cases mk
  · have hM : M = z4 := by simpa using hz
    subst hM
    go_upto_region 21 with fail
    refine wp_abs (fun w3 => Rhs w w3 B L b2 g (wcells false r o false z4 0) cs2 (ext n ++ tail4 false z4 ++ rest)) ?_ ?_
    · exact ((((unhide H2).set hbg hbB hLb hwb (i := 0) _).set hbg hbB hLb hwb (i := 1) _).set hbg hbB hLb hwb (i := 2) _)
    clear c0 c1 c2 c3 c4 c5 c6 c7 c8 f0 f1 f2 f3 f8 d0 d1 H2 e1 e2 e3 e4 e5
    rintro w3 h3
    have HT := hide (readFull_ok w3 B L _ h3.buf 5 g 0 8 12 cs2 h3.row (by rw [unhide HS2]; omega) (by decide) hLg hLB (by omega) (by omega) (by omega) (by simp [show ext n = be 8 n from hext, tail4, be_length] <;> omega))
    go_wp2_with fail
    refine (unhide HT).mono ?_
    rintro e w4 ⟨rfl, hT⟩
    obtain ⟨cs4, hu4, h4⟩ := h3.took hT hbg hbB hwg
    clear HT hT h3
    rw [show (ext n ++ tail4 false z4 ++ rest).drop 8 = rest by simp [show ext n = be 8 n from hext, tail4, List.drop_append, be_length]] at h4
    have hdig : ∀ i, i < 8 → w4.cell? ⟨g, 0 + i, none⟩ = some (bv (digit n (8 - 1 - i))) := fun i hi => by
      rw [h4.row.cell, hu4.new i (by omega)]
      simp [show ext n = be 8 n from hext, List.getD, List.getElem?_append, be_length, hi, be_get 8 n i hi, Nat.lt_of_lt_of_le hi (Nat.le_add_right 8 _)]
    have HBE : Hid (Calls Tryd.prog 103 #[.slice (some ⟨g, 0, none⟩) 8 12] w4 fun e w' => e = .returned (.int .u64 n) ∧ w4 = w') := by
      have := beUint64_any w4 g 0 8 12 (fun i => digit n (8 - 1 - i)) (by omega) (by omega) hdig
      rwa [acc_all n 8 (by omega)] at this
    have q0 : w4.cell? ⟨g, 0, none⟩ = some (bv (digit n 7)) := hdig 0 (by omega)
    have q1 := and_top (digit n 7).toNat (by rw [digit_toNat]; omega)
    have c8 := h4.hdr.cell 8
    have f8 := h4.hdr.frozen 8
    have c3 := h4.hdr.cell 3
    have HU := hide hu4
    have H4 := hide h4
    clear hdig hu4 h4
    have hwn : IntKind.i64.wrap (n : Int) = n := by simp [IntKind.wrap, IntKind.bits, IntKind.signed]; omega
    go_wp2_with fail
    refine (unhide HBE).mono ?_
    rintro e w4 ⟨rfl, rfl⟩
    go_upto_region 38 with fail
    refine wp_abs (fun w5 => Rhs w w5 B L b2 g (wcells false r o false z4 n) cs4 rest) ((unhide H4).set hbg hbB hLb hwb (i := 8) _) ?_
    clear c8 f8 c3 HU H4 hwn q0 q1
    rintro wN hN
    obtain ⟨c0, c1, c2, c3, c4, c5, c6, c7, c8⟩ := row9 hN.hdr
    obtain ⟨f0, f1, f2, f3, f4, f5, f6, f7, f8⟩ := row9f hN.hdr
    have HN := hide hN
    clear hN
    go_wp2_with fail
    refine bp_abs (fun w5 => Rhs w w5 B L b2 g (wcells false r o false z4 n) cs4 rest) ((unhide HN).put9 hbg hbB hLb hwb) ?_
    clear c0 c1 c2 c3 c4 c5 c6 c7 c8 f0 f1 f2 f3 f4 f5 f6 f7 f8
    rintro w5 h5
    obtain ⟨c0, c1, c2, c3, c4, c5, c6, c7, c8⟩ := row9 h5.hdr
    refine bodyPost_ret (v := .tuple #[wval false r o false z4 n, .nilIface]) (by simp [results, Tryd.results90, go_sem, c0, c1, c2, c3, c4, c5, c6, c7, c8]) rfl ⟨rfl, h5.buf, h5.kp⟩
  · go_upto_region 21 with fail
    refine wp_abs (fun w3 => Rhs w w3 B L b2 g (wcells false r o true z4 0) cs2 (ext n ++ tail4 true M ++ rest)) ?_ ?_
    · exact (((((unhide H2).set hbg hbB hLb hwb (i := 0) _).set hbg hbB hLb hwb (i := 1) _).set hbg hbB hLb hwb (i := 2) _).set hbg hbB hLb hwb (i := 3) _)
    clear c0 c1 c2 c3 c4 c5 c6 c7 c8 f0 f1 f2 f3 f8 d0 d1 H2 e1 e2 e3 e4 e5
    rintro w3 h3
    have HT := hide (readFull_ok w3 B L _ h3.buf 5 g 0 12 12 cs2 h3.row (by rw [unhide HS2]; omega) (by decide) hLg hLB (by omega) (by omega) (by omega) (by simp [show ext n = be 8 n from hext, tail4, be_length] <;> omega))
    go_wp2_with fail
    refine (unhide HT).mono ?_
    rintro e w4 ⟨rfl, hT⟩
    obtain ⟨cs4, hu4, h4⟩ := h3.took hT hbg hbB hwg
    clear HT hT h3
    rw [show (ext n ++ tail4 true M ++ rest).drop 12 = rest by simp [show ext n = be 8 n from hext, tail4, List.drop_append, be_length]] at h4
    have hdig : ∀ i, i < 8 → w4.cell? ⟨g, 0 + i, none⟩ = some (bv (digit n (8 - 1 - i))) := fun i hi => by
      rw [h4.row.cell, hu4.new i (by omega)]
      simp [show ext n = be 8 n from hext, List.getD, List.getElem?_append, be_length, hi, be_get 8 n i hi, Nat.lt_of_lt_of_le hi (Nat.le_add_right 8 _)]
    have HBE : Hid (Calls Tryd.prog 103 #[.slice (some ⟨g, 0, none⟩) 8 12] w4 fun e w' => e = .returned (.int .u64 n) ∧ w4 = w') := by
      have := beUint64_any w4 g 0 8 12 (fun i => digit n (8 - 1 - i)) (by omega) (by omega) hdig
      rwa [acc_all n 8 (by omega)] at this
    have q0 : w4.cell? ⟨g, 0, none⟩ = some (bv (digit n 7)) := hdig 0 (by omega)
    have q1 := and_top (digit n 7).toNat (by rw [digit_toNat]; omega)
    have c8 := h4.hdr.cell 8
    have f8 := h4.hdr.frozen 8
    have c3 := h4.hdr.cell 3
    have HU := hide hu4
    have H4 := hide h4
    clear hdig hu4 h4
    have hwn : IntKind.i64.wrap (n : Int) = n := by simp [IntKind.wrap, IntKind.bits, IntKind.signed]; omega
    go_wp2_with fail
    refine (unhide HBE).mono ?_
    rintro e w4 ⟨rfl, rfl⟩
    go_upto_region 37 with fail
    refine wp_abs (fun w5 => Rhs w w5 B L b2 g (wcells false r o true z4 n) cs4 rest) ((unhide H4).set hbg hbB hLb hwb (i := 8) _) ?_
    clear c8 f8 c3 H4 hwn q0 q1
    rintro w5 h5
    have hby : Byt w5 g 8 [M 0, M 1, M 2, M 3] := by
      have hx : ∀ i, i < 4 → w5.cell? ⟨g, 8 + i, none⟩ = some (bv (M i)) := fun i hi => by
        rw [h5.row.cell, show (8 + i : Nat) = 0 + (8 + i) by omega, (unhide HU).new (8 + i) (by omega)]
        have : i = 0 ∨ i = 1 ∨ i = 2 ∨ i = 3 := by omega
        rcases this with rfl | rfl | rfl | rfl <;> simp [show ext n = be 8 n from hext, tail4, List.getD, List.getElem?_append, be_length]
      intro i hi
      have hi4 : i < 4 := hi
      rw [hx i hi4]
      have : i = 0 ∨ i = 1 ∨ i = 2 ∨ i = 3 := by omega
      rcases this with rfl | rfl | rfl | rfl <;> rfl
    have HBY := hide (Rd.of_byt hby h5.row.lt)
    have HMN : Hid (4 = min [M 0, M 1, M 2, M 3].length 4) := rfl
    have HF8 : Hid (4 + 4 ≤ (wcells false r o true z4 n).size) := by show 8 ≤ 9; omega
    have HFM : Hid (∀ i, i < 4 → [M 0, M 1, M 2, M 3].getD i 0 = M i) := fun i hi => by rcases (show i = 0 ∨ i = 1 ∨ i = 2 ∨ i = 3 by omega) with rfl | rfl | rfl | rfl <;> rfl
    have H5 := hide h5
    have HBL := hide h5.hdr
    clear hby h5
    go_upto_region 38 with (with_reducible refine wpList_copy_into rfl (.tmp 114) (.tmp 115) rfl 78 b2 4 4 4 rfl (some ⟨g, 8, none⟩) 4 4 rfl w5.heap.size [M 0, M 1, M 2, M 3] (unhide HBY) rfl (wcells false r o true z4 n) (unhide HBL) 4 (unhide HMN) (unhide HF8) ?_; intro w6 cs6 hb6 hu6 hk6; obtain rfl := put_mask (M := M) hu6 (unhide HFM); have h6 : Rhs w w6 B L b2 g (wcells false r o true M n) cs4 rest := ⟨hb6, (unhide H5).row.kp hk6 (Ne.symm hbg), (unhide H5).buf.on hk6 (Ne.symm hbB) (fun i hi => by omega) (by have := (unhide H5).hdr.lt; omega), (unhide H5).kp.then_ hk6 (fun i hi _ => by omega)⟩; have H6 := hide h6; clear hb6 hu6 hk6 h6)
    refine wp_abs (fun w7 => Rhs w w7 B L b2 g (wcells false r o true M n) cs4 rest) (unhide H6) ?_
    clear H5 H6 HBY HMN HBL HU HF8 HFM
    rintro wN hN
    obtain ⟨c0, c1, c2, c3, c4, c5, c6, c7, c8⟩ := row9 hN.hdr
    obtain ⟨f0, f1, f2, f3, f4, f5, f6, f7, f8⟩ := row9f hN.hdr
    have HN := hide hN
    clear hN
    go_wp2_with fail
    refine bp_abs (fun w5 => Rhs w w5 B L b2 g (wcells false r o true M n) cs4 rest) ((unhide HN).put9 hbg hbB hLb hwb) ?_
    clear c0 c1 c2 c3 c4 c5 c6 c7 c8 f0 f1 f2 f3 f4 f5 f6 f7 f8
    rintro w5 h5
    obtain ⟨c0, c1, c2, c3, c4, c5, c6, c7, c8⟩ := row9 h5.hdr
    refine bodyPost_ret (v := .tuple #[wval false r o true M n, .nilIface]) (by simp [results, Tryd.results90, go_sem, c0, c1, c2, c3, c4, c5, c6, c7, c8]) rfl ⟨rfl, h5.buf, h5.kp⟩
  · have hM : M = z4 := by simpa using hz
    subst hM
    go_upto_region 21 with fail
    refine wp_abs (fun w3 => Rhs w w3 B L b2 g (wcells true r o false z4 0) cs2 (ext n ++ tail4 false z4 ++ rest)) ?_ ?_
    · exact ((((unhide H2).set hbg hbB hLb hwb (i := 0) _).set hbg hbB hLb hwb (i := 1) _).set hbg hbB hLb hwb (i := 2) _)
    clear c0 c1 c2 c3 c4 c5 c6 c7 c8 f0 f1 f2 f3 f8 d0 d1 H2 e1 e2 e3 e4 e5
    rintro w3 h3
    have HT := hide (readFull_ok w3 B L _ h3.buf 5 g 0 8 12 cs2 h3.row (by rw [unhide HS2]; omega) (by decide) hLg hLB (by omega) (by omega) (by omega) (by simp [show ext n = be 8 n from hext, tail4, be_length] <;> omega))
    go_wp2_with fail
    refine (unhide HT).mono ?_
    rintro e w4 ⟨rfl, hT⟩
    obtain ⟨cs4, hu4, h4⟩ := h3.took hT hbg hbB hwg
    clear HT hT h3
    rw [show (ext n ++ tail4 false z4 ++ rest).drop 8 = rest by simp [show ext n = be 8 n from hext, tail4, List.drop_append, be_length]] at h4
    have hdig : ∀ i, i < 8 → w4.cell? ⟨g, 0 + i, none⟩ = some (bv (digit n (8 - 1 - i))) := fun i hi => by
      rw [h4.row.cell, hu4.new i (by omega)]
      simp [show ext n = be 8 n from hext, List.getD, List.getElem?_append, be_length, hi, be_get 8 n i hi, Nat.lt_of_lt_of_le hi (Nat.le_add_right 8 _)]
    have HBE : Hid (Calls Tryd.prog 103 #[.slice (some ⟨g, 0, none⟩) 8 12] w4 fun e w' => e = .returned (.int .u64 n) ∧ w4 = w') := by
      have := beUint64_any w4 g 0 8 12 (fun i => digit n (8 - 1 - i)) (by omega) (by omega) hdig
      rwa [acc_all n 8 (by omega)] at this
    have q0 : w4.cell? ⟨g, 0, none⟩ = some (bv (digit n 7)) := hdig 0 (by omega)
    have q1 := and_top (digit n 7).toNat (by rw [digit_toNat]; omega)
    have c8 := h4.hdr.cell 8
    have f8 := h4.hdr.frozen 8
    have c3 := h4.hdr.cell 3
    have HU := hide hu4
    have H4 := hide h4
    clear hdig hu4 h4
    have hwn : IntKind.i64.wrap (n : Int) = n := by simp [IntKind.wrap, IntKind.bits, IntKind.signed]; omega
    go_wp2_with fail
    refine (unhide HBE).mono ?_
    rintro e w4 ⟨rfl, rfl⟩
    go_upto_region 38 with fail
    refine wp_abs (fun w5 => Rhs w w5 B L b2 g (wcells true r o false z4 n) cs4 rest) ((unhide H4).set hbg hbB hLb hwb (i := 8) _) ?_
    clear c8 f8 c3 HU H4 hwn q0 q1
    rintro wN hN
    obtain ⟨c0, c1, c2, c3, c4, c5, c6, c7, c8⟩ := row9 hN.hdr
    obtain ⟨f0, f1, f2, f3, f4, f5, f6, f7, f8⟩ := row9f hN.hdr
    have HN := hide hN
    clear hN
    go_wp2_with fail
    refine bp_abs (fun w5 => Rhs w w5 B L b2 g (wcells true r o false z4 n) cs4 rest) ((unhide HN).put9 hbg hbB hLb hwb) ?_
    clear c0 c1 c2 c3 c4 c5 c6 c7 c8 f0 f1 f2 f3 f4 f5 f6 f7 f8
    rintro w5 h5
    obtain ⟨c0, c1, c2, c3, c4, c5, c6, c7, c8⟩ := row9 h5.hdr
    refine bodyPost_ret (v := .tuple #[wval true r o false z4 n, .nilIface]) (by simp [results, Tryd.results90, go_sem, c0, c1, c2, c3, c4, c5, c6, c7, c8]) rfl ⟨rfl, h5.buf, h5.kp⟩
  · go_upto_region 21 with fail
    refine wp_abs (fun w3 => Rhs w w3 B L b2 g (wcells true r o true z4 0) cs2 (ext n ++ tail4 true M ++ rest)) ?_ ?_
    · exact (((((unhide H2).set hbg hbB hLb hwb (i := 0) _).set hbg hbB hLb hwb (i := 1) _).set hbg hbB hLb hwb (i := 2) _).set hbg hbB hLb hwb (i := 3) _)
    clear c0 c1 c2 c3 c4 c5 c6 c7 c8 f0 f1 f2 f3 f8 d0 d1 H2 e1 e2 e3 e4 e5
    rintro w3 h3
    have HT := hide (readFull_ok w3 B L _ h3.buf 5 g 0 12 12 cs2 h3.row (by rw [unhide HS2]; omega) (by decide) hLg hLB (by omega) (by omega) (by omega) (by simp [show ext n = be 8 n from hext, tail4, be_length] <;> omega))
    go_wp2_with fail
    refine (unhide HT).mono ?_
    rintro e w4 ⟨rfl, hT⟩
    obtain ⟨cs4, hu4, h4⟩ := h3.took hT hbg hbB hwg
    clear HT hT h3
    rw [show (ext n ++ tail4 true M ++ rest).drop 12 = rest by simp [show ext n = be 8 n from hext, tail4, List.drop_append, be_length]] at h4
    have hdig : ∀ i, i < 8 → w4.cell? ⟨g, 0 + i, none⟩ = some (bv (digit n (8 - 1 - i))) := fun i hi => by
      rw [h4.row.cell, hu4.new i (by omega)]
      simp [show ext n = be 8 n from hext, List.getD, List.getElem?_append, be_length, hi, be_get 8 n i hi, Nat.lt_of_lt_of_le hi (Nat.le_add_right 8 _)]
    have HBE : Hid (Calls Tryd.prog 103 #[.slice (some ⟨g, 0, none⟩) 8 12] w4 fun e w' => e = .returned (.int .u64 n) ∧ w4 = w') := by
      have := beUint64_any w4 g 0 8 12 (fun i => digit n (8 - 1 - i)) (by omega) (by omega) hdig
      rwa [acc_all n 8 (by omega)] at this
    have q0 : w4.cell? ⟨g, 0, none⟩ = some (bv (digit n 7)) := hdig 0 (by omega)
    have q1 := and_top (digit n 7).toNat (by rw [digit_toNat]; omega)
    have c8 := h4.hdr.cell 8
    have f8 := h4.hdr.frozen 8
    have c3 := h4.hdr.cell 3
    have HU := hide hu4
    have H4 := hide h4
    clear hdig hu4 h4
    have hwn : IntKind.i64.wrap (n : Int) = n := by simp [IntKind.wrap, IntKind.bits, IntKind.signed]; omega
    go_wp2_with fail
    refine (unhide HBE).mono ?_
    rintro e w4 ⟨rfl, rfl⟩
    go_upto_region 37 with fail
    refine wp_abs (fun w5 => Rhs w w5 B L b2 g (wcells true r o true z4 n) cs4 rest) ((unhide H4).set hbg hbB hLb hwb (i := 8) _) ?_
    clear c8 f8 c3 H4 hwn q0 q1
    rintro w5 h5
    have hby : Byt w5 g 8 [M 0, M 1, M 2, M 3] := by
      have hx : ∀ i, i < 4 → w5.cell? ⟨g, 8 + i, none⟩ = some (bv (M i)) := fun i hi => by
        rw [h5.row.cell, show (8 + i : Nat) = 0 + (8 + i) by omega, (unhide HU).new (8 + i) (by omega)]
        have : i = 0 ∨ i = 1 ∨ i = 2 ∨ i = 3 := by omega
        rcases this with rfl | rfl | rfl | rfl <;> simp [show ext n = be 8 n from hext, tail4, List.getD, List.getElem?_append, be_length]
      intro i hi
      have hi4 : i < 4 := hi
      rw [hx i hi4]
      have : i = 0 ∨ i = 1 ∨ i = 2 ∨ i = 3 := by omega
      rcases this with rfl | rfl | rfl | rfl <;> rfl
    have HBY := hide (Rd.of_byt hby h5.row.lt)
    have HMN : Hid (4 = min [M 0, M 1, M 2, M 3].length 4) := rfl
    have HF8 : Hid (4 + 4 ≤ (wcells true r o true z4 n).size) := by show 8 ≤ 9; omega
    have HFM : Hid (∀ i, i < 4 → [M 0, M 1, M 2, M 3].getD i 0 = M i) := fun i hi => by rcases (show i = 0 ∨ i = 1 ∨ i = 2 ∨ i = 3 by omega) with rfl | rfl | rfl | rfl <;> rfl
    have H5 := hide h5
    have HBL := hide h5.hdr
    clear hby h5
    go_upto_region 38 with (with_reducible refine wpList_copy_into rfl (.tmp 114) (.tmp 115) rfl 78 b2 4 4 4 rfl (some ⟨g, 8, none⟩) 4 4 rfl w5.heap.size [M 0, M 1, M 2, M 3] (unhide HBY) rfl (wcells true r o true z4 n) (unhide HBL) 4 (unhide HMN) (unhide HF8) ?_; intro w6 cs6 hb6 hu6 hk6; obtain rfl := put_mask (M := M) hu6 (unhide HFM); have h6 : Rhs w w6 B L b2 g (wcells true r o true M n) cs4 rest := ⟨hb6, (unhide H5).row.kp hk6 (Ne.symm hbg), (unhide H5).buf.on hk6 (Ne.symm hbB) (fun i hi => by omega) (by have := (unhide H5).hdr.lt; omega), (unhide H5).kp.then_ hk6 (fun i hi _ => by omega)⟩; have H6 := hide h6; clear hb6 hu6 hk6 h6)
    refine wp_abs (fun w7 => Rhs w w7 B L b2 g (wcells true r o true M n) cs4 rest) (unhide H6) ?_
    clear H5 H6 HBY HMN HBL HU HF8 HFM
    rintro wN hN
    obtain ⟨c0, c1, c2, c3, c4, c5, c6, c7, c8⟩ := row9 hN.hdr
    obtain ⟨f0, f1, f2, f3, f4, f5, f6, f7, f8⟩ := row9f hN.hdr
    have HN := hide hN
    clear hN
    go_wp2_with fail
    refine bp_abs (fun w5 => Rhs w w5 B L b2 g (wcells true r o true M n) cs4 rest) ((unhide HN).put9 hbg hbB hLb hwb) ?_
    clear c0 c1 c2 c3 c4 c5 c6 c7 c8 f0 f1 f2 f3 f4 f5 f6 f7 f8
    rintro w5 h5
    obtain ⟨c0, c1, c2, c3, c4, c5, c6, c7, c8⟩ := row9 h5.hdr
    refine bodyPost_ret (v := .tuple #[wval true r o true M n, .nilIface]) (by simp [results, Tryd.results90, go_sem, c0, c1, c2, c3, c4, c5, c6, c7, c8]) rfl ⟨rfl, h5.buf, h5.kp⟩

theorem readHeader (w : World) (B L : Nat) (fin : Bool) (r o : Nat) (mk : Bool) (M : Nat → UInt8) (n : Nat) (rest : List UInt8) (hr : r < 8) (ho : o < 16) (hn : n ≤ 9223372036854775807) (hz : mk = true ∨ M = z4)
    (h : BufR w B L (hbytes fin r o mk M n ++ rest)) (hLB : L ≤ B) (hLw : L ≤ w.heap.size) :
    Calls Tryd.prog 90 #[rdr B] w fun e w' => NewHdr w w' B L (wval fin r o mk M n) rest e := by
  by_cases h1 : n < 126
  · exact readHeader0 w B L fin r o mk M n rest hr ho h1 hz h hLB hLw
  · by_cases h2 : n < 65536
    · exact readHeader2 w B L fin r o mk M n rest hr ho (by omega) h2 hz h hLB hLw
    · exact readHeader8 w B L fin r o mk M n rest hr ho (by omega) hn hz h hLB hLw
end Go.Proofs.YtechapgchjdhaaaDoor
