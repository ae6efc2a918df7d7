/- laws.FnFrame: the walk. -/
import Derived.Test.YtechapgchjdhaaaDoorPfc
import Derived.Test.YtechapgchjdhaaaDoorWfr
import Derived.Test.YtechapgchjdhaaaDoorFph
namespace Go.Proofs.YtechapgchjdhaaaDoor
open Go.RowKit

/-- Equal bytes are the same. -/
theorem same_kt (w : World) (A A' : Option Addr) (c c' : Nat) (bs : List UInt8) (n : Nat) (hn : n = bs.length) (hr : Rd w w.heap.size A bs) (hr' : Rd w w.heap.size A' bs) :
    Calls Tryd.prog 14 #[.slice A n c, .slice A' n c'] w fun e w' => e = .returned (.bool true) ∧ KT w w' :=
  (same_any w w.heap.size A A' n c n c' bs bs hr hr' hn hn).mono fun _ _ ⟨h1, h2⟩ => ⟨by rw [h1]; simp, h2 ▸ KT.refl w⟩

theorem OwnN.rdc {w : World} {base : Nat} {v : Value} {bs : List UInt8} (h : OwnN w base v bs) : ∃ g cap, v = .slice (some ⟨g, 0, none⟩) bs.length cap ∧ bs.length ≤ cap ∧ Rd w w.heap.size (some ⟨g, 0, none⟩) bs := by
  obtain ⟨g, rest, rfl, _, hblk, _⟩ := h.1.form h.2
  exact ⟨g, _, rfl, by omega, Rd.of_blk hblk⟩

theorem Fresh.own {w : World} {g base : Nat} {bs : List UInt8} {rest : List Value} (hb : base ≤ g) (h : Blk w g 5 (bs.map bv ++ rest).toArray) (hm : bs.length + rest.length ≤ maxLen) : Own w base (.slice (some ⟨g, 0, none⟩) bs.length (bs.length + rest.length)) bs :=
  ⟨by simp, Or.inr ⟨g, _, _, rfl, hb, h, by omega, hm, by simp, by simp⟩⟩

set_option maxRecDepth 100000 in
set_option maxHeartbeats 8000000 in
theorem fnFrame_walk (w : World) (fin : Bool) (rsv op : Int) (A : Option Addr) (c : Nat) (ps : List UInt8) (A' : Option Addr) (c' : Nat) (bh : List UInt8) (z : Int) (hr : Rd w w.heap.size A ps) (hr' : Rd w w.heap.size A' bh) (hrem : Rem w) :
    Calls Tryd.prog 11 #[.bool fin, .int .i64 rsv, .int .i64 op, .slice A ps.length c, .slice A' bh.length c', .int .i64 z] w (Yes w) := by
  have KA : Hid (∀ x, KT w (w.alloc x)) := fun x => (KT.refl w).alloc x
  by_cases hbig : 2147483647 < ps.length
  · clear hr hr'
    go_enter Tryd.func11, Tryd.ntmps11
    go_wp2_with fail
    go_ret
    exact ⟨rfl, KT.refl w⟩
  by_cases hbig' : 2147483647 < bh.length
  · clear hr hr'
    go_enter Tryd.func11, Tryd.ntmps11
    go_wp2_with fail
    go_ret
    exact ⟨rfl, KT.refl w⟩
  have hb1 : ps.length ≤ 2147483647 := by omega
  have hb2 : bh.length ≤ 2147483647 := by omega
  clear hbig hbig'
  go_enter Tryd.func11, Tryd.ntmps11
  go_upto_region 4 with fail
  refine wp_abs (fun w1 => Blk w1 w.heap.size 29 (hcells fin rsv op false z4 ps.length) ∧ KT w w1) ⟨Blk.new w 29 _, unhide KA _⟩ ?_
  obtain ⟨b13, hb13⟩ : ∃ b, b = w.heap.size := ⟨_, rfl⟩
  rw [← hb13]
  clear hb13 KA
  rintro w1 ⟨p13, k1⟩
  obtain ⟨c0, c1, c2, c3, c4, c5, c6, c7, c8⟩ := row9 p13
  go_wp2_with fail
  refine (header_any w1 fin rsv op false z4 ps.length).mono ?_
  rintro e w2 ⟨rfl, hk2⟩
  replace p13 := p13.on hk2
  have k2 := Kp.trans k1 hk2
  clear c0 c1 c2 c3 c4 c5 c6 c7 c8 k1 hk2
  go_upto_region 5 with fail
  refine wp_abs (fun w3 => Blk w3 b13 29 (hcells fin rsv op false z4 ps.length) ∧ Blk w3 w2.heap.size 30 (hcells fin rsv op false z4 ps.length) ∧ KT w w3) ⟨p13.alloc _, Blk.new w2 30 _, k2.alloc _⟩ ?_
  obtain ⟨b11, hb11⟩ : ∃ b, b = w2.heap.size := ⟨_, rfl⟩
  rw [← hb11]
  clear hb11 p13 k2
  rintro w3 ⟨p13, p11, k3⟩
  obtain ⟨c0, c1, c2, c3, c4, c5, c6, c7, c8⟩ := row9 p11
  go_wp2_with fail
  refine (proper_any w3 fin rsv op false z4 ps.length).mono ?_
  rintro e wx ⟨rfl, hk⟩
  have kx := Kp.trans k3 hk
  replace p11 := p11.on hk
  replace p13 := p13.on hk
  clear c0 c1 c2 c3 c4 c5 c6 c7 c8 k3 hk
  have hw := works_any wx (hrem.on kx)
  cases h3 : properB rsv op false z4 ps.length
  · go_wp2_with (refine hw.mono ?_; rintro r w4 ⟨rfl, hk⟩)
    go_ret
    exact ⟨rfl, Kp.trans kx hk⟩
  by_cases h70 : 70000 < ps.length
  · go_wp2_with (refine hw.mono ?_; rintro r w4 ⟨rfl, hk⟩)
    go_ret
    exact ⟨rfl, Kp.trans kx hk⟩
  by_cases h100 : 100 < bh.length
  · go_wp2_with (refine hw.mono ?_; rintro r w4 ⟨rfl, hk⟩)
    go_ret
    exact ⟨rfl, Kp.trans kx hk⟩
  clear hw
  obtain ⟨g1, g2, g3, g4, g5, _⟩ := properB_spec _ _ _ _ _ h3
  obtain ⟨r, rfl⟩ := Int.eq_ofNat_of_zero_le g1
  obtain ⟨o, rfl⟩ := Int.eq_ofNat_of_zero_le g3
  have hr8 : r < 8 := by omega
  have ho : o < 16 := by omega
  clear g1 g2 g3 g4 g5 h3
  have h14 := hbytes_le fin r o false z4 ps.length
  have HB := hide (fun w => specBytes w fin r o false z4 ps.length hr8 ho (by omega))
  have HI := hide (fun w A c hrd => implFormatFrame w fin r o false z4 ps.length A c ps hr8 ho (by omega) hb1 hrd)
  have HP := hide (fun w A c hl hrd => implParseFrame w A c fin r o false z4 ps bh hr8 ho hb1 (Or.inr rfl) (hbytes fin r o false z4 ps.length ++ ps ++ bh) (List.append_assoc _ _ _) hl hrd)
  have HC := hide (fun w A c k hk hl hrd => implParseFrame_cut w A c fin r o false z4 ps k hr8 ho hb1 (Or.inr rfl) hk ((hbytes fin r o false z4 ps.length ++ ps).take k) rfl hl hrd)
  obtain ⟨hb, hhb⟩ : ∃ hb, hb = hbytes fin r o false z4 ps.length := ⟨_, rfl⟩
  rw [← hhb] at HB HI HP HC h14
  clear hhb
  have HR := hide hr
  have HR' := hide hr'
  have P13 := hide p13
  have P11 := hide p11
  have KX := hide kx
  obtain ⟨c0, c1, c2, c3, c4, c5, c6, c7, c8⟩ := row9 p11
  clear hr hr' p13 p11 kx
  go_wp2_with fail
  refine (unhide HB wx).mono ?_
  rintro e w4 ⟨ga, resta, rfl, hga, hblka, hma, hk4⟩
  have HO := hide (Fresh.own hga hblka hma)
  have k4 := Kp.trans (unhide KX) hk4
  have HRD4 := hide ((unhide HR).on k4)
  have HK4 := hide hk4
  have hsz4 := hk4.size
  clear c0 c1 c2 c3 c4 c5 c6 c7 c8 hk4 hblka hma hga k4
  go_upto_region 8 with (at_builtin; refine wpList_append_bytes rfl (.tmp 57) (.tmp 58) rfl wx.heap.size _ hb rfl (unhide HO) w4.heap.size A ps.length c ps rfl (unhide HRD4) rfl (by omega) hsz4 ?_; intro v5 w5 hown5 hg5 hnil5; have hk5 := grown_kt (unhide HK4) (unhide HO) (Nat.le_refl _) hg5; have ho5 : OwnN w5 wx.heap.size v5 (hb ++ ps) := ⟨hown5, fun e => by have := (hnil5.1 e).1; cases this⟩; obtain ⟨gw, cw, rfl, hcw0, hrd5⟩ := ho5.rdc; have hcw : hb.length + ps.length ≤ cw := (by rw [← List.length_append]; exact hcw0); have HRD5 := hide hrd5; have HK5 := hide hk5; clear hown5 hg5 hnil5 hk5 ho5 hrd5 hcw0)
  refine wp_abs (fun wy => KT w wy ∧ Blk wy b13 29 (hcells fin r o false z4 ps.length) ∧ Blk wy b11 30 (hcells fin r o false z4 ps.length) ∧ Rd wy wy.heap.size (some ⟨gw, 0, none⟩) (hb ++ ps)) ⟨Kp.trans (unhide KX) (unhide HK5), (unhide P13).on (unhide HK5), (unhide P11).on (unhide HK5), unhide HRD5⟩ ?_
  clear HK5 HRD5 P13 P11 KX HO HK4 HRD4 hsz4 HB
  rintro w5 ⟨k5, p13, p11, hw5⟩
  obtain ⟨c0, c1, c2, c3, c4, c5, c6, c7, c8⟩ := row9 p13
  have HF := hide (unhide HI w5 A c ((unhide HR).on k5))
  go_wp2_with fail
  refine (unhide HF).mono ?_
  rintro e w6 ⟨gb, cb, rfl, hb6, hk6⟩
  have k6 := Kp.trans k5 hk6
  have hw6 := hw5.on hk6
  have q11 := p11.on hk6
  have HRB := hide ((unhide HR').on k6)
  have hown : Own (w6.alloc (.cells #[] 5)) w6.heap.size (.slice (some ⟨w6.heap.size, 0, none⟩) 0 0) [] := World.ownsRow_made w6 #[] 0 (Nat.le_refl _) (by simp [maxLen]) rfl
  have HO := hide hown
  have HA := hide (hw6.alloc (Nat.le_refl _) (.cells #[] 5))
  have hle1 : w6.heap.size ≤ (w6.alloc (.cells #[] 5)).heap.size := by simp
  have HL1 := hide hle1
  have K6 := hide k6
  have Q11 := hide q11
  have HW6 := hide hw6
  have HB6 := hide hb6
  clear c0 c1 c2 c3 c4 c5 c6 c7 c8 hk6 k5 p13 p11 hw5 HF HI hown hle1 k6 q11 hw6 hb6 HR'
  go_wp2_with (first
    | (at_builtin; refine wpList_append_bytes rfl (.tmp 67) (.tmp 68) rfl w6.heap.size (.slice (some ⟨w6.heap.size, 0, none⟩) 0 0) [] rfl (unhide HO) w6.heap.size (some ⟨gw, 0, none⟩) _ _ (hb ++ ps) rfl (unhide HA) (by simp) (by simp; omega) (unhide HL1) ?_; intro v7 w7 hown1 hg1 hnil1; have hk7 := grown_kt ((KT.refl w6).alloc _) (unhide HO) (Nat.le_refl _) hg1; have hn1 : v7 ≠ .slice none 0 0 := (fun e => by have := (hnil1.1 e).1; cases this); have HN1 := hide hn1; have HK7 := hide hk7; have HO1 := hide hown1; have HBH1 := hide ((unhide HRB).on hk7); clear hown1 hg1 hnil1 hk7 hn1)
    | (at_builtin; refine wpList_append_bytes rfl (.tmp 69) (.tmp 70) rfl w6.heap.size v7 ([] ++ (hb ++ ps)) rfl (unhide HO1) w7.heap.size A' bh.length c' bh rfl (unhide HBH1) rfl (by simp; omega) (unhide HK7).size ?_; intro v8 w8 hown2 hg2 hnil2; have hk8 := grown_kt (unhide HK7) (unhide HO1) (Nat.le_refl _) hg2; have ho8 : OwnN w8 w6.heap.size v8 (hb ++ ps ++ bh) := ⟨by have := hown2; rw [List.nil_append] at this; exact this, fun e => unhide HN1 (hnil2.1 e).1⟩; obtain ⟨g8, cap8, rfl, _, hrd8, _⟩ := ho8.rd; have HRD8 := hide hrd8; have HK8 := hide hk8; clear hown2 hg2 hnil2 hk8 ho8 hrd8))
  have hi := unhide HP w8 (some ⟨g8, 0, none⟩) cap8 (by simp; omega) (unhide HRD8)
  rw [List.length_append, List.length_append, Nat.add_assoc] at hi
  refine hi.mono ?_
  rintro e w9 ⟨gf, cf, rfl, hrd9, hk9⟩
  have k39 := Kp.trans (unhide HK8) hk9
  have k9 := Kp.trans (unhide K6) k39
  have q11 := (unhide Q11).on k39
  have qw := (unhide HW6).on k39
  have qb := (unhide HB6).on k39
  clear hi hk9 k39 HO HO1 HN1 HA HBH1 HL1 HK7 HK8 HRD8 HP K6 Q11 HW6 HB6 HRB
  go_upto_region 10 with fail
  refine wp_abs (fun wa => Blk wa w9.heap.size 29 (hcells fin r o false z4 ps.length) ∧ Blk wa b11 30 (hcells fin r o false z4 ps.length) ∧ Rd wa wa.heap.size (some ⟨gw, 0, none⟩) (hb ++ ps) ∧ Rd wa wa.heap.size (some ⟨gb, 0, none⟩) (hb ++ ps) ∧ Rd wa wa.heap.size (some ⟨gf, 0, none⟩) ps ∧ KT w wa) ⟨Blk.new w9 29 _, q11.alloc _, qw.on ((KT.refl w9).alloc _), qb.on ((KT.refl w9).alloc _), hrd9.on ((KT.refl w9).alloc _), k9.alloc _⟩ ?_
  obtain ⟨b18, hb18⟩ : ∃ b, b = w9.heap.size := ⟨_, rfl⟩
  rw [← hb18]
  clear hb18 q11 qw qb hrd9 k9
  rintro wy ⟨p18, p11, rw_, rb_, rf_, ky⟩
  have hs : ∀ w', KT wy w' → (fun w' : World => KT wy w' ∧ w'.cell? ⟨b18, 0, none⟩ = some (.bool fin) ∧ w'.cell? ⟨b18, 1, none⟩ = some (.int .i64 r) ∧ w'.cell? ⟨b18, 2, none⟩ = some (.int .i64 o) ∧ w'.cell? ⟨b18, 3, none⟩ = some (.bool false) ∧ w'.cell? ⟨b18, 4, none⟩ = some (bv (z4 0)) ∧ w'.cell? ⟨b18, 5, none⟩ = some (bv (z4 1)) ∧ w'.cell? ⟨b18, 6, none⟩ = some (bv (z4 2)) ∧ w'.cell? ⟨b18, 7, none⟩ = some (bv (z4 3)) ∧ w'.cell? ⟨b18, 8, none⟩ = some (.int .i64 ps.length) ∧ w'.cell? ⟨b11, 0, none⟩ = some (.bool fin) ∧ w'.cell? ⟨b11, 1, none⟩ = some (.int .i64 r) ∧ w'.cell? ⟨b11, 2, none⟩ = some (.int .i64 o) ∧ w'.cell? ⟨b11, 3, none⟩ = some (.bool false) ∧ w'.cell? ⟨b11, 4, none⟩ = some (bv (z4 0)) ∧ w'.cell? ⟨b11, 5, none⟩ = some (bv (z4 1)) ∧ w'.cell? ⟨b11, 6, none⟩ = some (bv (z4 2)) ∧ w'.cell? ⟨b11, 7, none⟩ = some (bv (z4 3)) ∧ w'.cell? ⟨b11, 8, none⟩ = some (.int .i64 ps.length)) w' := fun w' hk => by
    obtain ⟨x0, x1, x2, x3, x4, x5, x6, x7, x8⟩ := row9 (p18.on hk)
    obtain ⟨y0, y1, y2, y3, y4, y5, y6, y7, y8⟩ := row9 (p11.on hk)
    exact ⟨hk, x0, x1, x2, x3, x4, x5, x6, x7, x8, y0, y1, y2, y3, y4, y5, y6, y7, y8⟩
  have HS := hide hs
  have HH := hide (fun w' => header_any w' fin r o false z4 ps.length)
  have HSA := hide (fun w' (hk : KT wy w') => same_kt w' (some ⟨gb, 0, none⟩) (some ⟨gw, 0, none⟩) cb cw (hb ++ ps) (hb.length + ps.length) (by rw [List.length_append]) (rb_.on hk) (rw_.on hk))
  have HSB := hide (fun w' (hk : KT wy w') => same_kt w' (some ⟨gf, 0, none⟩) A cf c ps ps.length rfl (rf_.on hk) ((unhide HR).on (Kp.trans ky hk)))
  have hq : ∀ w : World, (binOp .neq 30 (.agg #[.bool fin, .int .i64 r, .int .i64 o, .bool false, bv (z4 0), bv (z4 1), bv (z4 2), bv (z4 3), .int .i64 ps.length]) (.agg #[.bool fin, .int .i64 r, .int .i64 o, .bool false, bv (z4 0), bv (z4 1), bv (z4 2), bv (z4 3), .int .i64 ps.length])).run Tryd.prog w = .ok (.bool false) w := fun w => run_neq_hval w fin r o false z4 ps.length
  have PW := hide rw_
  have KY := hide ky
  clear hs p18 p11 rw_ rb_ rf_ ky
  go_region_held3 (fun w' : World => KT wy w' ∧ w'.cell? ⟨b18, 0, none⟩ = some (.bool fin) ∧ w'.cell? ⟨b18, 1, none⟩ = some (.int .i64 r) ∧ w'.cell? ⟨b18, 2, none⟩ = some (.int .i64 o) ∧ w'.cell? ⟨b18, 3, none⟩ = some (.bool false) ∧ w'.cell? ⟨b18, 4, none⟩ = some (bv (z4 0)) ∧ w'.cell? ⟨b18, 5, none⟩ = some (bv (z4 1)) ∧ w'.cell? ⟨b18, 6, none⟩ = some (bv (z4 2)) ∧ w'.cell? ⟨b18, 7, none⟩ = some (bv (z4 3)) ∧ w'.cell? ⟨b18, 8, none⟩ = some (.int .i64 ps.length) ∧ w'.cell? ⟨b11, 0, none⟩ = some (.bool fin) ∧ w'.cell? ⟨b11, 1, none⟩ = some (.int .i64 r) ∧ w'.cell? ⟨b11, 2, none⟩ = some (.int .i64 o) ∧ w'.cell? ⟨b11, 3, none⟩ = some (.bool false) ∧ w'.cell? ⟨b11, 4, none⟩ = some (bv (z4 0)) ∧ w'.cell? ⟨b11, 5, none⟩ = some (bv (z4 1)) ∧ w'.cell? ⟨b11, 6, none⟩ = some (bv (z4 2)) ∧ w'.cell? ⟨b11, 7, none⟩ = some (bv (z4 3)) ∧ w'.cell? ⟨b11, 8, none⟩ = some (.int .i64 ps.length))
    (first | (go_split_ands; refine unhide HS _ ?_; exact (KT.refl wy).drew) | (go_split_ands; refine unhide HS _ (Kp.trans ?_ hk); assumption) | (go_split_ands; assumption))
    (first
      | (go_at_call 16; go_split_ands; (with_reducible refine (unhide HH _).mono ?_); rintro e w1 ⟨rfl, hk⟩)
      | (go_at_call 14; go_split_ands; (with_reducible refine (unhide HSA _ ?_).mono ?_); assumption; rintro e w1 ⟨rfl, hk⟩)
      | (go_at_call 14; go_split_ands; (with_reducible refine (unhide HSB _ ?_).mono ?_); assumption; rintro e w1 ⟨rfl, hk⟩))
  go_split_ands
  go_upto_region 12 with fail
  refine wp_abs (fun wz => KT wy wz) (by assumption) ?_
  clear HS HH HSA HSB hq
  rintro wz hkz
  have kz := Kp.trans (unhide KY) hkz
  have pw := (unhide PW).on hkz
  clear hkz KY PW HR
  have hw : ∀ w', KT wz w' → Calls Tryd.prog 12 #[] w' (Yes w') := fun w' hk => works_any w' (hrem.on (Kp.trans kz hk))
  have HW := hide hw
  clear hw
  by_cases hz1 : z < 0
  · go_wp2_with ((with_reducible refine (unhide HW _ (KT.refl wz)).mono ?_); rintro r w4 ⟨rfl, hk⟩)
    go_ret
    exact ⟨rfl, Kp.trans kz hk⟩
  obtain ⟨k, rfl⟩ := Int.eq_ofNat_of_zero_le (show 0 ≤ z by omega)
  by_cases hz2 : hb.length + ps.length ≤ k
  · go_wp2_with ((with_reducible refine (unhide HW _ (KT.refl wz)).mono ?_); rintro r w4 ⟨rfl, hk⟩)
    go_ret
    exact ⟨rfl, Kp.trans kz hk⟩
  have hk1 : k < hb.length + ps.length := by omega
  have hl : ((hb ++ ps).take k).length = k := by rw [List.length_take, List.length_append]; omega
  have hrk : Rd wz wz.heap.size (some ⟨gw, 0, none⟩) ((hb ++ ps).take k) := fun hne => by
    obtain ⟨g', off, e, hg, hb'⟩ := pw (by rintro h; rw [h] at hne; simp at hne)
    exact ⟨g', off, e, hg, fun i hi => by
      have hi' : i < (hb ++ ps).length := by rw [List.length_take] at hi; omega
      rw [hb' i hi', List.getElem_take]⟩
  have hcu := fun c => unhide HC wz (some ⟨gw, 0, none⟩) c k (by rw [List.length_append]; exact hk1) (by omega) hrk
  rw [hl] at hcu
  have HCU := hide hcu
  clear hcu hl hrk HC pw
  go_wp2_with fail
  refine (unhide HCU _).mono ?_
  rintro e w8 ⟨rfl, hk8⟩
  have hka : ∀ x, KT wz (w8.alloc x) := fun x => hk8.alloc x
  have HKA := hide hka
  clear hk8 hka
  go_wp2_with ((with_reducible refine (unhide HW _ (unhide HKA _)).mono ?_); rintro r w4 ⟨rfl, hk⟩)
  go_ret
  exact ⟨rfl, Kp.trans (Kp.trans kz (unhide HKA _)) hk⟩
end Go.Proofs.YtechapgchjdhaaaDoor
