/- laws.FnParseHeader: the walk. -/
import Derived.Test.YtechapgchjdhaaaDoorPri
import Derived.Test.YtechapgchjdhaaaDoorFnh
import Derived.Deep.RegionHeld3
namespace Go.Proofs.YtechapgchjdhaaaDoor
open Go.RowKit

set_option maxRecDepth 100000 in
theorem run_neq_hval (w : World) (fin : Bool) (rsv op : Int) (mk : Bool) (M : Nat → UInt8) (len : Int) : (binOp .neq 30 (hval fin rsv op mk M len) (hval fin rsv op mk M len)).run Tryd.prog w = .ok (.bool false) w := by
  have h := run_eql_hval w fin rsv op mk M len
  rw [run_eql_struct] at h
  rw [run_neq_struct]
  cases hr : (Op.equalIn 10000 30 (hval fin rsv op mk M len) (hval fin rsv op mk M len)).run Tryd.prog w with
  | ok b w' =>
    rw [hr] at h
    simp only [Result.andThen_ok] at h ⊢
    injection h with h1 h2
    injection h1 with h1
    subst h1 h2
    rfl
  | halt x w' =>
    rw [hr] at h
    cases h

theorem zmask_z4 {M : Nat → UInt8} (h4 : ∀ i, 4 ≤ i → M i = 0) (h : zmask M = true) : M = z4 := by
  simp only [zmask, Bool.and_eq_true, beq_iff_eq] at h
  obtain ⟨⟨⟨h0, h1⟩, h2⟩, h3⟩ := h
  funext i
  match i with
  | 0 => exact h0
  | 1 => exact h1
  | 2 => exact h2
  | 3 => exact h3
  | i + 4 => exact h4 _ (by omega)

set_option maxRecDepth 100000 in
set_option maxHeartbeats 8000000 in
theorem fnParse_walk (w : World) (fin : Bool) (rsv op : Int) (mk : Bool) (M : Nat → UInt8) (len : Int) (A : Option Addr) (c : Nat) (bh : List UInt8) (z : Int) (hM : ∀ i, 4 ≤ i → M i = 0) (hlen : len ≤ 9223372036854775807) (hr : Rd w w.heap.size A bh) (hrem : Rem w) :
    Calls Tryd.prog 10 #[hval fin rsv op mk M len, .slice A bh.length c, .int .i64 z] w (Yes w) := by
  by_cases hbig : 2147483647 < bh.length
  · have ka : ∀ x, KT w (w.alloc x) := fun x => (KT.refl w).alloc x
    have KA := hide ka
    clear ka hr
    go_enter Tryd.func10, Tryd.ntmps10
    go_wp2_with fail
    go_ret
    exact ⟨rfl, unhide KA _⟩
  have ka : ∀ x, KT w (w.alloc x) := fun x => (KT.refl w).alloc x
  have KA := hide ka
  clear ka
  have hbig' : bh.length ≤ 2147483647 := by omega
  clear hbig
  go_enter Tryd.func10, Tryd.ntmps10
  go_wp2_with fail
  refine (header_any _ fin rsv op mk M len).mono ?_
  rintro e w1 ⟨rfl, hk1⟩
  have k1 : KT w w1 := Kp.trans (unhide KA _) hk1
  clear hk1
  go_upto_region 4 with fail
  refine wp_abs (fun w2 => Blk w2 w1.heap.size 30 (hcells fin rsv op mk M len) ∧ KT w w2) ⟨Blk.new w1 30 _, k1.alloc _⟩ ?_
  clear k1
  rintro w2 ⟨p11, k2⟩
  obtain ⟨b11, hb11⟩ : ∃ b11, b11 = w1.heap.size := ⟨_, rfl⟩
  rw [← hb11] at p11 ⊢
  clear hb11
  obtain ⟨c0, c1, c2, c3, c4, c5, c6, c7, c8⟩ := row9 p11
  go_wp2_with fail
  refine (proper_any w2 fin rsv op mk M len).mono ?_
  rintro e wx ⟨rfl, hk⟩
  have kx := Kp.trans k2 hk
  replace p11 := p11.on hk
  clear c0 c1 c2 c3 c4 c5 c6 c7 c8 k2 hk
  have hw := works_any wx (hrem.on kx)
  cases h3 : properB rsv op mk M len
  · go_wp2_with (refine hw.mono ?_; rintro r w4 ⟨rfl, hk⟩)
    go_ret
    exact ⟨rfl, Kp.trans kx hk⟩
  by_cases h100 : 100 < bh.length
  · go_wp2_with (refine hw.mono ?_; rintro r w4 ⟨rfl, hk⟩)
    go_ret
    exact ⟨rfl, Kp.trans kx hk⟩
  clear hw
  obtain ⟨g1, g2, g3, g4, g5, g6⟩ := properB_spec _ _ _ _ _ h3
  obtain ⟨r, rfl⟩ := Int.eq_ofNat_of_zero_le g1
  obtain ⟨o, rfl⟩ := Int.eq_ofNat_of_zero_le g3
  obtain ⟨n, rfl⟩ := Int.eq_ofNat_of_zero_le g5
  have hr8 : r < 8 := by omega
  have ho : o < 16 := by omega
  have hn : n ≤ 9223372036854775807 := by omega
  have hz : mk = true ∨ M = z4 := g6.imp id (zmask_z4 hM)
  clear g1 g2 g3 g4 g5 g6 h3 hlen hM
  have h14 := hbytes_le fin r o mk M n
  have HB := hide (fun w => specBytes w fin r o mk M n hr8 ho hn)
  have HI := hide (fun w A c hl hrd => implParse w A c fin r o mk M n bh hr8 ho hn hz (hbytes fin r o mk M n ++ bh) rfl hl hrd)
  have HC := hide (fun w A c k hk hl hrd => implParse_cut w A c fin r o mk M n k hk ((hbytes fin r o mk M n).take k) rfl hl hrd)
  obtain ⟨bs, hbs⟩ : ∃ bs, bs = hbytes fin r o mk M n := ⟨_, rfl⟩
  rw [← hbs] at HB HI HC h14
  clear hbs hz
  obtain ⟨c0, c1, c2, c3, c4, c5, c6, c7, c8⟩ := row9 p11
  go_wp2_with fail
  refine (unhide HB wx).mono ?_
  rintro e w3 ⟨ga, resta, rfl, hga, hblka, hma, hk3⟩
  replace p11 := p11.on hk3
  have k3 := Kp.trans kx hk3
  have hrda : Rd w3 w3.heap.size (some ⟨ga, 0, none⟩) bs := Rd.of_blk hblka
  have hrb : Rd w3 w3.heap.size A bh := hr.on k3
  clear c0 c1 c2 c3 c4 c5 c6 c7 c8 hk3 kx hga
  have HA := hide (hrda.alloc (Nat.le_refl _) (.cells #[] 5))
  have HBH := hide hrb
  have hown : Own (w3.alloc (.cells #[] 5)) w3.heap.size (.slice (some ⟨w3.heap.size, 0, none⟩) 0 0) [] := World.ownsRow_made w3 #[] 0 (Nat.le_refl _) (by simp [maxLen]) rfl
  have HO := hide hown
  have hle1 : w3.heap.size ≤ (w3.alloc (.cells #[] 5)).heap.size := by simp
  have HL1 := hide hle1
  have K3 := hide k3
  have P11 := hide p11
  have HBA := hide hblka
  clear hown hle1 hrda hrb hr k3 p11 hblka
  go_wp2_with (first
    | (at_builtin; refine wpList_append_bytes rfl (.tmp 32) (.tmp 33) rfl w3.heap.size (.slice (some ⟨w3.heap.size, 0, none⟩) 0 0) [] rfl (unhide HO) w3.heap.size (some ⟨ga, 0, none⟩) _ _ bs rfl (unhide HA) rfl (by simp; omega) (unhide HL1) ?_; intro v1 w4 hown1 hg1 hnil1; have hk4 := grown_kt ((KT.refl w3).alloc _) (unhide HO) (Nat.le_refl _) hg1; have hn1 : v1 ≠ .slice none 0 0 := (fun e => by have := (hnil1.1 e).1; cases this); have HN1 := hide hn1; have HK4 := hide hk4; have HO1 := hide hown1; have HBH1 := hide ((unhide HBH).on hk4); clear hown1 hg1 hnil1 hk4 hn1)
    | (at_builtin; refine wpList_append_bytes rfl (.tmp 34) (.tmp 35) rfl w3.heap.size v1 ([] ++ bs) rfl (unhide HO1) w4.heap.size A bh.length c bh rfl (unhide HBH1) rfl (by simp; omega) (unhide HK4).size ?_; intro v2 w5 hown2 hg2 hnil2; have hk5 := grown_kt (unhide HK4) (unhide HO1) (Nat.le_refl _) hg2; have ho2 : OwnN w5 w3.heap.size v2 (bs ++ bh) := ⟨by have := hown2; rw [List.nil_append] at this; exact this, fun e => unhide HN1 (hnil2.1 e).1⟩; obtain ⟨g2, cap2, rfl, _, hrd2, _⟩ := ho2.rd; have HRD2 := hide hrd2; have HK5 := hide hk5; clear hown2 hg2 hnil2 hk5 ho2 hrd2))
  have hi := unhide HI w5 (some ⟨g2, 0, none⟩) cap2 (by simp; omega) (unhide HRD2)
  rw [List.length_append] at hi
  refine hi.mono ?_
  rintro e w6 ⟨rfl, hk6⟩
  have k35 := Kp.trans (unhide HK5) hk6
  have k6 := Kp.trans (unhide K3) k35
  have q11 := (unhide P11).on k35
  have qa := (unhide HBA).on k35
  clear hi hk6 k35 HO HO1 HN1 HA HBH HBH1 HL1 HK4 HK5 HRD2 HI HB K3 P11 HBA
  go_upto_region 8 with fail
  refine wp_abs (fun w7 => Blk w7 w6.heap.size 29 (hcells fin r o mk M n) ∧ Blk w7 b11 30 (hcells fin r o mk M n) ∧ Blk w7 ga 5 (bs.map bv ++ resta).toArray ∧ KT w w7) ⟨Blk.new w6 29 _, q11.alloc _, qa.alloc _, k6.alloc _⟩ ?_
  obtain ⟨b9, hb9⟩ : ∃ b, b = w6.heap.size := ⟨_, rfl⟩
  rw [← hb9]
  clear hb9 q11 qa k6
  rintro wy ⟨p9, p11, pa, ky⟩
  have hs : ∀ w', KT wy w' → (fun w' : World => KT wy w' ∧ w'.cell? ⟨b9, 0, none⟩ = some (.bool fin) ∧ w'.cell? ⟨b9, 1, none⟩ = some (.int .i64 r) ∧ w'.cell? ⟨b9, 2, none⟩ = some (.int .i64 o) ∧ w'.cell? ⟨b9, 3, none⟩ = some (.bool mk) ∧ w'.cell? ⟨b9, 4, none⟩ = some (bv (M 0)) ∧ w'.cell? ⟨b9, 5, none⟩ = some (bv (M 1)) ∧ w'.cell? ⟨b9, 6, none⟩ = some (bv (M 2)) ∧ w'.cell? ⟨b9, 7, none⟩ = some (bv (M 3)) ∧ w'.cell? ⟨b9, 8, none⟩ = some (.int .i64 n) ∧ w'.cell? ⟨b11, 0, none⟩ = some (.bool fin) ∧ w'.cell? ⟨b11, 1, none⟩ = some (.int .i64 r) ∧ w'.cell? ⟨b11, 2, none⟩ = some (.int .i64 o) ∧ w'.cell? ⟨b11, 3, none⟩ = some (.bool mk) ∧ w'.cell? ⟨b11, 4, none⟩ = some (bv (M 0)) ∧ w'.cell? ⟨b11, 5, none⟩ = some (bv (M 1)) ∧ w'.cell? ⟨b11, 6, none⟩ = some (bv (M 2)) ∧ w'.cell? ⟨b11, 7, none⟩ = some (bv (M 3)) ∧ w'.cell? ⟨b11, 8, none⟩ = some (.int .i64 n)) w' := fun w' hk => by
    obtain ⟨x0, x1, x2, x3, x4, x5, x6, x7, x8⟩ := row9 (p9.on hk)
    obtain ⟨y0, y1, y2, y3, y4, y5, y6, y7, y8⟩ := row9 (p11.on hk)
    exact ⟨hk, x0, x1, x2, x3, x4, x5, x6, x7, x8, y0, y1, y2, y3, y4, y5, y6, y7, y8⟩
  have HS := hide hs
  have HH := hide (fun w' => header_any w' fin r o mk M n)
  have hq : ∀ w : World, (binOp .neq 30 (.agg #[.bool fin, .int .i64 r, .int .i64 o, .bool mk, bv (M 0), bv (M 1), bv (M 2), bv (M 3), .int .i64 n]) (.agg #[.bool fin, .int .i64 r, .int .i64 o, .bool mk, bv (M 0), bv (M 1), bv (M 2), bv (M 3), .int .i64 n])).run Tryd.prog w = .ok (.bool false) w := fun w => run_neq_hval w fin r o mk M n
  have PA := hide pa
  have KY := hide ky
  clear hs p9 p11 pa ky
  go_region_held3 (fun w' : World => KT wy w' ∧ w'.cell? ⟨b9, 0, none⟩ = some (.bool fin) ∧ w'.cell? ⟨b9, 1, none⟩ = some (.int .i64 r) ∧ w'.cell? ⟨b9, 2, none⟩ = some (.int .i64 o) ∧ w'.cell? ⟨b9, 3, none⟩ = some (.bool mk) ∧ w'.cell? ⟨b9, 4, none⟩ = some (bv (M 0)) ∧ w'.cell? ⟨b9, 5, none⟩ = some (bv (M 1)) ∧ w'.cell? ⟨b9, 6, none⟩ = some (bv (M 2)) ∧ w'.cell? ⟨b9, 7, none⟩ = some (bv (M 3)) ∧ w'.cell? ⟨b9, 8, none⟩ = some (.int .i64 n) ∧ w'.cell? ⟨b11, 0, none⟩ = some (.bool fin) ∧ w'.cell? ⟨b11, 1, none⟩ = some (.int .i64 r) ∧ w'.cell? ⟨b11, 2, none⟩ = some (.int .i64 o) ∧ w'.cell? ⟨b11, 3, none⟩ = some (.bool mk) ∧ w'.cell? ⟨b11, 4, none⟩ = some (bv (M 0)) ∧ w'.cell? ⟨b11, 5, none⟩ = some (bv (M 1)) ∧ w'.cell? ⟨b11, 6, none⟩ = some (bv (M 2)) ∧ w'.cell? ⟨b11, 7, none⟩ = some (bv (M 3)) ∧ w'.cell? ⟨b11, 8, none⟩ = some (.int .i64 n))
    (first | (go_split_ands; refine unhide HS _ ?_; exact (KT.refl wy).drew) | (go_split_ands; refine unhide HS _ (Kp.trans ?_ hk); assumption) | (go_split_ands; assumption))
    (first
      | (go_at_call 16; go_split_ands; (with_reducible refine (unhide HH _).mono ?_); rintro e w1 ⟨rfl, hk⟩))
  go_split_ands
  go_upto_region 10 with fail
  refine wp_abs (fun wz => KT wy wz) (by assumption) ?_
  clear HS HH hq
  rintro wz hkz
  have kz := Kp.trans (unhide KY) hkz
  have pa := (unhide PA).on hkz
  clear hkz KY PA
  have hw : ∀ w', KT wz w' → Calls Tryd.prog 12 #[] w' (Yes w') := fun w' hk => works_any w' (hrem.on (Kp.trans kz hk))
  have HW := hide hw
  clear hw
  by_cases hz1 : z < 0
  · go_wp2_with ((with_reducible refine (unhide HW _ (KT.refl wz)).mono ?_); rintro r w4 ⟨rfl, hk⟩)
    go_ret
    exact ⟨rfl, Kp.trans kz hk⟩
  obtain ⟨k, rfl⟩ := Int.eq_ofNat_of_zero_le (show 0 ≤ z by omega)
  by_cases hz2 : bs.length ≤ k
  · go_wp2_with ((with_reducible refine (unhide HW _ (KT.refl wz)).mono ?_); rintro r w4 ⟨rfl, hk⟩)
    go_ret
    exact ⟨rfl, Kp.trans kz hk⟩
  have hk1 : k < bs.length := by omega
  have hl : (bs.take k).length = k := by rw [List.length_take]; omega
  have hrk : Rd wz wz.heap.size (some ⟨ga, 0, none⟩) (bs.take k) := fun hne => by
    obtain ⟨g', off, e, hg, hb⟩ := Rd.of_blk pa (by rintro rfl; simp at hne)
    exact ⟨g', off, e, hg, fun i hi => by
      have hi' : i < bs.length := by rw [List.length_take] at hi; omega
      rw [hb i hi', List.getElem_take]⟩
  have hcu := fun c => unhide HC wz (some ⟨ga, 0, none⟩) c k hk1 (by omega) hrk
  rw [hl] at hcu
  have HCU := hide hcu
  clear hcu hl hrk HC pa
  go_wp2_with fail
  refine (unhide HCU _).mono ?_
  rintro e w8 ⟨rfl, hk8⟩
  have HK8 := hide hk8
  have hka : ∀ x, KT wz (w8.alloc x) := fun x => hk8.alloc x
  have HKA := hide hka
  clear hk8 hka
  go_wp2_with ((with_reducible refine (unhide HW _ (unhide HKA _)).mono ?_); rintro r w4 ⟨rfl, hk⟩)
  go_ret
  exact ⟨rfl, Kp.trans (Kp.trans kz (unhide HKA _)) hk⟩
end Go.Proofs.YtechapgchjdhaaaDoor
