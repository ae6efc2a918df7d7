/- ws.WriteFrame, ws.CompileFrame, impl.FormatFrame: the walks. -/
import Derived.Test.YtechapgchjdhaaaDoorFhd
namespace Go.Proofs.YtechapgchjdhaaaDoor
open Go.RowKit

theorem own_ge {w : World} {base k : Nat} {v : Value} {xs : List UInt8} (h : Own w base v xs) (hk : k < base) : some k ≠ v.ownBlock := fun e => by have := (h.lt k e.symm).1; omega

set_option maxRecDepth 100000 in
set_option maxHeartbeats 2000000 in
theorem writeFrame (w : World) (B base L : Nat) (v : Value) (xs : List UInt8) (fin : Bool) (r o : Nat) (mk : Bool) (M : Nat → UInt8) (n : Nat) (A : Option Addr) (c : Nat) (ps : List UInt8) (hr : r < 8) (ho : o < 16) (hn : n ≤ 9223372036854775807)
    (h : BufAt w B base v xs) (hlen : xs.length ≤ 100000) (hps : ps.length ≤ 2147483647) (hbase : base ≤ w.heap.size) (hrd : Rd w L A ps) (hLB : L ≤ B) (hLb : L ≤ base) (hBb : base ≤ B) :
    Calls Tryd.prog 91 #[.iface 119 (.pointer (some ⟨B, 0, none⟩)), fval fin r o mk M n (.slice A ps.length c)] w fun e w' => e = .returned .nilIface ∧ ∃ v', BufAt w' B base v' (xs ++ hbytes fin r o mk M n ++ ps) ∧ v' ≠ .slice none 0 0 ∧ Kp (· < base) w w' := by
  have H := hide h
  have HRD := hide hrd
  have h14 := hbytes_le fin r o mk M n
  have HWH := hide (fun w h1 h2 => writeHeader w B base v xs fin r o mk M n hr ho hn h1 hlen h2)
  obtain ⟨hb, hhb⟩ : ∃ hb, hb = hbytes fin r o mk M n := ⟨_, rfl⟩
  rw [← hhb] at HWH h14 ⊢
  clear h hrd hhb hr ho hn
  go_enter Tryd.func91, Tryd.ntmps91
  go_upto_region 1 with fail
  refine wp_abs (fun w1 => Blk w1 w.heap.size 82 (fcells fin r o mk M n (.slice A ps.length c)) ∧ KT w w1) ⟨Blk.new w 82 _, (KT.refl w).alloc _⟩ ?_
  obtain ⟨b3, hb3⟩ : ∃ b, b = w.heap.size := ⟨_, rfl⟩
  rw [← hb3]
  have hlo3 : base ≤ b3 := by omega
  clear hb3
  rintro w1 ⟨p3, hk1⟩
  obtain ⟨c0, c1, c2, c3, c4, c5, c6, c7, c8, c9⟩ := row10 p3
  have hB1 := (unhide H).on hk1
  have hbs1 := Nat.le_trans hbase hk1.size
  go_wp2_with fail
  refine (unhide HWH w1 hB1 hbs1).mono ?_
  rintro e w2 ⟨rfl, v2, hB2, hv2, hk2⟩
  have n3B : b3 ≠ B := p3.ne_ hB1.blk (by decide)
  have q3 : Blk w2 b3 82 (fcells fin r o mk M n (.slice A ps.length c)) := p3.kp hk2 ⟨n3B, Ne.symm (own_other hB1.own p3 (by decide))⟩
  have hk3 : Kp (· < base) w w2 := (hk1.mono (T := (· < base)) fun _ _ _ => trivial).then_ hk2 (fun i hi hlt => ⟨by omega, own_ge hB1.own hlt⟩)
  have hbs2 : base ≤ w2.heap.size := Nat.le_trans hbase hk3.size
  have hrd2 : Rd w2 L A ps := (unhide HRD).kp hk3 (by omega) (fun g hg => by omega)
  have hll : (xs ++ hb).length ≤ 200000 := by rw [List.length_append]; omega
  have HW2 := hide (bufWrite w2 B base v2 (xs ++ hb) hB2 L A c ps hrd2 (by omega) hbs2)
  have HB2 := hide hB2
  have HK3 := hide hk3
  have hnw := nil_write B
  clear c0 c1 c2 c3 c4 c5 c6 c7 c8 c9 p3 hB1 hk1 hk2 hB2 hk3 hrd2
  obtain ⟨c0, c1, c2, c3, c4, c5, c6, c7, c8, c9⟩ := row10 q3
  go_wp2_with ((with_reducible refine (unhide HW2).mono ?_); rintro e w3 ⟨rfl, v3, hq1, hq2, hq3⟩; have HQ := hide (And.intro hq1 (And.intro hq2 hq3)); clear hq1 hq2 hq3)
  go_ret
  obtain ⟨hq1, hq2, hq3⟩ := unhide HQ
  exact ⟨rfl, v3, hq1, hq2 (Or.inl hv2), (unhide HK3).then_ hq3 (fun i hi hlt => ⟨by omega, own_ge (unhide HB2).own hlt⟩)⟩

set_option maxRecDepth 100000 in
set_option maxHeartbeats 2000000 in
theorem compileFrame (w : World) (fin : Bool) (r o : Nat) (mk : Bool) (M : Nat → UInt8) (n : Nat) (A : Option Addr) (c : Nat) (ps : List UInt8) (hr : r < 8) (ho : o < 16) (hn : n ≤ 9223372036854775807)
    (hps : ps.length ≤ 2147483647) (hrd : Rd w w.heap.size A ps) :
    Calls Tryd.prog 65 #[fval fin r o mk M n (.slice A ps.length c)] w fun e w' => GotE w w' (hbytes fin r o mk M n ++ ps) e := by
  have hmk : ∀ w, (Instr.makeSlice 22 (.int .i64 0) (.int .i64 16)).run Tryd.prog w = .ok (.slice (some ⟨w.heap.size, 0, none⟩) 0 16) (w.alloc (.cells (zrow 16) 5)) := fun w => run_make_bytes 0 16 (by omega) (by omega) w
  have HWF := hide (fun w' B v h1 h2 h3 h4 h5 => writeFrame w' B w.heap.size w.heap.size v [] fin r o mk M n A c ps hr ho hn h1 (by simp) hps h2 h3 h4 h5 h4)
  have HRD := hide hrd
  have hown : ∀ x, Own ((w.alloc x).alloc (.cells (zrow 16) 5)) w.heap.size (.slice (some ⟨(w.alloc x).heap.size, 0, none⟩) 0 16) [] := fun x => World.ownsRow_made (w.alloc x) (zrow 16) 16 (by simp) (by simp [maxLen]) (by rw [zrow_size])
  have HOW := hide hown
  clear hrd hr ho hn hown
  go_enter Tryd.func65, Tryd.ntmps65
  go_wp2_with fail
  have hk0 : ∀ x y, KT w ((w.alloc x).alloc y) := fun x y => ((KT.refl w).alloc x).alloc y
  have HK0 := hide hk0
  clear hk0
  refine (newBuffer _ (some ⟨w.heap.size + 1, 0, none⟩) 0 16).mono ?_
  rintro e w2 ⟨rfl, hB, hk2⟩
  have hk : KT w w2 := Kp.trans (unhide HK0 _ _) hk2
  have p1 : Blk w2 w.heap.size 82 (fcells fin r o mk M n (.slice A ps.length c)) := ((Blk.new w 82 _).alloc _).on hk2
  have ho2 : Own w2 w.heap.size (.slice (some ⟨w.heap.size + 1, 0, none⟩) 0 16) [] := by
    have h := unhide HOW (.cells (fcells fin r o mk M n (.slice A ps.length c)) 82)
    rw [World.size_alloc] at h
    rcases h.2 with ⟨h1, h2⟩ | ⟨g, cap, cur, h1, h2, h3, h4⟩
    · cases h1
    · exact ⟨h.1, Or.inr ⟨g, cap, cur, h1, h2, Blk.on (cs := cur) h3 hk2, h4⟩⟩
  obtain ⟨B, hBe⟩ : ∃ B, B = ((w.alloc (.cells (fcells fin r o mk M n (.slice A ps.length c)) 82)).alloc (.cells (zrow 16) 5)).heap.size := ⟨_, rfl⟩
  rw [← hBe] at hB
  have hBlo : w.heap.size ≤ B := by rw [hBe]; simp; omega
  rw [← hBe]
  clear hBe hk2
  have hrd2 : Rd w2 w.heap.size A ps := (unhide HRD).kp hk (Nat.le_refl _) (fun _ _ => trivial)
  have HF := hide (unhide HWF w2 B _ ⟨hB, ho2⟩ hk.size hrd2 hBlo (Nat.le_refl _))
  have HK := hide hk
  obtain ⟨c0, c1, c2, c3, c4, c5, c6, c7, c8, c9⟩ := row10 p1
  clear hB ho2 hrd2 hk p1
  go_wp2_with fail
  refine (unhide HF).mono ?_
  rintro e w3 ⟨rfl, v3, hq1, hq2, hq3⟩
  have HBB := hide (bufBytes w3 B v3 hq1.blk)
  obtain ⟨g, cap, rfl, hg, hrd3, hm⟩ := OwnN.rd ⟨hq1.own, hq2⟩
  rw [List.nil_append] at hrd3
  have HD := hide hrd3
  have HK3 := hide ((unhide HK).then_ hq3 (fun i hi _ => hi))
  clear hq1 hq2 hq3 hrd3 c0 c1 c2 c3 c4 c5 c6 c7 c8 c9
  go_wp2_with fail
  refine (unhide HBB).mono ?_
  rintro e w4 ⟨rfl, rfl⟩
  go_wp2
  refine bodyPost_ret (v := .tuple #[.slice (some ⟨g, 0, none⟩) (hbytes fin r o mk M n ++ ps).length cap, .nilIface]) (by simp [results, Tryd.results65, go_sem]) rfl ⟨g, cap, rfl, unhide HD, unhide HK3⟩

set_option maxRecDepth 100000 in
set_option maxHeartbeats 4000000 in
theorem c64 (w : World) (b1 b2 b3 b4 : Nat) (A : Option Addr) (c : Nat) (ps : List UInt8) (fin : Bool) (r o : Nat) (mk : Bool) (M : Nat → UInt8) (n : Nat) (hr : r < 8) (ho : o < 16) (hn : n ≤ 9223372036854775807) (hps : ps.length ≤ 2147483647)
    (h1 : Blk w b1 78 (wcells fin r o mk M n)) (h2 : Blk w b2 22 #[.slice A ps.length c]) (hrd : Rd w w.heap.size A ps) (h3 : One w b3 22) (h4 : One w b4 4) :
    Calls Tryd.prog 64 #[.pointer (some ⟨b1, 0, none⟩), .pointer (some ⟨b2, 0, none⟩), .pointer (some ⟨b3, 0, none⟩), .pointer (some ⟨b4, 0, none⟩)] w fun e w' => e = .returned (.tuple #[]) ∧ Kp (fun k => k ≠ b3 ∧ k ≠ b4) w w' ∧ SliceOk w.heap.size w' b3 b4 (hbytes fin r o mk M n ++ ps) := by
  obtain ⟨c0, c1, c2, c3, c4, c5, c6, c7, c8⟩ := row9 h1
  have d0 := h2.one
  have h14 := hbytes_le fin r o mk M n
  have HCP := hide (copied_any w.drew A ps.length c ps hrd rfl (by omega))
  have HCF := hide (fun w' g c' hrd' => compileFrame w' fin r o mk M n (some ⟨g, 0, none⟩) c' ps hr ho hn hps hrd')
  have hll : (hbytes fin r o mk M n ++ ps).length ≤ 140737488355328 := by rw [List.length_append]; omega
  obtain ⟨bs, hbs⟩ : ∃ bs, bs = hbytes fin r o mk M n ++ ps := ⟨_, rfl⟩
  rw [← hbs] at HCF hll ⊢
  have H1 := hide h1
  have H3 := hide h3
  have H4 := hide h4
  clear hbs hr ho hn h14 hrd h1 h2 h3 h4
  go_enter Tryd.func64, Tryd.ntmps64
  go_upto_region 0 with fail
  go_region_with (first
    | ((with_reducible refine (unhide HCP).mono ?_); rintro e w1 ⟨g, rr, rfl, hg, hblk, hm, hk1⟩; obtain ⟨x0, x1, x2, x3, x4, x5, x6, x7, x8⟩ := row9 (Blk.on (w := w.drew) (unhide H1) hk1); have HD1 : Rd w1 w1.heap.size (some ⟨g, 0, none⟩) ps := Rd.of_blk hblk; have HD := hide HD1; have HK1 := hide hk1; clear hblk hk1 HD1 hg hm)
    | ((with_reducible refine (unhide HCF _ _ _ (unhide HD)).mono ?_); rintro e w2 ⟨g2, cap2, rfl, hrd2, hk2⟩; have HD2 := hide hrd2; have HK2 := hide hk2; clear hrd2 hk2))
  all_goals (
    have k2 : KT w w2 := ((KT.refl w).drew.trans (unhide HK1)).trans (unhide HK2)
    have h3 := (unhide H3).on k2
    have h4 := (unhide H4).on k2
    clear c0 c1 c2 c3 c4 c5 c6 c7 c8 d0 x0 x1 x2 x3 x4 x5 x6 x7 x8 HK1 HK2 H1 H3 H4 HCP HCF HD
    go_wp2_with fail
    refine (copied_any w2 _ _ cap2 bs (unhide HD2) rfl hll).mono ?_
    rintro e w3 ⟨g3, rr3, rfl, hg3, hblk, hm3, hk3⟩
    obtain ⟨u3, h3'⟩ := h3.on hk3
    obtain ⟨u4, h4'⟩ := h4.on hk3
    have c3 := h3'.one
    have f3 := h3'.frozen 0
    have c4 := h4'.one
    have f4 := h4'.frozen 0
    have hs2 := k2.size
    have hne3 := hblk.ne_ h3' (by decide)
    have hne4 := hblk.ne_ h4' (by decide)
    have hne := h3'.ne_ h4' (by decide)
    have HB := hide hblk
    clear hblk
    go_wp2
    go_end0
    exact ⟨rfl, (((k2.trans hk3).mono fun _ _ _ => trivial).setCell (p := ⟨b3, 0, none⟩) (fun _ h => h.1 rfl) _).setCell (p := ⟨b4, 0, none⟩) (fun _ h => h.2 rfl) _,
      ⟨g3, _, (Blk.put (l := [u3]) h3' 0 _).far (p := ⟨b4, 0, none⟩) hne _, by omega, ((Rd.of_blk (unhide HB)).set_far (p := ⟨b3, 0, none⟩) hne3 _).set_far (p := ⟨b4, 0, none⟩) hne4 _⟩,
      Blk.put (l := [u4]) (h4'.far (p := ⟨b3, 0, none⟩) (Ne.symm hne) _) 0 _⟩)

set_option maxRecDepth 100000 in
set_option maxHeartbeats 2000000 in
theorem implFormatFrame (w : World) (fin : Bool) (r o : Nat) (mk : Bool) (M : Nat → UInt8) (n : Nat) (A : Option Addr) (c : Nat) (ps : List UInt8) (hr : r < 8) (ho : o < 16) (hn : n ≤ 9223372036854775807) (hps : ps.length ≤ 2147483647) (hrd : Rd w w.heap.size A ps) :
    Calls Tryd.prog 35 #[hval fin r o mk M n, .slice A ps.length c] w fun e w' => GotT w w' (hbytes fin r o mk M n ++ ps) e := by
  have hcf : ∀ (args : Array Value) (w : World), (callFunc 64 args).run Tryd.prog w = .ok (.enter 64 args) w := fun _ _ => by simp [go_sem]
  have k4 : ∀ a b c d, KT w ((((w.alloc a).alloc b).alloc c).alloc d) := fun a b c d => ((((KT.refl w).alloc a).alloc b).alloc c).alloc d
  have K4 := hide k4
  have HC := hide hcf
  clear k4 hcf
  have HZ := hide (fun w b1 b2 b3 b4 h1 h2 hrd h3 h4 => c64 w b1 b2 b3 b4 A c ps fin r o mk M n hr ho hn hps h1 h2 hrd h3 h4)
  obtain ⟨bs, hbs⟩ : ∃ bs, bs = hbytes fin r o mk M n ++ ps := ⟨_, rfl⟩
  rw [← hbs] at HZ ⊢
  clear hbs
  go_enter Tryd.func35, Tryd.ntmps35
  go_upto_region 1 with fail
  refine wp_abs (fun w1 => Blk w1 w.heap.size 29 (hcells fin r o mk M n) ∧ Blk w1 (w.heap.size + 1) 22 #[.slice A ps.length c] ∧ One w1 (w.heap.size + 1 + 1) 22 ∧ One w1 (w.heap.size + 1 + 1 + 1) 4 ∧ KT w w1)
    ⟨(((Blk.new w 29 _).alloc _).alloc _).alloc _, ((Blk.new2 w _ 22 _).alloc _).alloc _, ⟨_, (Blk.new3 w _ _ 22 _).alloc _⟩, ⟨_, Blk.new4 w _ _ _ 4 _⟩, unhide K4 _ _ _ _⟩ ?_
  obtain ⟨b2, hb2⟩ : ∃ b, b = w.heap.size + 1 := ⟨_, rfl⟩
  obtain ⟨b3, hb3⟩ : ∃ b, b = w.heap.size + 1 + 1 := ⟨_, rfl⟩
  obtain ⟨b4, hb4⟩ : ∃ b, b = w.heap.size + 1 + 1 + 1 := ⟨_, rfl⟩
  rw [← hb4, ← hb3, ← hb2]
  have hlo3 : w.heap.size ≤ b3 := by omega
  have hlo4 : w.heap.size ≤ b4 := by omega
  clear hb2 hb3 hb4 K4
  rintro w1 ⟨p0, p1, p2, p3, hk1⟩
  obtain ⟨c0, c1, c2, c3, c4, c5, c6, c7, c8⟩ := row9 p0
  go_wp2_with fail
  refine (given_any w1 fin r o mk M n (by omega) (by omega)).mono ?_
  rintro e w2 ⟨rfl, hk2⟩
  clear c0 c1 c2 c3 c4 c5 c6 c7 c8
  go_upto_region 4 with fail
  refine wp_abs (fun w3 => Blk w3 w2.heap.size 78 (wcells fin r o mk M n) ∧ Blk w3 b2 22 #[.slice A ps.length c] ∧ One w3 b3 22 ∧ One w3 b4 4 ∧ KT w w3)
    ⟨Blk.new w2 78 _, (p1.on hk2).alloc _, (p2.on hk2).on ((KT.refl w2).alloc _), (p3.on hk2).on ((KT.refl w2).alloc _), (hk1.trans hk2).alloc _⟩ ?_
  obtain ⟨b6, hb6⟩ : ∃ b6, b6 = w2.heap.size := ⟨_, rfl⟩
  rw [← hb6]
  clear hb6 p0 p1 p2 p3 hk1 hk2
  rintro w3 ⟨q0, q1, q3, q4, hk3⟩
  have hlt3 : b3 < w3.heap.size := q3.lt
  have hlt4 : b4 < w3.heap.size := q4.lt
  go_wp2_with fail
  refine (quietly_kp w3 64 _ (fun k => k ≠ b3 ∧ k ≠ b4) (fun wq => SliceOk (w3.alloc (.cells #[.bool false] 4)).heap.size wq b3 b4 bs) (unhide HC) ⟨by omega, by omega⟩
    (fun wq hq => hq.set (p := ⟨w3.heap.size, 0, none⟩) (show b3 ≠ w3.heap.size by omega) (show b4 ≠ w3.heap.size by omega) (by simp) _)
    (unhide HZ (w3.alloc (.cells #[.bool false] 4)) b6 b2 b3 b4 (q0.alloc _) (q1.alloc _) (hrd.on (hk3.alloc _)) (q3.on ((KT.refl w3).alloc _)) (q4.on ((KT.refl w3).alloc _)))).mono ?_
  rintro e w4 ⟨rfl, hk4, ⟨g, cap, r3, hlo, hrd4⟩, r4⟩
  rw [World.size_alloc] at hlo
  have c3 := r3.one
  have f3 := r3.frozen 0
  have c4 := r4.one
  have f4 := r4.frozen 0
  have hne := r3.ne_ r4 (by decide)
  have hk5 : KT w w4 := hk3.then_ hk4 (fun i hi _ => ⟨by omega, by omega⟩)
  go_wp2_with fail
  refine bp_abs (fun w5 => Blk w5 b3 22 #[.slice (some ⟨g, 0, none⟩) bs.length cap] ∧ Blk w5 b4 4 #[.bool true] ∧ Rd w5 w5.heap.size (some ⟨g, 0, none⟩) bs ∧ KT w w5)
    ⟨(Blk.put (l := [_]) r3 0 _).far (p := ⟨b4, 0, none⟩) hne _, Blk.put (l := [_]) (r4.far (p := ⟨b3, 0, none⟩) (Ne.symm hne) _) 0 _, (hrd4.set_far (p := ⟨b3, 0, none⟩) (show g ≠ b3 by omega) _).set_far (p := ⟨b4, 0, none⟩) (show g ≠ b4 by omega) _,
      (hk5.setCell (p := ⟨b3, 0, none⟩) (fun h => absurd h (by show ¬ b3 < w.heap.size; omega)) _).setCell (p := ⟨b4, 0, none⟩) (fun h => absurd h (by show ¬ b4 < w.heap.size; omega)) _⟩ ?_
  clear c3 f3 c4 f4
  rintro w5 ⟨z3, z4', hrd5, hk⟩
  have e3 := z3.one
  have e4 := z4'.one
  refine bodyPost_ret (v := .tuple #[.slice (some ⟨g, 0, none⟩) bs.length cap, .bool true]) ?_ rfl ⟨g, cap, rfl, hrd5, hk⟩
  simp [results, Tryd.results35, go_sem, e3, e4]
end Go.Proofs.YtechapgchjdhaaaDoor
