/- The body of a close frame taken apart: ws.ParseCloseFrameData, impl.ParseClose, laws.FnCloseBody: the walks. -/
import Derived.Test.YtechapgchjdhaaaDoorClo
namespace Go.Proofs.YtechapgchjdhaaaDoor
open Go.RowKit

set_option maxRecDepth 100000 in
set_option maxHeartbeats 1000000 in
theorem parseData (w : World) (g cap v : Nat) (bs : List UInt8) (h2 : 2 ≤ bs.length) (hn : bs.length ≤ 1000) (hc : bs.length ≤ cap) (hm : cap ≤ 9223372036854775807) (hB : Byt w g 0 bs) (hv : acc (fun i => bs.getD i 0) 2 = v) :
    Calls Tryd.prog 50 #[.slice (some ⟨g, 0, none⟩) bs.length cap] w fun e w' => e = .returned (.tuple #[.int .u16 v, .string (Str (bs.drop 2))]) ∧ w = w' := by
  have hb : ∀ i, i < 2 → w.cell? ⟨g, 0 + i, none⟩ = some (bv (bs.getD i 0)) := fun i hi => by
    rw [hB i (by omega)]
    simp [List.getD, List.getElem?_eq_getElem (show i < bs.length by omega)]
  have hbe := beUint16_any w g 0 bs.length cap (fun i => bs.getD i 0) h2 (by omega) hb
  rw [hv] at hbe
  have hr : Rd w (g + 1) (some ⟨g, 2, none⟩) (bs.drop 2) := Rd.of_byt (fun i hi => by
    have := hB (2 + i) (by simp at hi; omega)
    simp only [Nat.zero_add] at this
    rw [this]
    simp) (by omega)
  have HBE := hide hbe
  clear hbe hb hB hv
  by_cases hcap : cap = 2
  · subst hcap
    have hnil : bs.drop 2 = [] := List.drop_eq_nil_of_le (by omega)
    have e0 : (convert 22 9 (.slice (some ⟨g, 0, none⟩) 0 0)).run Tryd.prog w = .ok (.string (Str (bs.drop 2))) w := run_str_of (B := 0) (by rw [hnil]; exact Rd.nil) _ _ (by rw [hnil]; rfl)
    obtain ⟨ts, hts⟩ : ∃ ts, ts = bs.drop 2 := ⟨_, rfl⟩
    rw [← hts] at e0 ⊢
    clear hr hnil hts
    go_enter Tryd.func50, Tryd.ntmps50
    go_wp2_with ((with_reducible refine (unhide HBE).mono ?_); rintro e w1 ⟨rfl, rfl⟩)
    go_ret2
    exact ⟨rfl, rfl⟩
  · have e0 : (convert 22 9 (.slice (some ⟨g, 2, none⟩) (bs.length - 2) (cap - 2))).run Tryd.prog w = .ok (.string (Str (bs.drop 2))) w := run_str_of hr _ _ (by simp)
    obtain ⟨ts, hts⟩ : ∃ ts, ts = bs.drop 2 := ⟨_, rfl⟩
    rw [← hts] at e0 ⊢
    clear hr hts
    go_enter Tryd.func50, Tryd.ntmps50
    go_wp2_with ((with_reducible refine (unhide HBE).mono ?_); rintro e w1 ⟨rfl, rfl⟩)
    go_ret2
    exact ⟨rfl, rfl⟩

set_option maxRecDepth 100000 in
set_option maxHeartbeats 1000000 in
theorem c49 (w : World) (b1 b2 b3 cap v : Nat) (A : Option Addr) (bs : List UInt8) (h2 : 2 ≤ bs.length) (hn : bs.length ≤ 1000) (hv : acc (fun i => bs.getD i 0) 2 = v) (p1 : Blk w b1 22 #[.slice A bs.length cap]) (p2 : One w b2 3) (p3 : One w b3 9) (hr : Rd w w.heap.size A bs) (hne : b3 ≠ b2) :
    Calls Tryd.prog 49 #[.pointer (some ⟨b1, 0, none⟩), .pointer (some ⟨b2, 0, none⟩), .pointer (some ⟨b3, 0, none⟩)] w fun e w' => e = .returned (.tuple #[]) ∧ Kp (fun k => k ≠ b2 ∧ k ≠ b3) w w' ∧ Blk w' b2 3 #[.int .i64 v] ∧ Blk w' b3 9 #[.string (Str (bs.drop 2))] := by
  have c1 := p1.one
  have hvb : v < 65536 := by rw [← hv]; exact acc_lt _ 2
  go_enter Tryd.func49, Tryd.ntmps49
  go_wp2_with fail
  refine (copied_any w A _ cap bs hr rfl (by omega)).mono ?_
  rintro e w1 ⟨g, rest, rfl, hg, hblk, hm, hk1⟩
  go_wp2_with fail
  refine (parseData w1 g (bs.length + rest.length) v bs h2 hn (by omega) (by simpa [maxLen] using hm) (Blk.byt (pre := []) rfl hblk) hv).mono ?_
  rintro e w2 ⟨rfl, rfl⟩
  clear hblk hv hr
  obtain ⟨u2, q2⟩ := p2.on hk1
  obtain ⟨u3, q3⟩ := p3.on hk1
  have d2 := q2.one
  have d3 := q3.one
  have f2 := q2.frozen 0
  have f3 := q3.frozen 0
  obtain ⟨ts, hts⟩ : ∃ ts, ts = bs.drop 2 := ⟨_, rfl⟩
  rw [← hts]
  have HT := hide hts
  clear hts
  go_wp2
  go_end0
  rw [← unhide HT]
  exact ⟨rfl, ((hk1.mono fun _ _ _ => trivial).setCell (p := ⟨b2, 0, none⟩) (fun _ h => h.1 rfl) _).setCell (p := ⟨b3, 0, none⟩) (fun _ h => h.2 rfl) _, (Blk.put (l := [u2]) q2 0 _).far (p := ⟨b3, 0, none⟩) (Ne.symm hne) _, Blk.put (l := [u3]) (q3.far (p := ⟨b2, 0, none⟩) hne _) 0 _⟩

set_option maxRecDepth 100000 in
set_option maxHeartbeats 1000000 in
theorem implParse (w : World) (cap v : Nat) (A : Option Addr) (bs : List UInt8) (h2 : 2 ≤ bs.length) (hn : bs.length ≤ 1000) (hv : acc (fun i => bs.getD i 0) 2 = v) (hr : Rd w w.heap.size A bs) :
    Calls Tryd.prog 22 #[.slice A bs.length cap] w fun e w' => e = .returned (.tuple #[.int .i64 v, .string (Str (bs.drop 2))]) ∧ KT w w' := by
  have hcf : ∀ (args : Array Value) (w : World), (callFunc 49 args).run Tryd.prog w = .ok (.enter 49 args) w := fun _ _ => by simp [go_sem]
  have k3 : ∀ a b c, KT w (((w.alloc a).alloc b).alloc c) := fun a b c => (((KT.refl w).alloc a).alloc b).alloc c
  have K3 := hide k3
  have HC := hide hcf
  have HV := hide hv
  clear k3 hcf hv
  go_enter Tryd.func22, Tryd.ntmps22
  go_upto_region 1 with fail
  refine wp_abs (fun w1 => Blk w1 w.heap.size 22 #[.slice A bs.length cap] ∧ One w1 (w.heap.size + 1) 3 ∧ One w1 (w.heap.size + 1 + 1) 9 ∧ KT w w1)
    ⟨((Blk.new w 22 _).alloc _).alloc _, ⟨_, (Blk.new2 w _ 3 _).alloc _⟩, ⟨_, Blk.new3 w _ _ 9 _⟩, unhide K3 _ _ _⟩ ?_
  rintro w3 ⟨q0, q3, q4, hk3⟩
  obtain ⟨b3, hb3⟩ : ∃ b3, b3 = w.heap.size + 1 := ⟨_, rfl⟩
  obtain ⟨b4, hb4⟩ : ∃ b4, b4 = w.heap.size + 1 + 1 := ⟨_, rfl⟩
  rw [← hb4] at q4 ⊢
  rw [← hb3] at q3 ⊢
  have hlo3 : w.heap.size ≤ b3 := by omega
  have hlo4 : w.heap.size ≤ b4 := by omega
  have hne : b4 ≠ b3 := by omega
  clear hb3 hb4
  have hb3 : b3 < w3.heap.size := q3.lt
  have hb4 : b4 < w3.heap.size := q4.lt
  go_wp2_with fail
  refine (quietly_kp w3 49 _ (fun k => k ≠ b3 ∧ k ≠ b4) (fun wq => Blk wq b3 3 #[.int .i64 v] ∧ Blk wq b4 9 #[.string (Str (bs.drop 2))]) (unhide HC) ⟨by omega, by omega⟩
    (fun wq hq => ⟨hq.1.far (p := ⟨w3.heap.size, 0, none⟩) (show b3 ≠ w3.heap.size by omega) _, hq.2.far (p := ⟨w3.heap.size, 0, none⟩) (show b4 ≠ w3.heap.size by omega) _⟩)
    (c49 (w3.alloc (.cells #[.bool false] 4)) _ b3 b4 cap v A bs h2 hn (unhide HV) (q0.alloc _) (q3.on ((KT.refl w3).alloc _)) (q4.on ((KT.refl w3).alloc _)) (hr.on (hk3.alloc _)) hne)).mono ?_
  obtain ⟨ts, hts⟩ : ∃ ts, ts = bs.drop 2 := ⟨_, rfl⟩
  rw [← hts]
  have HT := hide hts
  clear hts
  rintro e w4 ⟨rfl, hk4, r3, r4⟩
  have c0 := r3.one
  have f0 := r3.frozen 0
  have c9 := r4.one
  have f9 := r4.frozen 0
  have hk5 : KT w w4 := Kp.of_new hk3 hlo3 hlo4 hk4
  go_wp2
  go_region
  go_wp2
  refine bp_abs (fun w5 => Blk w5 b3 3 #[.int .i64 v] ∧ Blk w5 b4 9 #[.string (Str ts)] ∧ KT w w5) ⟨?_, ?_, ?_⟩ ?_
  · exact ((Blk.put (l := [_]) r3 0 _).far (p := ⟨b4, 0, none⟩) (Ne.symm hne) _).drew
  · exact (Blk.put (l := [_]) (r4.far (p := ⟨b3, 0, none⟩) hne _) 0 _).drew
  · exact ((hk5.setCell (p := ⟨b3, 0, none⟩) (fun h => absurd h (by show ¬ b3 < w.heap.size; omega)) _).setCell (p := ⟨b4, 0, none⟩) (fun h => absurd h (by show ¬ b4 < w.heap.size; omega)) _).drew
  clear c0 c9 f0 f9
  rintro w5 ⟨z3, z4, hk⟩
  have e0 := z3.one
  have e9 := z4.one
  refine bodyPost_ret (v := .tuple #[.int .i64 v, .string (Str ts)]) ?_ rfl ⟨by rw [HT.out], hk⟩
  simp [results, Tryd.results22, go_sem, e0, e9]

theorem KT.trans {w w' w'' : World} (h : KT w w') (k : KT w' w'') : KT w w'' := Kp.trans h k

theorem body_acc (c : Nat) (rs : List UInt8) (hc : c ≤ 65535) : acc (fun i => (body c rs).getD i 0) 2 = c := by
  have h1 := digit_toNat c 1
  have h0 := digit_toNat c 0
  simp only [acc, body, List.getD_cons_zero, List.getD_cons_succ, h1, h0]
  omega

set_option maxRecDepth 100000 in
set_option maxHeartbeats 1000000 in
theorem fnCloseBody_walk (w : World) (z : Int) (rs : List UInt8) (hrem : Rem w) :
    Calls Tryd.prog 5 #[.int .i64 z, .string (Str rs)] w (Yes w) := by
  have hz := Str_size rs
  by_cases h1 : 2147483647 < rs.length
  · go_enter Tryd.func5, Tryd.ntmps5
    go_wp2
    go_ret
    exact ⟨rfl, KT.refl _⟩
  · by_cases h2 : z < 0 ∨ 65535 < z ∨ 1000 < rs.length
    · have hw := works_any w hrem
      by_cases h3 : z < 0
      · go_enter Tryd.func5, Tryd.ntmps5
        go_wp2_with (refine hw.mono ?_; rintro e w4 ⟨rfl, hk⟩)
        go_ret
        exact ⟨rfl, hk⟩
      · by_cases h4 : 65535 < z
        · go_enter Tryd.func5, Tryd.ntmps5
          go_wp2_with (refine hw.mono ?_; rintro e w4 ⟨rfl, hk⟩)
          go_ret
          exact ⟨rfl, hk⟩
        · have h5 : 1000 < rs.length := by omega
          go_enter Tryd.func5, Tryd.ntmps5
          go_wp2_with (refine hw.mono ?_; rintro e w4 ⟨rfl, hk⟩)
          go_ret
          exact ⟨rfl, hk⟩
    · obtain ⟨c, rfl⟩ : ∃ c : Nat, z = c := ⟨z.toNat, by omega⟩
      have hc : c ≤ 65535 := by omega
      have hlen : rs.length ≤ 1000 := by omega
      clear h1 h2
      obtain ⟨bs, hbs⟩ : ∃ bs, bs = body c rs := ⟨_, rfl⟩
      have hacc : acc (fun i => bs.getD i 0) 2 = c := by rw [hbs]; exact body_acc c rs hc
      have hl2 : 2 ≤ bs.length := by rw [hbs]; simp [body]
      have hl3 : bs.length ≤ 1000 := by rw [hbs]; have := body_length c rs; omega
      have HS := hide (specClose w c rs hc hlen)
      have HI := hide (fun w => implClose w c rs hc hlen)
      rw [← hbs] at HS HI
      have HA := hide hacc
      clear hbs hacc
      go_enter Tryd.func5, Tryd.ntmps5
      go_wp2_with fail
      refine (unhide HS).mono ?_
      rintro e w1 ⟨v, rfl, ⟨g, cap, rfl, hr1, hk1, hc1, hm1⟩⟩
      go_wp2_with fail
      refine (unhide HI w1).mono ?_
      rintro e w2 ⟨g2, cap2, rfl, hr2, hk2⟩
      replace hr1 := hr1.on hk2
      have k2 := KT.trans hk1 hk2
      go_wp2_with fail
      refine (implParse w2 cap c _ bs hl2 hl3 (unhide HA) hr1).mono ?_
      rintro e w3 ⟨rfl, hk3⟩
      replace hr1 := hr1.on hk3
      replace hr2 := hr2.on hk3
      have k3 := KT.trans k2 hk3
      go_wp2_with fail
      refine (same_yes w3 _ _ cap2 cap bs hr2 hr1).mono ?_
      rintro e w4 ⟨rfl, rfl⟩
      have hw := works_any w3 (hrem.on k3)
      have hcut : Rd w3 w3.heap.size (some ⟨g, 2, none⟩) (bs.drop 2) := fun hne => by
        obtain ⟨g', off, e, hlt, hB⟩ := hr1 (fun h => hne (by rw [h]; rfl))
        obtain ⟨rfl, rfl⟩ : g = g' ∧ 0 = off := by
          injection e with e
          injection e with e1 e2
          exact ⟨e1, e2⟩
        refine ⟨g, 2, rfl, hlt, fun i hi => ?_⟩
        have := hB (2 + i) (by simp at hi; omega)
        simp only [Nat.zero_add] at this
        rw [this]
        simp
      simp only [maxLen] at hm1
      by_cases hcap : cap = 2
      · subst hcap
        have hnil : bs.drop 2 = [] := List.drop_eq_nil_of_le (by omega)
        have e0 : (convert 22 9 (.slice (some ⟨g, 0, none⟩) 0 0)).run Tryd.prog w3 = .ok (.string (Str (bs.drop 2))) w3 := run_str_of (B := 0) (by rw [hnil]; exact Rd.nil) _ _ (by rw [hnil]; rfl)
        clear hr1 hr2 hcut hnil
        obtain ⟨ts, hts⟩ : ∃ ts, ts = bs.drop 2 := ⟨_, rfl⟩
        rw [← hts] at e0 ⊢
        clear hts
        go_wp2_with (refine hw.mono ?_; rintro e w4 ⟨rfl, hk⟩)
        go_ret
        exact ⟨rfl, KT.trans k3 hk⟩
      · have e0 : (convert 22 9 (.slice (some ⟨g, 2, none⟩) (bs.length - 2) (cap - 2))).run Tryd.prog w3 = .ok (.string (Str (bs.drop 2))) w3 := run_str_of hcut _ _ (by simp)
        clear hr1 hr2 hcut
        obtain ⟨ts, hts⟩ : ∃ ts, ts = bs.drop 2 := ⟨_, rfl⟩
        rw [← hts] at e0 ⊢
        clear hts
        go_wp2_with (refine hw.mono ?_; rintro e w4 ⟨rfl, hk⟩)
        go_ret
        exact ⟨rfl, KT.trans k3 hk⟩
end Go.Proofs.YtechapgchjdhaaaDoor
