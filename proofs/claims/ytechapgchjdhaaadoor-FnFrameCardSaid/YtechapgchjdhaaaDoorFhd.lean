/- ws.ZZHeader, impl.FormatHeader, ws.HeaderSize, impl.HeaderSize: the walks. -/
import Derived.Test.YtechapgchjdhaaaDoorWhd
namespace Go.Proofs.YtechapgchjdhaaaDoor
open Go.RowKit

theorem hbytes_length (fin : Bool) (r o : Nat) (mk : Bool) (M : Nat → UInt8) (n : Nat) : (hbytes fin r o mk M n).length = (if n < 126 then 2 else if n < 65536 then 4 else 10) + (if mk then 4 else 0) := by
  unfold hbytes ext tail4
  cases mk <;> split <;> (try split) <;> simp [be_length]
theorem hbytes_le (fin : Bool) (r o : Nat) (mk : Bool) (M : Nat → UInt8) (n : Nat) : (hbytes fin r o mk M n).length ≤ 14 := by
  rw [hbytes_length]
  split <;> (try split) <;> cases mk <;> simp

theorem OwnN.rd {w : World} {base : Nat} {v : Value} {bs : List UInt8} (h : OwnN w base v bs) : ∃ g cap, v = .slice (some ⟨g, 0, none⟩) bs.length cap ∧ base ≤ g ∧ Rd w w.heap.size (some ⟨g, 0, none⟩) bs ∧ cap ≤ maxLen := by
  obtain ⟨g, rest, rfl, hg, hblk, hm⟩ := h.1.form h.2
  exact ⟨g, _, rfl, hg, Rd.of_blk hblk, hm⟩

/-- What ZZHeader gives back: a slice of these bytes, and no error. -/
def GotE (w w' : World) (bs : List UInt8) (e : Ending) : Prop := ∃ g cap, e = .returned (.tuple #[.slice (some ⟨g, 0, none⟩) bs.length cap, .nilIface]) ∧ Rd w' w'.heap.size (some ⟨g, 0, none⟩) bs ∧ KT w w'

set_option maxRecDepth 100000 in
set_option maxHeartbeats 1000000 in
theorem zzHeader (w : World) (fin : Bool) (r o : Nat) (mk : Bool) (M : Nat → UInt8) (n : Nat) (hr : r < 8) (ho : o < 16) (hn : n ≤ 9223372036854775807) :
    Calls Tryd.prog 55 #[wval fin r o mk M n] w fun e w' => GotE w w' (hbytes fin r o mk M n) e := by
  go_enter Tryd.func55, Tryd.ntmps55
  go_upto_region 1 with fail
  refine wp_abs (fun w1 => Blk w1 w.heap.size 78 (wcells fin r o mk M n) ∧ KT w w1) ⟨Blk.new w 78 _, (KT.refl w).alloc _⟩ ?_
  rintro w1 ⟨p0, hk1⟩
  go_wp2_with fail
  refine (newBuffer w1 none 0 0).mono ?_
  rintro e w2 ⟨rfl, hB, hk2⟩
  replace p0 := p0.on hk2
  obtain ⟨c0, c1, c2, c3, c4, c5, c6, c7, c8⟩ := row9 p0
  have hs1 := hk1.size
  have hs2 := hk2.size
  obtain ⟨B, hBe⟩ : ∃ B, B = w1.heap.size := ⟨_, rfl⟩
  rw [← hBe] at hB ⊢
  have hlo : w.heap.size ≤ B := by omega
  have hs12 : w.heap.size ≤ w2.heap.size := by omega
  have hlt := hB.lt
  clear hBe hs1 hs2
  have HW := hide (writeHeader w2 B w.heap.size (.slice none 0 0) [] fin r o mk M n hr ho hn ⟨hB, World.ownsRow_nil _ _ _ _⟩ (by simp) hs12)
  go_wp2_with ((with_reducible refine (unhide HW).mono ?_); rintro e w3 ⟨rfl, v3, hq1, hq2, hq3⟩; have HQ := hide (And.intro hq1 (And.intro hq2 hq3)); clear hq1 hq2 hq3)
  obtain ⟨hq1, hq2, hq3⟩ := unhide HQ
  refine (bufBytes w3 B v3 hq1.blk).mono ?_
  rintro e w4 ⟨rfl, rfl⟩
  obtain ⟨g, cap, rfl, hg, hrd, hm⟩ := OwnN.rd ⟨hq1.own, hq2⟩
  have HD := hide hrd
  have HK : Hid (KT w w3) := (hk1.trans hk2).then_ hq3 (fun i hi _ => ⟨by omega, by simp [Value.ownBlock]⟩)
  clear hq1 hq2 hq3 HQ HW hrd c0 c1 c2 c3 c4 c5 c6 c7 c8
  go_wp2
  refine bodyPost_ret (v := .tuple #[.slice (some ⟨g, 0, none⟩) (hbytes fin r o mk M n).length cap, .nilIface]) (by simp [results, Tryd.results55, go_sem]) rfl ⟨g, cap, rfl, unhide HD, unhide HK⟩

/-- A variable that holds a slice of these bytes, and one that holds true; lo: no block below it is the slice's. -/
def SliceOk (lo : Nat) (w' : World) (b3 b4 : Nat) (bs : List UInt8) : Prop := SliceAt lo w' b3 bs ∧ Blk w' b4 4 #[.bool true]

set_option maxRecDepth 100000 in
set_option maxHeartbeats 1000000 in
theorem c54 (w : World) (b2 b3 b4 : Nat) (fin : Bool) (r o : Nat) (mk : Bool) (M : Nat → UInt8) (n : Nat) (hr : r < 8) (ho : o < 16) (hn : n ≤ 9223372036854775807) (h2 : Blk w b2 78 (wcells fin r o mk M n)) (h3 : One w b3 22) (h4 : One w b4 4) :
    Calls Tryd.prog 54 #[.pointer (some ⟨b2, 0, none⟩), .pointer (some ⟨b3, 0, none⟩), .pointer (some ⟨b4, 0, none⟩)] w fun e w' => e = .returned (.tuple #[]) ∧ Kp (fun k => k ≠ b3 ∧ k ≠ b4) w w' ∧ SliceOk w.heap.size w' b3 b4 (hbytes fin r o mk M n) := by
  obtain ⟨c0, c1, c2, c3, c4, c5, c6, c7, c8⟩ := row9 h2
  have hbl := hbytes_le fin r o mk M n
  have HZ := hide (zzHeader w fin r o mk M n hr ho hn)
  obtain ⟨bs, hbs⟩ : ∃ bs, bs = hbytes fin r o mk M n := ⟨_, rfl⟩
  rw [← hbs] at HZ hbl ⊢
  clear hbs
  go_enter Tryd.func54, Tryd.ntmps54
  go_wp2_with fail
  refine (unhide HZ).mono ?_
  rintro e w1 ⟨g1, cap1, rfl, hrd1, hk1⟩
  replace h3 := h3.on hk1
  replace h4 := h4.on hk1
  clear c0 c1 c2 c3 c4 c5 c6 c7 c8
  go_wp2_with fail
  refine (copied_any w1 _ _ cap1 bs hrd1 rfl (by omega)).mono ?_
  rintro e w2 ⟨g2, rest, rfl, hg2, hblk, hm2, hk2⟩
  replace h3 := h3.on hk2
  replace h4 := h4.on hk2
  obtain ⟨u3, h3'⟩ := h3
  obtain ⟨u4, h4'⟩ := h4
  have c3 := h3'.one
  have f3 := h3'.frozen 0
  have c4 := h4'.one
  have f4 := h4'.frozen 0
  have hs1 := hk1.size
  have hne3 := hblk.ne_ h3' (by decide)
  have hne4 := hblk.ne_ h4' (by decide)
  have hne := h3'.ne_ h4' (by decide)
  have HB := hide hblk
  clear hblk
  go_wp2
  go_end0
  exact ⟨rfl, (((hk1.trans hk2).mono fun _ _ _ => trivial).setCell (p := ⟨b3, 0, none⟩) (fun _ h => h.1 rfl) _).setCell (p := ⟨b4, 0, none⟩) (fun _ h => h.2 rfl) _,
    ⟨g2, _, (Blk.put (l := [u3]) h3' 0 _).far (p := ⟨b4, 0, none⟩) hne _, by omega, ((Rd.of_blk (unhide HB)).set_far (p := ⟨b3, 0, none⟩) hne3 _).set_far (p := ⟨b4, 0, none⟩) hne4 _⟩,
    Blk.put (l := [u4]) (h4'.far (p := ⟨b3, 0, none⟩) (Ne.symm hne) _) 0 _⟩

theorem SliceOk.set {lo : Nat} {w : World} {b3 b4 : Nat} {bs : List UInt8} (h : SliceOk lo w b3 b4 bs) {p : Addr} (h3 : b3 ≠ p.block) (h4 : b4 ≠ p.block) (hlo : p.block < lo) (v : Value) : SliceOk lo (w.setCell p v) b3 b4 bs :=
  ⟨h.1.set h3 hlo v, h.2.far h4 v⟩

/-- What FormatHeader gives back: a slice of these bytes, and true. -/
def GotT (w w' : World) (bs : List UInt8) (e : Ending) : Prop := ∃ g cap, e = .returned (.tuple #[.slice (some ⟨g, 0, none⟩) bs.length cap, .bool true]) ∧ Rd w' w'.heap.size (some ⟨g, 0, none⟩) bs ∧ KT w w'

set_option maxRecDepth 100000 in
set_option maxHeartbeats 1000000 in
theorem implFormat (w : World) (fin : Bool) (r o : Nat) (mk : Bool) (M : Nat → UInt8) (n : Nat) (hr : r < 8) (ho : o < 16) (hn : n ≤ 9223372036854775807) :
    Calls Tryd.prog 26 #[hval fin r o mk M n] w fun e w' => GotT w w' (hbytes fin r o mk M n) e := by
  have hcf : ∀ (args : Array Value) (w : World), (callFunc 54 args).run Tryd.prog w = .ok (.enter 54 args) w := fun _ _ => by simp [go_sem]
  have k3 : ∀ a b c, KT w (((w.alloc a).alloc b).alloc c) := fun a b c => (((KT.refl w).alloc a).alloc b).alloc c
  have K3 := hide k3
  have HC := hide hcf
  clear k3 hcf
  have HZ := hide (fun w b2 b3 b4 h2 h3 h4 => c54 w b2 b3 b4 fin r o mk M n hr ho hn h2 h3 h4)
  obtain ⟨bs, hbs⟩ : ∃ bs, bs = hbytes fin r o mk M n := ⟨_, rfl⟩
  rw [← hbs] at HZ ⊢
  clear hbs
  go_enter Tryd.func26, Tryd.ntmps26
  go_upto_region 1 with fail
  refine wp_abs (fun w1 => Blk w1 w.heap.size 29 (hcells fin r o mk M n) ∧ One w1 (w.heap.size + 1) 22 ∧ One w1 (w.heap.size + 1 + 1) 4 ∧ KT w w1)
    ⟨((Blk.new w 29 _).alloc _).alloc _, ⟨_, (Blk.new2 w _ 22 _).alloc _⟩, ⟨_, Blk.new3 w _ _ 4 _⟩, unhide K3 _ _ _⟩ ?_
  rintro w1 ⟨p0, p2, p3, hk1⟩
  obtain ⟨b3, hb3⟩ : ∃ b3, b3 = w.heap.size + 1 := ⟨_, rfl⟩
  obtain ⟨b4, hb4⟩ : ∃ b4, b4 = w.heap.size + 1 + 1 := ⟨_, rfl⟩
  rw [← hb3] at p2
  rw [← hb4] at p3
  rw [← hb4, ← hb3]
  have hlo3 : w.heap.size ≤ b3 := by omega
  have hlo4 : w.heap.size ≤ b4 := by omega
  clear hb3 hb4 K3
  obtain ⟨c0, c1, c2, c3, c4, c5, c6, c7, c8⟩ := row9 p0
  go_wp2_with fail
  refine (given_any w1 fin r o mk M n (by omega) (by omega)).mono ?_
  rintro e w2 ⟨rfl, hk2⟩
  clear c0 c1 c2 c3 c4 c5 c6 c7 c8
  go_upto_region 4 with fail
  refine wp_abs (fun w3 => Blk w3 w2.heap.size 78 (wcells fin r o mk M n) ∧ One w3 b3 22 ∧ One w3 b4 4 ∧ KT w w3)
    ⟨Blk.new w2 78 _, (p2.on hk2).on ((KT.refl w2).alloc _), (p3.on hk2).on ((KT.refl w2).alloc _), (hk1.trans hk2).alloc _⟩ ?_
  rintro w3 ⟨q0, q3, q4, hk3⟩
  clear p0 p2 p3 hk1 hk2
  obtain ⟨b2, hb2⟩ : ∃ b2, b2 = w2.heap.size := ⟨_, rfl⟩
  rw [← hb2] at q0 ⊢
  clear hb2
  have hlt3 : b3 < w3.heap.size := q3.lt
  have hlt4 : b4 < w3.heap.size := q4.lt
  go_wp2_with fail
  refine (quietly_kp w3 54 _ (fun k => k ≠ b3 ∧ k ≠ b4) (fun wq => SliceOk (w3.alloc (.cells #[.bool false] 4)).heap.size wq b3 b4 bs) (unhide HC) ⟨by omega, by omega⟩
    (fun wq hq => hq.set (p := ⟨w3.heap.size, 0, none⟩) (show b3 ≠ w3.heap.size by omega) (show b4 ≠ w3.heap.size by omega) (by simp) _)
    (unhide HZ (w3.alloc (.cells #[.bool false] 4)) b2 b3 b4 (q0.alloc _) (q3.on ((KT.refl w3).alloc _)) (q4.on ((KT.refl w3).alloc _)))).mono ?_
  rintro e w4 ⟨rfl, hk4, ⟨g, cap, r3, hlo, hrd⟩, r4⟩
  rw [World.size_alloc] at hlo
  have c3 := r3.one
  have f3 := r3.frozen 0
  have c4 := r4.one
  have f4 := r4.frozen 0
  have hne := r3.ne_ r4 (by decide)
  have hk5 : KT w w4 := hk3.then_ hk4 (fun i hi _ => ⟨by omega, by omega⟩)
  go_wp2_with fail
  refine bp_abs (fun w5 => Blk w5 b3 22 #[.slice (some ⟨g, 0, none⟩) bs.length cap] ∧ Blk w5 b4 4 #[.bool true] ∧ Rd w5 w5.heap.size (some ⟨g, 0, none⟩) bs ∧ KT w w5)
    ⟨(Blk.put (l := [_]) r3 0 _).far (p := ⟨b4, 0, none⟩) hne _, Blk.put (l := [_]) (r4.far (p := ⟨b3, 0, none⟩) (Ne.symm hne) _) 0 _, (hrd.set_far (p := ⟨b3, 0, none⟩) (show g ≠ b3 by omega) _).set_far (p := ⟨b4, 0, none⟩) (show g ≠ b4 by omega) _,
      (hk5.setCell (p := ⟨b3, 0, none⟩) (fun h => absurd h (by show ¬ b3 < w.heap.size; omega)) _).setCell (p := ⟨b4, 0, none⟩) (fun h => absurd h (by show ¬ b4 < w.heap.size; omega)) _⟩ ?_
  clear c3 f3 c4 f4
  rintro w5 ⟨z3, z4, hrd5, hk⟩
  have e3 := z3.one
  have e4 := z4.one
  refine bodyPost_ret (v := .tuple #[.slice (some ⟨g, 0, none⟩) bs.length cap, .bool true]) ?_ rfl ⟨g, cap, rfl, hrd5, hk⟩
  simp [results, Tryd.results26, go_sem, e3, e4]

/-- How many bytes a header has. -/
def hsize (mk : Bool) (n : Nat) : Nat := (if n < 126 then 2 else if n < 65536 then 4 else 10) + (if mk then 4 else 0)

set_option maxRecDepth 100000 in
set_option maxHeartbeats 1000000 in
theorem headerSize (w : World) (fin : Bool) (r o : Nat) (mk : Bool) (M : Nat → UInt8) (n : Nat) (hn : n ≤ 9223372036854775807) :
    Calls Tryd.prog 57 #[wval fin r o mk M n] w fun e w' => e = .returned (.int .i64 (hsize mk n)) ∧ KT w w' := by
  by_cases h1 : n < 126
  · have hs : hsize mk n = 2 + if mk then 4 else 0 := by rw [hsize, if_pos h1]
    have HS := hide hs
    clear hs
    cases mk
    · go_enter Tryd.func57, Tryd.ntmps57
      go_wp2
      go_ret
      exact ⟨by rw [unhide HS]; rfl, (KT.refl w).alloc _⟩
    · go_enter Tryd.func57, Tryd.ntmps57
      go_wp2
      go_ret
      exact ⟨by rw [unhide HS]; rfl, (KT.refl w).alloc _⟩
  · by_cases h2 : n < 65536
    · have hs : hsize mk n = 4 + if mk then 4 else 0 := by rw [hsize, if_neg h1, if_pos h2]
      have HS := hide hs
      clear hs
      cases mk
      · go_enter Tryd.func57, Tryd.ntmps57
        go_wp2
        go_ret
        exact ⟨by rw [unhide HS]; rfl, (KT.refl w).alloc _⟩
      · go_enter Tryd.func57, Tryd.ntmps57
        go_wp2
        go_ret
        exact ⟨by rw [unhide HS]; rfl, (KT.refl w).alloc _⟩
    · have hs : hsize mk n = 10 + if mk then 4 else 0 := by rw [hsize, if_neg h1, if_neg h2]
      have HS := hide hs
      clear hs
      cases mk
      · go_enter Tryd.func57, Tryd.ntmps57
        go_wp2
        go_ret
        exact ⟨by rw [unhide HS]; rfl, (KT.refl w).alloc _⟩
      · go_enter Tryd.func57, Tryd.ntmps57
        go_wp2
        go_ret
        exact ⟨by rw [unhide HS]; rfl, (KT.refl w).alloc _⟩

set_option maxRecDepth 100000 in
set_option maxHeartbeats 1000000 in
theorem c56 (w : World) (b2 b3 : Nat) (fin : Bool) (r o : Nat) (mk : Bool) (M : Nat → UInt8) (n : Nat) (hn : n ≤ 9223372036854775807) (h2 : Blk w b2 78 (wcells fin r o mk M n)) (h3 : One w b3 3) :
    Calls Tryd.prog 56 #[.pointer (some ⟨b2, 0, none⟩), .pointer (some ⟨b3, 0, none⟩)] w fun e w' => e = .returned (.tuple #[]) ∧ Kp (· ≠ b3) w w' ∧ Blk w' b3 3 #[.int .i64 (hsize mk n)] := by
  obtain ⟨c0, c1, c2, c3, c4, c5, c6, c7, c8⟩ := row9 h2
  go_enter Tryd.func56, Tryd.ntmps56
  go_wp2_with fail
  refine (headerSize w fin r o mk M n hn).mono ?_
  rintro e w1 ⟨rfl, hk1⟩
  obtain ⟨u3, h3'⟩ := h3.on hk1
  have c3 := h3'.one
  have f3 := h3'.frozen 0
  go_wp2
  go_end0
  exact ⟨rfl, (hk1.mono fun _ _ _ => trivial).setCell (p := ⟨b3, 0, none⟩) (fun _ h => h rfl) _, Blk.put (l := [u3]) h3' 0 _⟩

set_option maxRecDepth 100000 in
set_option maxHeartbeats 1000000 in
theorem implSize (w : World) (fin : Bool) (r o : Nat) (mk : Bool) (M : Nat → UInt8) (n : Nat) (hr : r < 8) (ho : o < 16) (hn : n ≤ 9223372036854775807) :
    Calls Tryd.prog 27 #[hval fin r o mk M n] w fun e w' => e = .returned (.int .i64 (hsize mk n)) ∧ KT w w' := by
  have hcf : ∀ (args : Array Value) (w : World), (callFunc 56 args).run Tryd.prog w = .ok (.enter 56 args) w := fun _ _ => by simp [go_sem]
  have HC := hide hcf
  clear hcf
  have ka : ∀ x, KT w (w.alloc x) := fun x => (KT.refl w).alloc x
  have KA := hide ka
  clear ka
  have HZ := hide (fun w b2 b3 h2 h3 => c56 w b2 b3 fin r o mk M n hn h2 h3)
  obtain ⟨k, hk⟩ : ∃ k, k = hsize mk n := ⟨_, rfl⟩
  rw [← hk] at HZ ⊢
  clear hk
  go_enter Tryd.func27, Tryd.ntmps27
  go_wp2_with fail
  refine (given_any _ fin r o mk M n (by omega) (by omega)).mono ?_
  rintro e w2 ⟨rfl, hk2⟩
  have hk1 := Kp.trans (unhide KA _) hk2
  clear hk2
  go_upto_region 3 with fail
  have hs := hk1.size
  refine wp_abs (fun w3 => Blk w3 w2.heap.size 78 (wcells fin r o mk M n) ∧ Blk w3 (w2.heap.size + 1) 3 #[.int .i64 (-1)] ∧ KT w w3)
    ⟨(Blk.new w2 78 _).alloc _, Blk.new2 w2 _ 3 _, (hk1.alloc _).alloc _⟩ ?_
  obtain ⟨b3, hb3⟩ : ∃ b3, b3 = w2.heap.size + 1 := ⟨_, rfl⟩
  obtain ⟨b2, hb2⟩ : ∃ b2, b2 = w2.heap.size := ⟨_, rfl⟩
  rw [← hb3, ← hb2]
  have hlo : w.heap.size ≤ b3 := by omega
  clear hb3 hb2 hs hk1
  rintro w3 ⟨q2, q3, hk3⟩
  have hlt3 : b3 < w3.heap.size := q3.lt
  go_wp2_with fail
  refine (quietly_kp w3 56 _ (· ≠ b3) (fun wq => Blk wq b3 3 #[.int .i64 k]) (unhide HC) (by omega)
    (fun wq hq => hq.far (p := ⟨w3.heap.size, 0, none⟩) (show b3 ≠ w3.heap.size by omega) _)
    (unhide HZ (w3.alloc (.cells #[.bool false] 4)) b2 b3 (q2.alloc _) ⟨_, q3.alloc _⟩)).mono ?_
  rintro e w4 ⟨rfl, hk4, r3⟩
  have c3 := r3.one
  have hk5 : KT w w4 := hk3.then_ hk4 (fun i hi _ => by omega)
  go_wp2
  go_ret
  exact ⟨rfl, hk5⟩
end Go.Proofs.YtechapgchjdhaaaDoor
