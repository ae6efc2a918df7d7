/- The body of a close frame: spec.CloseBody, ws.NewCloseFrameBody, ws.ParseCloseFrameData, impl.CloseBody, impl.ParseClose, laws.FnCloseBody: the walks. -/
import Derived.Test.YtechapgchjdhaaaDoorStr
import Derived.Test.YtechapgchjdhaaaDoorImk
namespace Go.Proofs.YtechapgchjdhaaaDoor
open Go.RowKit

def body (c : Nat) (rs : List UInt8) : List UInt8 := digit c 1 :: digit c 0 :: rs.take 123

theorem two_bytes (w : World) (c : Nat) (hc : c ≤ 65535) : Blk (w.alloc (.cells #[.int .u8 ((c : Int) / 256), .int .u8 ((c : Int) % 256)] 5)) w.heap.size 5 ([digit c 1, digit c 0].map bv).toArray := by
  have e1 : ((digit c 1).toNat : Int) = (c : Int) / 256 := by rw [digit_toNat]; omega
  have e0 : ((digit c 0).toNat : Int) = (c : Int) % 256 := by rw [digit_toNat]; omega
  have := Blk.new w 5 #[.int .u8 ((c : Int) / 256), .int .u8 ((c : Int) % 256)]
  rw [← e1, ← e0] at this
  rw [← e1, ← e0]
  exact this

set_option maxRecDepth 100000 in
set_option maxHeartbeats 1000000 in
theorem specClose (w : World) (c : Nat) (rs : List UInt8) (hc : c ≤ 65535) (hlen : rs.length ≤ 1000) :
    Calls Tryd.prog 20 #[.int .i64 c, .string (Str rs)] w fun e w' => ∃ v, e = .returned v ∧ Grown w w' (body c rs) v := by
  have hz := Str_size rs
  have hx := Str_extract rs 0 123
  have hb := two_bytes w c hc
  have hf : ∀ w' v, Grown (w.alloc (.cells #[.int .u8 ((c : Int) / 256), .int .u8 ((c : Int) % 256)] 5)) w' ([digit c 1, digit c 0] ++ rs.take 123) v → Grown w w' (body c rs) v := fun w' v ⟨g, cap, h1, h2, h3, h4, h5⟩ =>
    ⟨g, cap, h1, h2, ((Kp.refl _ w).alloc _).trans h3, h4, h5⟩
  have HF := hide hf
  have HB := hide hb
  clear hf hb
  by_cases h : 123 < rs.length
  · go_enter Tryd.func20, Tryd.ntmps20
    go_wp2_with (at_builtin; refine wpList_append_str rfl (.tmp 15) (.tmp 16) rfl w.heap.size [digit c 1, digit c 0] (rs.take 123) rfl (unhide HB) rfl (by simp; omega) ?_; intro v1 w1 hg1; have HG := hide hg1; clear hg1)
    go_ret
    exact ⟨v1, rfl, unhide HF _ _ (unhide HG)⟩
  · have ht : rs.take 123 = rs := List.take_of_length_le (by omega)
    rw [ht] at HF
    go_enter Tryd.func20, Tryd.ntmps20
    go_wp2_with (at_builtin; refine wpList_append_str rfl (.tmp 15) (.tmp 16) rfl w.heap.size [digit c 1, digit c 0] rs rfl (unhide HB) rfl (by simp; omega) ?_; intro v1 w1 hg1; have HG := hide hg1; clear hg1)
    go_ret
    exact ⟨v1, rfl, unhide HF _ _ (unhide HG)⟩

/-- Two bytes written, then a string's bytes behind them. -/
theorem byt_put {w : World} {g c : Nat} {rs : List UInt8} {cs cs1 cs2 : Array Value} (h1 : Upd cs cs1 0 2 (fun i => digit c (1 - i))) (h2 : Upd cs1 cs2 2 rs.length (fun i => rs.getD i 0)) (hb : Blk w g 5 cs2) : Byt w g 0 (digit c 1 :: digit c 0 :: rs) := by
  intro i hi
  rw [Nat.zero_add, hb.cell]
  match i, hi with
  | 0, _ => rw [h2.old 0 (by omega)]; exact h1.new 0 (by omega)
  | 1, _ => rw [h2.old 1 (by omega)]; exact h1.new 1 (by omega)
  | j + 2, hi =>
    have hj : j < rs.length := by simpa using hi
    have := h2.new j hj
    rw [show 2 + j = j + 2 by omega] at this
    rw [this]
    simp [List.getD, List.getElem?_eq_getElem hj]

set_option maxRecDepth 100000 in
set_option maxHeartbeats 1000000 in
theorem putClose (w : World) (g c : Nat) (rs : List UInt8) (cs : Array Value) (hc : c ≤ 65535) (hlen : rs.length ≤ 1000) (hb : Blk w g 5 cs) (hs : cs.size = 2 + rs.length) :
    Calls Tryd.prog 74 #[.slice (some ⟨g, 0, none⟩) (2 + rs.length) (2 + rs.length), .int .u16 c, .string (Str rs)] w fun e w' => e = .returned (.tuple #[]) ∧ Wrote w w' g (digit c 1 :: digit c 0 :: rs) := by
  have hz := Str_size rs
  have hcell : w.cell? ⟨g, 1 + rs.length, none⟩ = some (cs[1 + rs.length]'(by omega)) := (hb.cell _).trans (Array.getElem?_eq_getElem (by omega))
  go_enter Tryd.func74, Tryd.ntmps74
  go_wp2_with fail
  refine (bePutUint16_any w g 0 (2 + rs.length) (2 + rs.length) c 5 cs (by omega) (by omega) (by omega) hb (by omega)).mono ?_
  rintro e w1 ⟨rfl, cs1, hb1, hu1, hk1⟩
  clear hcell
  by_cases h0 : rs = []
  · subst h0
    go_wp2_with (with_reducible refine wpList_copy_str rfl (.tmp 16) (.tmp 17) rfl (some ⟨g, 0, none⟩) g 2 0 0 rfl [] rfl cs1 hb1 0 rfl (fun h => absurd h (by omega)) (by rw [hu1.size, hs]; simp) ?_; intro w2 cs2 hb2 hu2 hk2; have HB := hide hb2; have HU := hide hu2; clear hb2 hu2)
    go_wp2
    go_end0
    exact ⟨rfl, ⟨cs2, unhide HB⟩, byt_put hu1 (unhide HU) (unhide HB), hk1.trans hk2⟩
  · have hpos := List.length_pos_iff.2 h0
    go_wp2_with (with_reducible refine wpList_copy_str rfl (.tmp 16) (.tmp 17) rfl (some ⟨g, 2, none⟩) g 2 rs.length rs.length rfl rs rfl cs1 hb1 rs.length (by simp) (fun _ => rfl) (by rw [hu1.size, hs]; omega) ?_; intro w2 cs2 hb2 hu2 hk2; have HB := hide hb2; have HU := hide hu2; clear hb2 hu2)
    go_wp2
    go_end0
    exact ⟨rfl, ⟨cs2, unhide HB⟩, byt_put hu1 (unhide HU) (unhide HB), hk1.trans hk2⟩

set_option maxRecDepth 100000 in
set_option maxHeartbeats 1000000 in
theorem newClose (w : World) (c : Nat) (rs : List UInt8) (hc : c ≤ 65535) (hlen : rs.length ≤ 1000) :
    Calls Tryd.prog 48 #[.int .u16 c, .string (Str rs)] w fun e w' => Got w w' (body c rs) e := by
  have hz := Str_size rs
  by_cases h : 123 < rs.length
  · have hx := Str_extract rs 0 123
    have hmk : ∀ w, (Instr.makeSlice 22 (.int .i64 125) (.int .i64 125)).run Tryd.prog w = .ok (.slice (some ⟨w.heap.size, 0, none⟩) 125 125) (w.alloc (.cells (zrow 125) 5)) := fun w => run_make_bytes 125 125 (Nat.le_refl _) (by omega) w
    have hzs : (zrow 125).size = 125 := zrow_size 125
    have hl : (rs.take 123).length = 123 := by simp; omega
    have hput : ∀ w, Blk w w.heap.size 5 (zrow 125) → True := fun _ _ => trivial
    go_enter Tryd.func48, Tryd.ntmps48
    go_wp2_with fail
    have hp := putClose (w.alloc (.cells (zrow 125) 5)) w.heap.size c (rs.take 123) (zrow 125) hc (by omega) (Blk.new w 5 _) (by rw [zrow_size, hl])
    rw [hl] at hp
    refine hp.mono ?_
    rintro e w1 ⟨rfl, ⟨cs1, hb1⟩, hB1, hk1⟩
    clear hp
    have hn : (body c rs).length = 125 := by simp [body]; omega
    have HF : Hid (Got w w1 (body c rs) (.returned (.slice (some ⟨w.heap.size, 0, none⟩) 125 125))) := ⟨w.heap.size, 125, by rw [hn], by omega, hb1.lt, hB1, by omega, by omega, (((Kp.refl _ w).alloc _).then_ hk1 (fun i hi _ => by omega))⟩
    clear hb1 hB1
    go_wp2
    go_ret
    exact unhide HF
  · have hmk : ∀ w, (Instr.makeSlice 22 (.int .i64 (2 + (rs.length : Int))) (.int .i64 (2 + (rs.length : Int)))).run Tryd.prog w = .ok (.slice (some ⟨w.heap.size, 0, none⟩) (2 + rs.length) (2 + rs.length)) (w.alloc (.cells (zrow (2 + rs.length)) 5)) := fun w => by
      rw [show ((2 : Int) + rs.length) = ((2 + rs.length : Nat) : Int) by omega]
      exact run_make_bytes (2 + rs.length) (2 + rs.length) (Nat.le_refl _) (by omega) w
    have ht : rs.take 123 = rs := List.take_of_length_le (by omega)
    have hxr : (Str rs).extract 0 rs.length = Str rs := by rw [Str_extract, List.drop_zero, List.take_length]
    have hx : (Str rs).extract 0 123 = Str rs := by rw [Str_extract, List.drop_zero, ht]
    have hF : ∀ w1 cs1, Blk w1 w.heap.size 5 cs1 → Byt w1 w.heap.size 0 (digit c 1 :: digit c 0 :: rs) → Kp (· ≠ w.heap.size) (w.alloc (.cells (zrow (2 + rs.length)) 5)) w1 → Got w w1 (body c rs) (.returned (.slice (some ⟨w.heap.size, 0, none⟩) (2 + rs.length) (2 + rs.length))) := fun w1 cs1 hb1 hB1 hk1 => by
      have hn : (body c rs).length = 2 + rs.length := by simp [body]; omega
      refine ⟨w.heap.size, 2 + rs.length, by rw [hn], by omega, hb1.lt, ?_, by omega, by omega, (((Kp.refl _ w).alloc _).then_ hk1 (fun i hi _ => by omega))⟩
      unfold body
      rw [ht]
      exact hB1
    have HF := hide hF
    have HP := hide (putClose (w.alloc (.cells (zrow (2 + rs.length)) 5)) w.heap.size c rs (zrow (2 + rs.length)) hc (by omega) (Blk.new w 5 _) (by rw [zrow_size]))
    clear hF ht
    go_enter Tryd.func48, Tryd.ntmps48
    go_wp2_with ((with_reducible refine (unhide HP).mono ?_); rintro e w1 ⟨rfl, ⟨cs1, hb1⟩, hB1, hk1⟩; replace hk1 := hide (unhide HF w1 cs1 hb1 hB1 hk1); clear hb1 hB1)
    all_goals (go_ret; exact unhide hk1)

/-- A variable that holds a slice of these bytes; lo: no block below it is the slice's. -/
def SliceAt (lo : Nat) (w' : World) (b4 : Nat) (bs : List UInt8) : Prop := ∃ g cap, Blk w' b4 22 #[.slice (some ⟨g, 0, none⟩) bs.length cap] ∧ lo ≤ g ∧ Rd w' w'.heap.size (some ⟨g, 0, none⟩) bs
theorem Rd.set_far {w : World} {g : Nat} {bs : List UInt8} (h : Rd w w.heap.size (some ⟨g, 0, none⟩) bs) {p : Addr} (hne : g ≠ p.block) (v : Value) : Rd (w.setCell p v) (w.setCell p v).heap.size (some ⟨g, 0, none⟩) bs := fun hne' => by
  obtain ⟨g', off, e, hlt, hB⟩ := h hne'
  obtain ⟨rfl, rfl⟩ : g = g' ∧ 0 = off := by
    injection e with e
    injection e with e1 e2
    exact ⟨e1, e2⟩
  exact ⟨g, 0, rfl, by simpa using hlt, hB.setCell hne v⟩
theorem SliceAt.set {lo : Nat} {w : World} {b4 : Nat} {bs : List UInt8} (h : SliceAt lo w b4 bs) {p : Addr} (h4 : b4 ≠ p.block) (hlo : p.block < lo) (v : Value) : SliceAt lo (w.setCell p v) b4 bs := by
  obtain ⟨g, cap, hb4, hg, hr⟩ := h
  exact ⟨g, cap, hb4.far h4 v, hg, hr.set_far (by omega) v⟩

/-- A new slice of these bytes, and nothing old has turned: what a row of the package gives back. -/
def GotS (w w' : World) (bs : List UInt8) (e : Ending) : Prop := ∃ g cap, e = .returned (.slice (some ⟨g, 0, none⟩) bs.length cap) ∧ Rd w' w'.heap.size (some ⟨g, 0, none⟩) bs ∧ KT w w'

theorem body_length (c : Nat) (rs : List UInt8) : (body c rs).length ≤ 125 := by simp [body]; omega

set_option maxRecDepth 100000 in
set_option maxHeartbeats 1000000 in
theorem c47 (w : World) (b2 b3 b4 c : Nat) (rs : List UInt8) (hc : c ≤ 65535) (hlen : rs.length ≤ 1000) (h2 : Blk w b2 3 #[.int .i64 c]) (h3 : Blk w b3 9 #[.string (Str rs)]) (h4 : One w b4 22) :
    Calls Tryd.prog 47 #[.pointer (some ⟨b2, 0, none⟩), .pointer (some ⟨b3, 0, none⟩), .pointer (some ⟨b4, 0, none⟩)] w fun e w' => e = .returned (.tuple #[]) ∧ Kp (· ≠ b4) w w' ∧ SliceAt w.heap.size w' b4 (body c rs) := by
  have c2 := h2.one
  have c3 := h3.one
  have hbl := body_length c rs
  go_enter Tryd.func47, Tryd.ntmps47
  go_wp2_with fail
  refine (newClose w c rs hc hlen).mono ?_
  rintro e w1 ⟨g1, cap1, rfl, hg1, hlt1, hB1, hc1, hm1, hk1⟩
  replace h4 := h4.on hk1
  clear c2 c3
  go_wp2_with fail
  refine (copied_any w1 _ _ cap1 (body c rs) (Rd.of_byt hB1 hlt1) rfl (by omega)).mono ?_
  rintro e w2 ⟨g2, rest, rfl, hg2, hblk, hm2, hk2⟩
  replace h4 := h4.on hk2
  obtain ⟨u, h4'⟩ := h4
  have c4 := h4'.one
  have f4 := h4'.frozen 0
  have hs1 := hk1.size
  have hne := hblk.ne_ h4' (by decide)
  have HB := hide hblk
  clear hblk
  go_wp2
  go_end0
  exact ⟨rfl, ((hk1.trans hk2).mono fun _ _ _ => trivial).setCell (p := ⟨b4, 0, none⟩) (fun _ h => h rfl) _, g2, _, Blk.put (l := [u]) h4' 0 _, by omega, (Rd.of_blk (unhide HB)).set_far (p := ⟨b4, 0, none⟩) hne _⟩

set_option maxRecDepth 100000 in
set_option maxHeartbeats 1000000 in
theorem implClose (w : World) (c : Nat) (rs : List UInt8) (hc : c ≤ 65535) (hlen : rs.length ≤ 1000) :
    Calls Tryd.prog 21 #[.int .i64 c, .string (Str rs)] w fun e w' => GotS w w' (body c rs) e := by
  have hcf : ∀ (args : Array Value) (w : World), (callFunc 47 args).run Tryd.prog w = .ok (.enter 47 args) w := fun _ _ => by simp [go_sem]
  have k3 : ∀ a b c, KT w (((w.alloc a).alloc b).alloc c) := fun a b c => (((KT.refl w).alloc a).alloc b).alloc c
  have K3 := hide k3
  have HC := hide hcf
  clear k3 hcf
  go_enter Tryd.func21, Tryd.ntmps21
  go_upto_region 1 with fail
  refine wp_abs (fun w1 => Blk w1 w.heap.size 3 #[.int .i64 c] ∧ Blk w1 (w.heap.size + 1) 9 #[.string (Str rs)] ∧ One w1 (w.heap.size + 1 + 1) 22 ∧ KT w w1)
    ⟨((Blk.new w 3 _).alloc _).alloc _, (Blk.new2 w _ 9 _).alloc _, ⟨_, Blk.new3 w _ _ 22 _⟩, unhide K3 _ _ _⟩ ?_
  rintro w3 ⟨q0, q1, q4, hk3⟩
  obtain ⟨b4, hb4⟩ : ∃ b4, b4 = w.heap.size + 1 + 1 := ⟨_, rfl⟩
  rw [← hb4] at q4 ⊢
  have hlo4 : w.heap.size ≤ b4 := by omega
  clear hb4
  have hb4 : b4 < w3.heap.size := q4.lt
  have c0 := q0.one
  go_wp2_with fail
  refine (quietly_kp w3 47 _ (· ≠ b4) (fun wq => SliceAt (w3.alloc (.cells #[.bool false] 4)).heap.size wq b4 (body c rs)) (unhide HC) (by omega)
    (fun wq hq => hq.set (p := ⟨w3.heap.size, 0, none⟩) (show b4 ≠ w3.heap.size by omega) (by simp) _)
    (c47 (w3.alloc (.cells #[.bool false] 4)) _ _ b4 c rs hc hlen (q0.alloc _) (q1.alloc _) (q4.on ((KT.refl w3).alloc _)))).mono ?_
  rintro e w4 ⟨rfl, hk4, ⟨g, cap, r4, hlo, hrd⟩⟩
  rw [World.size_alloc] at hlo
  have c9 := r4.one
  have f9 := r4.frozen 0
  have hk5 : KT w w4 := hk3.then_ hk4 (fun i hi _ => by omega)
  clear c0
  go_wp2
  refine bp_abs (fun w5 => Blk w5 b4 22 #[.slice (some ⟨g, 0, none⟩) (body c rs).length cap] ∧ Rd w5 w5.heap.size (some ⟨g, 0, none⟩) (body c rs) ∧ KT w w5) ⟨Blk.put (l := [_]) r4 0 _, hrd.set_far (p := ⟨b4, 0, none⟩) (show g ≠ b4 by omega) _, hk5.setCell (p := ⟨b4, 0, none⟩) (fun h => absurd h (by show ¬ b4 < w.heap.size; omega)) _⟩ ?_
  clear c9 f9
  rintro w5 ⟨z4, hrd5, hk⟩
  have e9 := Blk.one z4
  refine bodyPost_ret (v := .slice (some ⟨g, 0, none⟩) (body c rs).length cap) ?_ rfl ⟨g, cap, rfl, hrd5, hk⟩
  simp [results, Tryd.results21, go_sem, e9]
end Go.Proofs.YtechapgchjdhaaaDoor

