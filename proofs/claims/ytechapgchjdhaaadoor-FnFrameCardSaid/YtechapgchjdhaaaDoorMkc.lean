/- impl.Mask and impl.Unmask: the closures, the calls through 'quietly', the whole. -/
import Derived.Test.YtechapgchjdhaaaDoorFrm
import Derived.Deep.RegionHeld3
namespace Go.Proofs.YtechapgchjdhaaaDoor
open Go.RowKit

abbrev KT (w w' : World) : Prop := Kp (fun _ => True) w w'
theorem Rd.on {w w' : World} {A : Option Addr} {bs : List UInt8} (h : Rd w w.heap.size A bs) (hk : KT w w') : Rd w' w'.heap.size A bs := (h.kp hk (Nat.le_refl _) (fun _ _ => trivial)).mono hk.size
theorem Rem.on {w w' : World} (h : Rem w) (hk : KT w w') : Rem w' := h.kp hk trivial
theorem Blk.on {w w' : World} {g : Nat} {t : TypeId} {cs : Array Value} (h : Blk w g t cs) (hk : KT w w') : Blk w' g t cs := h.kp hk trivial
theorem Byt.on {w w' : World} {g off : Nat} {bs : List UInt8} (h : Byt w g off bs) (hg : g < w.heap.size) (hk : KT w w') : Byt w' g off bs := h.kp hk hg trivial
theorem Rd.of_blk {w : World} {g : Nat} {bs : List UInt8} {rest : List Value} (h : Blk w g 5 (bs.map bv ++ rest).toArray) : Rd w w.heap.size (some ⟨g, 0, none⟩) bs := Rd.of_byt (Blk.byt (pre := []) rfl h) h.lt
theorem KT.refl (w : World) : KT w w := Kp.refl _ w

/-- Blocks of different element types are different blocks. -/
theorem Blk.ne_ {w : World} {g g' : Nat} {t t' : TypeId} {cs cs' : Array Value} (h : Blk w g t cs) (h' : Blk w g' t' cs') (hne : t ≠ t') : g ≠ g' := by
  rintro rfl
  unfold Blk at h h'
  rw [h] at h'
  injection h' with h'
  injection h' with _ ht
  exact hne ht

/-- A pointer to a new block that holds a frame, its payload in a block of its own. -/
def FrameAt (w wx : World) (s : Value) (fin : Bool) (rsv op : Int) (mk : Bool) (M : Nat → UInt8) (len : Int) (bs : List UInt8) : Prop :=
  ∃ b g cs, s = .pointer (some ⟨b, 0, none⟩) ∧ Blk wx b 82 (fcells fin rsv op mk M len (.slice (some ⟨g, 0, none⟩) bs.length bs.length)) ∧ Blk wx g 5 cs ∧ Byt wx g 0 bs ∧ KT w wx ∧ w.heap.size ≤ b

/-- A copy of bytes in a new block. -/
def CopyOf (wx : World) (bs : List UInt8) (s : Value) : Prop := ∃ g cap, s = .slice (some ⟨g, 0, none⟩) bs.length cap ∧ Rd wx wx.heap.size (some ⟨g, 0, none⟩) bs
/-- A new variable of ten cells. -/
def VarAt (w wx : World) (s : Value) : Prop := ∃ b v0 v1 v2 v3 v4 v5 v6 v7 v8 v9, s = .pointer (some ⟨b, 0, none⟩) ∧ w.heap.size ≤ b ∧ Blk wx b 82 #[v0, v1, v2, v3, v4, v5, v6, v7, v8, v9]

theorem CopyOf.on {w w' : World} {bs : List UInt8} {s : Value} (h : CopyOf w bs s) (hk : KT w w') : CopyOf w' bs s := by
  obtain ⟨g, cap, e, hr⟩ := h
  exact ⟨g, cap, e, hr.on hk⟩
theorem VarAt.on {w0 w w' : World} {s : Value} (h : VarAt w0 w s) (hk : KT w w') : VarAt w0 w' s := by
  obtain ⟨b, v0, v1, v2, v3, v4, v5, v6, v7, v8, v9, e, hb, hblk⟩ := h
  exact ⟨b, v0, v1, v2, v3, v4, v5, v6, v7, v8, v9, e, hb, hblk.on hk⟩

/-- A variable of nine cells; of one. -/
def Nine (w : World) (g : Nat) (t : TypeId) : Prop := ∃ v0 v1 v2 v3 v4 v5 v6 v7 v8, Blk w g t #[v0, v1, v2, v3, v4, v5, v6, v7, v8]
def One (w : World) (g : Nat) (t : TypeId) : Prop := ∃ v, Blk w g t #[v]
section
variable {w w' : World} {g b : Nat} {t : TypeId} {v0 v1 v2 v3 v4 v5 v6 v7 v8 : Value}
theorem Nine.on (h : Nine w g t) (hk : KT w w') : Nine w' g t := by
  obtain ⟨a0, a1, a2, a3, a4, a5, a6, a7, a8, hb⟩ := h
  exact ⟨a0, a1, a2, a3, a4, a5, a6, a7, a8, hb.on hk⟩
theorem One.on (h : One w g t) (hk : KT w w') : One w' g t := by
  obtain ⟨v, hb⟩ := h
  exact ⟨v, hb.on hk⟩
theorem Nine.put (h : Nine w b t) : Blk (((((((((w.setCell ⟨b, 0, none⟩ v0).setCell ⟨b, 1, none⟩ v1).setCell ⟨b, 2, none⟩ v2).setCell ⟨b, 3, none⟩ v3).setCell ⟨b, 4, none⟩ v4).setCell ⟨b, 5, none⟩ v5).setCell ⟨b, 6, none⟩ v6).setCell ⟨b, 7, none⟩ v7).setCell ⟨b, 8, none⟩ v8) b t #[v0, v1, v2, v3, v4, v5, v6, v7, v8] := by
  obtain ⟨a0, a1, a2, a3, a4, a5, a6, a7, a8, hb⟩ := h
  exact put9_blk hb
theorem Nine.set (h : Nine w b t) : Nine (((((((((w.setCell ⟨b, 0, none⟩ v0).setCell ⟨b, 1, none⟩ v1).setCell ⟨b, 2, none⟩ v2).setCell ⟨b, 3, none⟩ v3).setCell ⟨b, 4, none⟩ v4).setCell ⟨b, 5, none⟩ v5).setCell ⟨b, 6, none⟩ v6).setCell ⟨b, 7, none⟩ v7).setCell ⟨b, 8, none⟩ v8) b t :=
  ⟨_, _, _, _, _, _, _, _, _, h.put⟩
theorem Nine.far (h : Nine w g t) {p : Addr} (hne : g ≠ p.block) (v : Value) : Nine (w.setCell p v) g t := by
  obtain ⟨a0, a1, a2, a3, a4, a5, a6, a7, a8, hb⟩ := h
  exact ⟨a0, a1, a2, a3, a4, a5, a6, a7, a8, hb.far hne v⟩
theorem One.far9 (h : One w g t) (hne : g ≠ b) : One (((((((((w.setCell ⟨b, 0, none⟩ v0).setCell ⟨b, 1, none⟩ v1).setCell ⟨b, 2, none⟩ v2).setCell ⟨b, 3, none⟩ v3).setCell ⟨b, 4, none⟩ v4).setCell ⟨b, 5, none⟩ v5).setCell ⟨b, 6, none⟩ v6).setCell ⟨b, 7, none⟩ v7).setCell ⟨b, 8, none⟩ v8) g t := by
  obtain ⟨v, hb⟩ := h
  exact ⟨v, put9_far hb hne⟩
theorem One.put (h : One w b t) (v : Value) : Blk (w.setCell ⟨b, 0, none⟩ v) b t #[v] := by
  obtain ⟨u, hb⟩ := h
  exact Blk.put (l := [u]) hb 0 v
theorem One.set (h : One w b t) (v : Value) : One (w.setCell ⟨b, 0, none⟩ v) b t := ⟨v, h.put v⟩
theorem One.frozen (h : One w b t) : w.frozen? ⟨b, 0, none⟩ = false := by
  obtain ⟨u, hb⟩ := h
  exact hb.frozen 0
theorem Nine.frozen (h : Nine w g t) : w.frozen? ⟨g, 0, none⟩ = false ∧ w.frozen? ⟨g, 1, none⟩ = false ∧ w.frozen? ⟨g, 2, none⟩ = false ∧ w.frozen? ⟨g, 3, none⟩ = false ∧ w.frozen? ⟨g, 4, none⟩ = false ∧
    w.frozen? ⟨g, 5, none⟩ = false ∧ w.frozen? ⟨g, 6, none⟩ = false ∧ w.frozen? ⟨g, 7, none⟩ = false ∧ w.frozen? ⟨g, 8, none⟩ = false := by
  obtain ⟨a0, a1, a2, a3, a4, a5, a6, a7, a8, h⟩ := h
  exact ⟨h.frozen 0, h.frozen 1, h.frozen 2, h.frozen 3, h.frozen 4, h.frozen 5, h.frozen 6, h.frozen 7, h.frozen 8⟩
end

section mask
variable (w : World) (fin : Bool) (rsv op : Int) (mk : Bool) (M N : Nat → UInt8) (len : Int) (A : Option Addr) (c : Nat) (bs : List UInt8)

/-- What holds in the middle of 'f := ws.MaskFrameWith(..)'. -/
structure In42 (L : Nat → Bool) (u5 u6 u7 u8 u9 u10 u11 : Value) (wx : World) : Prop where
  kt : KT w wx
  i0 : L 0 = true → u6 = wval fin rsv op mk M len
  i1 : L 1 = true → u7 = .slice A bs.length c
  i2 : L 2 = true → L 7 = false → CopyOf wx bs u8
  i3 : L 3 = true → L 7 = false → ∃ v, u9 = fval fin rsv op mk M len v ∧ CopyOf wx bs v
  i4 : L 4 = true → u10 = mval N
  i5 : L 5 = true → L 7 = false → ∃ g cs, u11 = fval fin rsv op true N len (.slice (some ⟨g, 0, none⟩) bs.length bs.length) ∧ Blk wx g 5 cs ∧ Byt wx g 0 (laid bs N 0)
  i6 : L 6 = true → L 7 = false → VarAt w wx u5
  i7 : L 7 = true → FrameAt w wx u5 fin rsv op true N len (laid bs N 0)

/-- The same in the middle of 'f := ws.UnmaskFrame(..)'. -/
structure In45 (L : Nat → Bool) (u4 u5 u6 u7 u8 u9 : Value) (wx : World) : Prop where
  kt : KT w wx
  i0 : L 0 = true → u5 = wval fin rsv op mk M len
  i1 : L 1 = true → u6 = .slice A bs.length c
  i2 : L 2 = true → L 6 = false → CopyOf wx bs u7
  i3 : L 3 = true → L 6 = false → ∃ v, u8 = fval fin rsv op mk M len v ∧ CopyOf wx bs v
  i4 : L 4 = true → L 6 = false → ∃ g cs, u9 = fval fin rsv op false (fun _ => 0) len (.slice (some ⟨g, 0, none⟩) bs.length bs.length) ∧ Blk wx g 5 cs ∧ Byt wx g 0 (laid bs M 0)
  i5 : L 5 = true → L 6 = false → VarAt w wx u4
  i6 : L 6 = true → FrameAt w wx u4 fin rsv op false (fun _ => 0) len (laid bs M 0)
end mask

section
variable {w wx wy : World} {fin : Bool} {rsv op : Int} {mk : Bool} {M N : Nat → UInt8} {len : Int} {A : Option Addr} {c : Nat} {bs : List UInt8} {L : Nat → Bool} {u4 u5 u6 u7 u8 u9 u10 u11 : Value}
theorem In42.on (h : In42 w fin rsv op mk M N len A c bs L u5 u6 u7 u8 u9 u10 u11 wx) (hk : KT wx wy) (h7 : L 7 = false) : In42 w fin rsv op mk M N len A c bs L u5 u6 u7 u8 u9 u10 u11 wy where
  kt := h.kt.trans hk
  i0 := h.i0
  i1 := h.i1
  i2 := fun hl h7 => (h.i2 hl h7).on hk
  i3 := fun hl h7 => let ⟨v, e, hc⟩ := h.i3 hl h7; ⟨v, e, hc.on hk⟩
  i4 := h.i4
  i5 := fun hl h7 => let ⟨g, cs, e, hb, hB⟩ := h.i5 hl h7; ⟨g, cs, e, hb.on hk, hB.on hb.lt hk⟩
  i6 := fun hl h7 => (h.i6 hl h7).on hk
  i7 := fun hl => by rw [h7] at hl; cases hl
theorem In45.on (h : In45 w fin rsv op mk M len A c bs L u4 u5 u6 u7 u8 u9 wx) (hk : KT wx wy) (h7 : L 6 = false) : In45 w fin rsv op mk M len A c bs L u4 u5 u6 u7 u8 u9 wy where
  kt := h.kt.trans hk
  i0 := h.i0
  i1 := h.i1
  i2 := fun hl h7 => (h.i2 hl h7).on hk
  i3 := fun hl h7 => let ⟨v, e, hc⟩ := h.i3 hl h7; ⟨v, e, hc.on hk⟩
  i4 := fun hl h7 => let ⟨g, cs, e, hb, hB⟩ := h.i4 hl h7; ⟨g, cs, e, hb.on hk, hB.on hb.lt hk⟩
  i5 := fun hl h7 => (h.i5 hl h7).on hk
  i6 := fun hl => by rw [h7] at hl; cases hl
end

def J42 (w : World) (b0 b1 b2 b3 b4 : Nat) (fin : Bool) (rsv op : Int) (mk : Bool) (M N : Nat → UInt8) (len : Int) (A : Option Addr) (c : Nat) (bs : List UInt8) (L : Nat → Bool) (a : Act) (wx : World) : Prop :=
  ∃ u5 u6 u7 u8 u9 u10 u11, a = ⟨#[.pointer (some ⟨b0, 0, none⟩), .pointer (some ⟨b1, 0, none⟩), .pointer (some ⟨b2, 0, none⟩), .pointer (some ⟨b3, 0, none⟩), .pointer (some ⟨b4, 0, none⟩), u5, u6, u7, u8, u9, u10, u11, undef, undef, undef, undef, undef, undef], []⟩ ∧
    In42 w fin rsv op mk M N len A c bs L u5 u6 u7 u8 u9 u10 u11 wx

def J45 (w : World) (b0 b1 b3 b4 : Nat) (fin : Bool) (rsv op : Int) (mk : Bool) (M : Nat → UInt8) (len : Int) (A : Option Addr) (c : Nat) (bs : List UInt8) (L : Nat → Bool) (a : Act) (wx : World) : Prop :=
  ∃ u4 u5 u6 u7 u8 u9, a = ⟨#[.pointer (some ⟨b0, 0, none⟩), .pointer (some ⟨b1, 0, none⟩), .pointer (some ⟨b3, 0, none⟩), .pointer (some ⟨b4, 0, none⟩), u4, u5, u6, u7, u8, u9, undef, undef, undef, undef, undef, undef], []⟩ ∧
    In45 w fin rsv op mk M len A c bs L u4 u5 u6 u7 u8 u9 wx

/-- What the closures leave in the two outer variables: a header told, a copy of a payload; lo: no block below it is the copy's. -/
def ToldAt (lo : Nat) (w' : World) (b3 b4 : Nat) (fin : Bool) (rsv op : Int) (mk : Bool) (M : Nat → UInt8) (len : Int) (bs : List UInt8) : Prop :=
  Blk w' b3 29 (hcells fin rsv op mk M len) ∧ ∃ g cap, Blk w' b4 22 #[.slice (some ⟨g, 0, none⟩) bs.length cap] ∧ lo ≤ g ∧ Rd w' w'.heap.size (some ⟨g, 0, none⟩) bs

/-- What holds in the middle of 'h, p = told(f.Header), copied(f.Payload)': w is the world at the beginning. -/
structure InTold (w : World) (b b3 b4 : Nat) (fin : Bool) (rsv op : Int) (mk : Bool) (M : Nat → UInt8) (len : Int) (s : Value) (bs : List UInt8) (L : Nat → Bool) (u0 u1 u2 u3 u4 u5 : Value) (wx : World) : Prop where
  kp : Kp (fun k => k ≠ b3 ∧ k ≠ b4) w wx
  nine : Nine wx b3 29
  one : One wx b4 22
  i0 : L 0 = true → u0 = .pointer (some ⟨b, 0, none⟩)
  i1 : L 1 = true → u1 = wval fin rsv op mk M len
  i2 : L 2 = true → u2 = hval fin rsv op mk M len
  i3 : L 3 = true → u3 = .pointer (some ⟨b, 9, none⟩)
  i4 : L 4 = true → u4 = s
  i5 : L 5 = true → ∃ g cap cs, u5 = .slice (some ⟨g, 0, none⟩) bs.length cap ∧ Blk wx g 5 cs ∧ Byt wx g 0 bs ∧ w.heap.size ≤ g
  i6 : L 6 = true → Blk wx b3 29 (hcells fin rsv op mk M len)
  i7 : L 7 = true → Blk wx b4 22 #[u5]

section
variable {w wx wy : World} {b b3 b4 : Nat} {fin : Bool} {rsv op : Int} {mk : Bool} {M : Nat → UInt8} {len : Int} {s : Value} {bs : List UInt8} {L : Nat → Bool} {u0 u1 u2 u3 u4 u5 : Value}
theorem InTold.on (h : InTold w b b3 b4 fin rsv op mk M len s bs L u0 u1 u2 u3 u4 u5 wx) (hk : KT wx wy) : InTold w b b3 b4 fin rsv op mk M len s bs L u0 u1 u2 u3 u4 u5 wy where
  kp := h.kp.trans (hk.mono fun _ _ _ => trivial)
  nine := h.nine.on hk
  one := h.one.on hk
  i0 := h.i0
  i1 := h.i1
  i2 := h.i2
  i3 := h.i3
  i4 := h.i4
  i5 := fun hl => let ⟨g, cap, cs, e, hb, hB, hlo⟩ := h.i5 hl; ⟨g, cap, cs, e, hb.on hk, hB.on hb.lt hk, hlo⟩
  i6 := fun hl => (h.i6 hl).on hk
  i7 := fun hl => (h.i7 hl).on hk
end
theorem Nine.ne1 {w : World} {g g' : Nat} {t t' : TypeId} (h : Nine w g t) (h' : One w g' t') (hne : t ≠ t') : g ≠ g' := by
  obtain ⟨_, _, _, _, _, _, _, _, _, h⟩ := h
  obtain ⟨_, h'⟩ := h'
  exact h.ne_ h' hne

theorem bytes_apart {w : World} {b b3 b4 : Nat} {cs : Array Value} (h : Blk w b 5 cs) (h3 : Nine w b3 29) (h4 : One w b4 22) : b ≠ b3 ∧ b ≠ b4 := by
  obtain ⟨_, _, _, _, _, _, _, _, _, h3⟩ := h3
  obtain ⟨_, h4⟩ := h4
  exact ⟨h.ne_ h3 (by decide), h.ne_ h4 (by decide)⟩
/-- The frame's block is another than the two that are written. -/
theorem frame_apart {w : World} {b b3 b4 : Nat} {cs : Array Value} (h : Blk w b 82 cs) (h3 : Nine w b3 29) (h4 : One w b4 22) : b ≠ b3 ∧ b ≠ b4 := by
  obtain ⟨_, _, _, _, _, _, _, _, _, h3⟩ := h3
  obtain ⟨_, h4⟩ := h4
  exact ⟨h.ne_ h3 (by decide), h.ne_ h4 (by decide)⟩

set_option maxRecDepth 100000 in
set_option maxHeartbeats 400000 in
theorem c42 (w : World) (b0 b1 b2 b3 b4 : Nat) (fin : Bool) (rsv op : Int) (mk : Bool) (M N : Nat → UInt8) (len : Int) (A : Option Addr) (c : Nat) (bs : List UInt8) (hnm : bs.length ≤ 140737488355328) (hrem : Rem w)
    (hr1 : 0 ≤ rsv ∧ rsv ≤ 255) (hr2 : 0 ≤ op ∧ op ≤ 255)
    (h0 : Blk w b0 78 (wcells fin rsv op mk M len)) (h1 : Blk w b1 22 #[.slice A bs.length c]) (h2 : Blk w b2 23 (mcells N)) (hr : Rd w w.heap.size A bs) (h3 : Nine w b3 29) (h4 : One w b4 22) :
    Calls Tryd.prog 42 #[.pointer (some ⟨b0, 0, none⟩), .pointer (some ⟨b1, 0, none⟩), .pointer (some ⟨b2, 0, none⟩), .pointer (some ⟨b3, 0, none⟩), .pointer (some ⟨b4, 0, none⟩)] w fun e w' => e = .returned (.tuple #[]) ∧
      Kp (fun k => k ≠ b3 ∧ k ≠ b4) w w' ∧ ToldAt w.heap.size w' b3 b4 fin rsv op true N len (laid bs N 0) := by
  go_enter Tryd.func42, Tryd.ntmps42
  go_upto_region 0 with fail
  refine wp_region_inv' mixed (J42 w b0 b1 b2 b3 b4 fin rsv op mk M N len A c bs) (by kernel_rfl) ?_ ?_ ?_
  · exact ⟨undef, undef, undef, undef, undef, undef, undef, rfl, ⟨(KT.refl w).drew, by simp, by simp, by simp, by simp, by simp, by simp, by simp, by simp⟩⟩
  · rintro L i o a wx ho hL hdep hcl ⟨u5, u6, u7, u8, u9, u10, u11, rfl, hJ⟩ K hK
    have h7 : i ≠ 7 → i < 8 → L 7 = false := fun hi hi8 => by
      cases h : L 7 with
      | false => rfl
      | true =>
        have hd := hcl 7 i
        rcases (show i = 0 ∨ i = 1 ∨ i = 2 ∨ i = 3 ∨ i = 4 ∨ i = 5 ∨ i = 6 by omega) with rfl | rfl | rfl | rfl | rfl | rfl | rfl <;> (rw [hd (by kernel_rfl) h] at hL; cases hL)
    rcases (show i = 0 ∨ i = 1 ∨ i = 2 ∨ i = 3 ∨ i = 4 ∨ i = 5 ∨ i = 6 ∨ i = 7 ∨ 8 ≤ i by omega) with rfl | rfl | rfl | rfl | rfl | rfl | rfl | rfl | h8
    · obtain ⟨c0, c1, c2, c3, c4, c5, c6, c7, c8⟩ := row9 (h0.on hJ.kt)
      refine wpOp_list ho ?_
      simp only [List.getElem?_toArray, List.getElem?_cons_zero, List.getElem?_cons_succ, Option.some.injEq] at ho
      subst ho
      clear hdep hcl hL h7
      go_wp2_with fail
      exact ⟨_, _, _, _, _, _, _, rfl, ⟨hJ.kt, fun _ => rfl, hJ.i1, hJ.i2, hJ.i3, hJ.i4, hJ.i5, hJ.i6, hJ.i7⟩⟩
    · have c9 := (h1.on hJ.kt).one
      refine wpOp_list ho ?_
      simp only [List.getElem?_toArray, List.getElem?_cons_zero, List.getElem?_cons_succ, Option.some.injEq] at ho
      subst ho
      clear hdep hcl hL h7
      go_wp2_with fail
      exact ⟨_, _, _, _, _, _, _, rfl, ⟨hJ.kt, hJ.i0, fun _ => rfl, hJ.i2, hJ.i3, hJ.i4, hJ.i5, hJ.i6, hJ.i7⟩⟩
    · obtain rfl := hJ.i1 (hdep 1 (by kernel_rfl))
      have h7' := h7 (by omega) (by omega)
      refine wpOp_list ho ?_
      simp only [List.getElem?_toArray, List.getElem?_cons_zero, List.getElem?_cons_succ, Option.some.injEq] at ho
      subst ho
      clear hdep hcl hL h7
      go_wp2_with fail
      refine (copied_any wx A _ c bs (hr.on hJ.kt) rfl hnm).mono ?_
      rintro e w1 ⟨g, rest, rfl, hg, hblk, hm, hk⟩
      have hJ1 := hJ.on hk h7'
      go_wp2_with fail
      exact ⟨_, _, _, _, _, _, _, rfl, ⟨hJ1.kt, hJ1.i0, hJ1.i1, fun _ _ => ⟨g, _, rfl, Rd.of_blk hblk⟩, hJ1.i3, hJ1.i4, hJ1.i5, hJ1.i6, hJ1.i7⟩⟩
    · have h7' := h7 (by omega) (by omega)
      obtain rfl := hJ.i0 (hdep 0 (by kernel_rfl))
      obtain ⟨g, cap, rfl, hrg⟩ := hJ.i2 (hdep 2 (by kernel_rfl)) h7'
      refine wpOp_list ho ?_
      simp only [List.getElem?_toArray, List.getElem?_cons_zero, List.getElem?_cons_succ, Option.some.injEq] at ho
      subst ho
      clear hdep hcl hL h7
      go_wp2_with fail
      exact ⟨_, _, _, _, _, _, _, rfl, ⟨hJ.kt, hJ.i0, hJ.i1, hJ.i2, fun _ _ => ⟨_, rfl, g, cap, rfl, hrg⟩, hJ.i4, hJ.i5, hJ.i6, hJ.i7⟩⟩
    · obtain ⟨m0, m1, m2, m3⟩ := mask4 (h2.on hJ.kt)
      refine wpOp_list ho ?_
      simp only [List.getElem?_toArray, List.getElem?_cons_zero, List.getElem?_cons_succ, Option.some.injEq] at ho
      subst ho
      clear hdep hcl hL h7
      go_wp2_with fail
      exact ⟨_, _, _, _, _, _, _, rfl, ⟨hJ.kt, hJ.i0, hJ.i1, hJ.i2, hJ.i3, fun _ => rfl, hJ.i5, hJ.i6, hJ.i7⟩⟩
    · have h7' := h7 (by omega) (by omega)
      obtain ⟨v, rfl, g, cap, rfl, hrg⟩ := hJ.i3 (hdep 3 (by kernel_rfl)) h7'
      obtain rfl := hJ.i4 (hdep 4 (by kernel_rfl))
      refine wpOp_list ho ?_
      simp only [List.getElem?_toArray, List.getElem?_cons_zero, List.getElem?_cons_succ, Option.some.injEq] at ho
      subst ho
      clear hdep hcl hL h7
      go_wp2_with fail
      refine (maskFrameWith wx fin rsv op mk M N len _ cap bs hnm (hrem.on hJ.kt) hrg).mono ?_
      rintro e w1 ⟨g1, rfl, ⟨cs1, hb1⟩, hB1, hk1⟩
      have hJ1 := hJ.on hk1 h7'
      go_wp2_with fail
      exact ⟨_, _, _, _, _, _, _, rfl, ⟨hJ1.kt, hJ1.i0, hJ1.i1, hJ1.i2, hJ1.i3, hJ1.i4, fun _ _ => ⟨g1, cs1, rfl, hb1, hB1⟩, hJ1.i6, hJ1.i7⟩⟩
    · have h7' := h7 (by omega) (by omega)
      refine wpOp_list ho ?_
      simp only [List.getElem?_toArray, List.getElem?_cons_zero, List.getElem?_cons_succ, Option.some.injEq] at ho
      subst ho
      clear hdep hcl hL h7
      go_wp2_with fail
      have hJ1 := fun o => hJ.on ((KT.refl wx).alloc o) h7'
      exact ⟨_, _, _, _, _, _, _, rfl, ⟨(hJ1 _).kt, hJ.i0, hJ.i1, (hJ1 _).i2, (hJ1 _).i3, hJ.i4, (hJ1 _).i5, fun _ _ => ⟨wx.heap.size, _, _, _, _, _, _, _, _, _, _, rfl, hJ.kt.size, Blk.new wx 82 _⟩, fun h => absurd (h7'.symm.trans h) (by decide)⟩⟩
    · obtain ⟨g, cs, rfl, hb, hB⟩ := hJ.i5 (hdep 5 (by kernel_rfl)) hL
      obtain ⟨b, v0, v1, v2, v3, v4, v5, v6, v7, v8, v9, rfl, hlo, hbl⟩ := hJ.i6 (hdep 6 (by kernel_rfl)) hL
      obtain ⟨f0, f1, f2, f3, f4, f5, f6, f7, f8, f9⟩ := free10 hbl
      obtain ⟨d0, d1, d2, d3, d4, d5, d6, d7, d8, d9⟩ := row10 hbl
      refine wpOp_list ho ?_
      simp only [List.getElem?_toArray, List.getElem?_cons_zero, List.getElem?_cons_succ, Option.some.injEq] at ho
      subst ho
      clear hdep hcl hL h7
      go_wp2_with fail
      refine ⟨_, _, _, _, _, _, _, rfl, ⟨put10_kp hJ.kt (fun h => absurd h (by omega)), hJ.i0, hJ.i1, by simp, by simp, hJ.i4, by simp, by simp, fun _ => ⟨b, g, cs, rfl, ?_, ?_, ?_, put10_kp hJ.kt (fun h => absurd h (by omega)), hlo⟩⟩⟩
      · rw [laid_length]
        exact put10_blk hbl
      · exact put10_far hb (hb.ne_ hbl (by decide))
      · exact put10_byt hB (hb.ne_ hbl (by decide))
    · rw [Array.getElem?_eq_none (by exact h8)] at ho
      cases ho
  · rintro L a wx hall ⟨u5, u6, u7, u8, u9, u10, u11, rfl, hJ⟩
    obtain ⟨b, g, cg, rfl, hbl, hg, hB, hkt, hlo⟩ := hJ.i7 (hall 7 (by decide))
    have h3x := h3.on hkt
    have h4x := h4.on hkt
    obtain ⟨hb3, hb4⟩ := frame_apart hbl h3x h4x
    obtain ⟨hg3, hg4⟩ := bytes_apart hg h3x h4x
    obtain ⟨ls, hls⟩ : ∃ ls, ls = laid bs N 0 := ⟨_, rfl⟩
    have hlx : ls.length ≤ 140737488355328 := by rw [hls, laid_length]; exact hnm
    rw [← hls] at hbl hB
    have HL := hide hls
    clear hls
    clear hJ hall h0 h1 h2 h3 h4 hr hnm
    go_upto_region 1 with fail
    refine wp_region_inv' mixed (fun L a wy => ∃ t0 t1 t2 t3 t4 t5, a = ⟨#[.pointer (some ⟨b0, 0, none⟩), .pointer (some ⟨b1, 0, none⟩), .pointer (some ⟨b2, 0, none⟩), .pointer (some ⟨b3, 0, none⟩), .pointer (some ⟨b4, 0, none⟩), .pointer (some ⟨b, 0, none⟩), u6, u7, u8, u9, u10, u11, t0, t1, t2, t3, t4, t5], []⟩ ∧
      InTold wx b b3 b4 fin rsv op true N len (.slice (some ⟨g, 0, none⟩) ls.length ls.length) ls L t0 t1 t2 t3 t4 t5 wy) (by kernel_rfl) ?_ ?_ ?_
    · exact ⟨undef, undef, undef, undef, undef, undef, rfl, ⟨(Kp.refl _ wx).drew, h3x, h4x, by simp, by simp, by simp, by simp, by simp, by simp, by simp, by simp⟩⟩
    · rintro L i o a wy ho hL hdep hcl ⟨t0, t1, t2, t3, t4, t5, rfl, hJ⟩ K hK
      have hbly := hbl.kp hJ.kp ⟨hb3, hb4⟩
      rcases (show i = 0 ∨ i = 1 ∨ i = 2 ∨ i = 3 ∨ i = 4 ∨ i = 5 ∨ i = 6 ∨ i = 7 ∨ 8 ≤ i by omega) with rfl | rfl | rfl | rfl | rfl | rfl | rfl | rfl | h8
      · refine wpOp_list ho ?_
        simp only [List.getElem?_toArray, List.getElem?_cons_zero, List.getElem?_cons_succ, Option.some.injEq] at ho
        subst ho
        clear hdep hcl hL
        go_wp2_with fail
        exact ⟨_, _, _, _, _, _, rfl, ⟨hJ.kp, hJ.nine, hJ.one, fun _ => rfl, hJ.i1, hJ.i2, hJ.i3, hJ.i4, hJ.i5, hJ.i6, hJ.i7⟩⟩
      · obtain rfl := hJ.i0 (hdep 0 (by kernel_rfl))
        obtain ⟨d0, d1, d2, d3, d4, d5, d6, d7, d8, d9⟩ := row10 hbly
        refine wpOp_list ho ?_
        simp only [List.getElem?_toArray, List.getElem?_cons_zero, List.getElem?_cons_succ, Option.some.injEq] at ho
        subst ho
        clear hdep hcl hL
        go_wp2_with fail
        exact ⟨_, _, _, _, _, _, rfl, ⟨hJ.kp, hJ.nine, hJ.one, hJ.i0, fun _ => rfl, hJ.i2, hJ.i3, hJ.i4, hJ.i5, hJ.i6, hJ.i7⟩⟩
      · obtain rfl := hJ.i1 (hdep 1 (by kernel_rfl))
        refine wpOp_list ho ?_
        simp only [List.getElem?_toArray, List.getElem?_cons_zero, List.getElem?_cons_succ, Option.some.injEq] at ho
        subst ho
        clear hdep hcl hL
        go_wp2_with fail
        refine (told_any wy fin rsv op true N len hr1 hr2).mono ?_
        rintro e w1 ⟨rfl, hk⟩
        have hJ1 := hJ.on hk
        go_wp2_with fail
        exact ⟨_, _, _, _, _, _, rfl, ⟨hJ1.kp, hJ1.nine, hJ1.one, hJ1.i0, hJ1.i1, fun _ => rfl, hJ1.i3, hJ1.i4, hJ1.i5, hJ1.i6, hJ1.i7⟩⟩
      · refine wpOp_list ho ?_
        simp only [List.getElem?_toArray, List.getElem?_cons_zero, List.getElem?_cons_succ, Option.some.injEq] at ho
        subst ho
        clear hdep hcl hL
        go_wp2_with fail
        exact ⟨_, _, _, _, _, _, rfl, ⟨hJ.kp, hJ.nine, hJ.one, hJ.i0, hJ.i1, hJ.i2, fun _ => rfl, hJ.i4, hJ.i5, hJ.i6, hJ.i7⟩⟩
      · obtain rfl := hJ.i3 (hdep 3 (by kernel_rfl))
        obtain ⟨d0, d1, d2, d3, d4, d5, d6, d7, d8, d9⟩ := row10 hbly
        refine wpOp_list ho ?_
        simp only [List.getElem?_toArray, List.getElem?_cons_zero, List.getElem?_cons_succ, Option.some.injEq] at ho
        subst ho
        clear hdep hcl hL
        go_wp2_with fail
        exact ⟨_, _, _, _, _, _, rfl, ⟨hJ.kp, hJ.nine, hJ.one, hJ.i0, hJ.i1, hJ.i2, hJ.i3, fun _ => rfl, hJ.i5, hJ.i6, hJ.i7⟩⟩
      · obtain rfl := hJ.i4 (hdep 4 (by kernel_rfl))
        have h7 : L 7 = false := by
          cases h : L 7 with
          | false => rfl
          | true => rw [hcl 7 5 (by kernel_rfl) h] at hL; cases hL
        have hrd : Rd wy wy.heap.size (some ⟨g, 0, none⟩) ls := Rd.of_byt (hB.kp hJ.kp hg.lt ⟨hg3, hg4⟩) (Nat.lt_of_lt_of_le hg.lt hJ.kp.size)
        refine wpOp_list ho ?_
        simp only [List.getElem?_toArray, List.getElem?_cons_zero, List.getElem?_cons_succ, Option.some.injEq] at ho
        subst ho
        clear hdep hcl hL
        go_wp2_with fail
        refine (copied_any wy _ _ ls.length ls hrd rfl hlx).mono ?_
        rintro e w1 ⟨g1, rest, rfl, hg1, hblk, hm, hk⟩
        have hJ1 := hJ.on hk
        have hs := hJ.kp.size
        go_wp2_with fail
        exact ⟨_, _, _, _, _, _, rfl, ⟨hJ1.kp, hJ1.nine, hJ1.one, hJ1.i0, hJ1.i1, hJ1.i2, hJ1.i3, hJ1.i4, fun _ => ⟨g1, _, _, rfl, hblk, Blk.byt (pre := []) rfl hblk, by omega⟩, hJ1.i6, fun h => absurd (h7.symm.trans h) (by decide)⟩⟩
      · obtain rfl := hJ.i2 (hdep 2 (by kernel_rfl))
        obtain ⟨g1, cap, cs, rfl, hb5, hB5, hlo5⟩ := hJ.i5 (hdep 5 (by kernel_rfl))
        have h7 : L 7 = false := by
          cases h : L 7 with
          | false => rfl
          | true => rw [hcl 7 6 (by kernel_rfl) h] at hL; cases hL
        obtain ⟨v0, v1, v2, v3, v4, v5, v6, v7, v8, h9⟩ := hJ.nine
        have hne34 := hJ.nine.ne1 hJ.one (by decide)
        have hne53 := hb5.ne_ h9 (by decide)
        obtain ⟨d0, d1, d2, d3, d4, d5, d6, d7, d8⟩ := row9 h9
        obtain ⟨f0, f1, f2, f3, f4, f5, f6, f7, f8⟩ := hJ.nine.frozen
        refine wpOp_list ho ?_
        simp only [List.getElem?_toArray, List.getElem?_cons_zero, List.getElem?_cons_succ, Option.some.injEq] at ho
        subst ho
        clear hdep hcl hL
        go_wp2_with fail
        exact ⟨_, _, _, _, _, _, rfl, ⟨put9_kp hJ.kp (fun _ h => h.1 rfl), hJ.nine.set, hJ.one.far9 (Ne.symm hne34), hJ.i0, hJ.i1, hJ.i2, hJ.i3, hJ.i4, fun _ => ⟨g1, cap, cs, rfl, put9_far hb5 hne53, put9_byt hB5 hne53, hlo5⟩, fun _ => hJ.nine.put, fun h => absurd (h7.symm.trans h) (by decide)⟩⟩
      · obtain ⟨g1, cap, cs, rfl, hb5, hB5, hlo5⟩ := hJ.i5 (hdep 5 (by kernel_rfl))
        have h6 := hJ.i6 (hdep 6 (by kernel_rfl))
        have hne34 := hJ.nine.ne1 hJ.one (by decide)
        obtain ⟨v, h1⟩ := hJ.one
        have hne54 := hb5.ne_ h1 (by decide)
        have d0 := h1.one
        have f0 := hJ.one.frozen
        refine wpOp_list ho ?_
        simp only [List.getElem?_toArray, List.getElem?_cons_zero, List.getElem?_cons_succ, Option.some.injEq] at ho
        subst ho
        clear hdep hcl hL
        go_wp2_with fail
        exact ⟨_, _, _, _, _, _, rfl, ⟨hJ.kp.setCell (p := ⟨b4, 0, none⟩) (fun _ h => h.2 rfl) _, hJ.nine.far (p := ⟨b4, 0, none⟩) hne34 _, hJ.one.set _, hJ.i0, hJ.i1, hJ.i2, hJ.i3, hJ.i4, fun _ => ⟨g1, cap, cs, rfl, hb5.far (p := ⟨b4, 0, none⟩) hne54 _, hB5.setCell (p := ⟨b4, 0, none⟩) hne54 _, hlo5⟩,
          fun _ => h6.far (p := ⟨b4, 0, none⟩) hne34 _, fun _ => hJ.one.put _⟩⟩
      · rw [Array.getElem?_eq_none (by exact h8)] at ho
        cases ho
    · rintro L a wy hall ⟨t0, t1, t2, t3, t4, t5, rfl, hJ⟩
      obtain ⟨g1, cap, cs, rfl, hb5, hB5, hlo5⟩ := hJ.i5 (hall 5 (by decide))
      have hls := unhide HL
      subst hls
      go_wp2
      go_end0
      have hs := hkt.size
      exact ⟨rfl, (hkt.mono fun _ _ _ => trivial).trans hJ.kp, hJ.i6 (hall 6 (by decide)), g1, cap, hJ.i7 (hall 7 (by decide)), by omega, Rd.of_byt hB5 hb5.lt⟩
def JT45 (b0 b1 : Nat) (u5 u6 u7 u8 u9 : Value) (w : World) (b b3 b4 : Nat) (fin : Bool) (rsv op : Int) (mk : Bool) (M : Nat → UInt8) (len : Int) (s : Value) (bs : List UInt8) (L : Nat → Bool) (a : Act) (wy : World) : Prop :=
  ∃ t0 t1 t2 t3 t4 t5, a = ⟨#[.pointer (some ⟨b0, 0, none⟩), .pointer (some ⟨b1, 0, none⟩), .pointer (some ⟨b3, 0, none⟩), .pointer (some ⟨b4, 0, none⟩), .pointer (some ⟨b, 0, none⟩), u5, u6, u7, u8, u9, t0, t1, t2, t3, t4, t5], []⟩ ∧
    InTold w b b3 b4 fin rsv op mk M len s bs L t0 t1 t2 t3 t4 t5 wy

set_option maxRecDepth 100000 in
set_option maxHeartbeats 400000 in
theorem c45 (w : World) (b0 b1 b3 b4 : Nat) (fin : Bool) (rsv op : Int) (mk : Bool) (M : Nat → UInt8) (len : Int) (A : Option Addr) (c : Nat) (bs : List UInt8) (hnm : bs.length ≤ 140737488355328) (hrem : Rem w)
    (hr1 : 0 ≤ rsv ∧ rsv ≤ 255) (hr2 : 0 ≤ op ∧ op ≤ 255)
    (h0 : Blk w b0 78 (wcells fin rsv op mk M len)) (h1 : Blk w b1 22 #[.slice A bs.length c]) (hr : Rd w w.heap.size A bs) (h3 : Nine w b3 29) (h4 : One w b4 22) :
    Calls Tryd.prog 45 #[.pointer (some ⟨b0, 0, none⟩), .pointer (some ⟨b1, 0, none⟩), .pointer (some ⟨b3, 0, none⟩), .pointer (some ⟨b4, 0, none⟩)] w fun e w' => e = .returned (.tuple #[]) ∧
      Kp (fun k => k ≠ b3 ∧ k ≠ b4) w w' ∧ ToldAt w.heap.size w' b3 b4 fin rsv op false (fun _ => 0) len (laid bs M 0) := by
  go_enter Tryd.func45, Tryd.ntmps45
  go_upto_region 0 with fail
  refine wp_region_inv' mixed (J45 w b0 b1 b3 b4 fin rsv op mk M len A c bs) (by kernel_rfl) ?_ ?_ ?_
  · exact ⟨undef, undef, undef, undef, undef, undef, rfl, ⟨(KT.refl w).drew, by simp, by simp, by simp, by simp, by simp, by simp, by simp⟩⟩
  · rintro L i o a wx ho hL hdep hcl ⟨u4, u5, u6, u7, u8, u9, rfl, hJ⟩ K hK
    have h7 : i ≠ 6 → i < 7 → L 6 = false := fun hi hi8 => by
      cases h : L 6 with
      | false => rfl
      | true =>
        have hd := hcl 6 i
        rcases (show i = 0 ∨ i = 1 ∨ i = 2 ∨ i = 3 ∨ i = 4 ∨ i = 5 by omega) with rfl | rfl | rfl | rfl | rfl | rfl <;> (rw [hd (by kernel_rfl) h] at hL; cases hL)
    rcases (show i = 0 ∨ i = 1 ∨ i = 2 ∨ i = 3 ∨ i = 4 ∨ i = 5 ∨ i = 6 ∨ 7 ≤ i by omega) with rfl | rfl | rfl | rfl | rfl | rfl | rfl | h8
    · obtain ⟨c0, c1, c2, c3, c4, c5, c6, c7, c8⟩ := row9 (h0.on hJ.kt)
      refine wpOp_list ho ?_
      simp only [List.getElem?_toArray, List.getElem?_cons_zero, List.getElem?_cons_succ, Option.some.injEq] at ho
      subst ho
      clear hdep hcl hL h7
      go_wp2_with fail
      exact ⟨_, _, _, _, _, _, rfl, ⟨hJ.kt, fun _ => rfl, hJ.i1, hJ.i2, hJ.i3, hJ.i4, hJ.i5, hJ.i6⟩⟩
    · have c9 := (h1.on hJ.kt).one
      refine wpOp_list ho ?_
      simp only [List.getElem?_toArray, List.getElem?_cons_zero, List.getElem?_cons_succ, Option.some.injEq] at ho
      subst ho
      clear hdep hcl hL h7
      go_wp2_with fail
      exact ⟨_, _, _, _, _, _, rfl, ⟨hJ.kt, hJ.i0, fun _ => rfl, hJ.i2, hJ.i3, hJ.i4, hJ.i5, hJ.i6⟩⟩
    · obtain rfl := hJ.i1 (hdep 1 (by kernel_rfl))
      have h7' := h7 (by omega) (by omega)
      refine wpOp_list ho ?_
      simp only [List.getElem?_toArray, List.getElem?_cons_zero, List.getElem?_cons_succ, Option.some.injEq] at ho
      subst ho
      clear hdep hcl hL h7
      go_wp2_with fail
      refine (copied_any wx A _ c bs (hr.on hJ.kt) rfl hnm).mono ?_
      rintro e w1 ⟨g, rest, rfl, hg, hblk, hm, hk⟩
      have hJ1 := hJ.on hk h7'
      go_wp2_with fail
      exact ⟨_, _, _, _, _, _, rfl, ⟨hJ1.kt, hJ1.i0, hJ1.i1, fun _ _ => ⟨g, _, rfl, Rd.of_blk hblk⟩, hJ1.i3, hJ1.i4, hJ1.i5, hJ1.i6⟩⟩
    · have h7' := h7 (by omega) (by omega)
      obtain rfl := hJ.i0 (hdep 0 (by kernel_rfl))
      obtain ⟨g, cap, rfl, hrg⟩ := hJ.i2 (hdep 2 (by kernel_rfl)) h7'
      refine wpOp_list ho ?_
      simp only [List.getElem?_toArray, List.getElem?_cons_zero, List.getElem?_cons_succ, Option.some.injEq] at ho
      subst ho
      clear hdep hcl hL h7
      go_wp2_with fail
      exact ⟨_, _, _, _, _, _, rfl, ⟨hJ.kt, hJ.i0, hJ.i1, hJ.i2, fun _ _ => ⟨_, rfl, g, cap, rfl, hrg⟩, hJ.i4, hJ.i5, hJ.i6⟩⟩
    · have h7' := h7 (by omega) (by omega)
      obtain ⟨v, rfl, g, cap, rfl, hrg⟩ := hJ.i3 (hdep 3 (by kernel_rfl)) h7'
      refine wpOp_list ho ?_
      simp only [List.getElem?_toArray, List.getElem?_cons_zero, List.getElem?_cons_succ, Option.some.injEq] at ho
      subst ho
      clear hdep hcl hL h7
      go_wp2_with fail
      refine (unmaskFrame wx fin rsv op mk M len _ cap bs hnm (hrem.on hJ.kt) hrg).mono ?_
      rintro e w1 ⟨g1, rfl, ⟨cs1, hb1⟩, hB1, hk1⟩
      have hJ1 := hJ.on hk1 h7'
      go_wp2_with fail
      exact ⟨_, _, _, _, _, _, rfl, ⟨hJ1.kt, hJ1.i0, hJ1.i1, hJ1.i2, hJ1.i3, fun _ _ => ⟨g1, cs1, rfl, hb1, hB1⟩, hJ1.i5, hJ1.i6⟩⟩
    · have h7' := h7 (by omega) (by omega)
      refine wpOp_list ho ?_
      simp only [List.getElem?_toArray, List.getElem?_cons_zero, List.getElem?_cons_succ, Option.some.injEq] at ho
      subst ho
      clear hdep hcl hL h7
      go_wp2_with fail
      have hJ1 := fun o => hJ.on ((KT.refl wx).alloc o) h7'
      exact ⟨_, _, _, _, _, _, rfl, ⟨(hJ1 _).kt, hJ.i0, hJ.i1, (hJ1 _).i2, (hJ1 _).i3, (hJ1 _).i4, fun _ _ => ⟨wx.heap.size, _, _, _, _, _, _, _, _, _, _, rfl, hJ.kt.size, Blk.new wx 82 _⟩, fun h => absurd (h7'.symm.trans h) (by decide)⟩⟩
    · obtain ⟨g, cs, rfl, hb, hB⟩ := hJ.i4 (hdep 4 (by kernel_rfl)) hL
      obtain ⟨b, v0, v1, v2, v3, v4, v5, v6, v7, v8, v9, rfl, hlo, hbl⟩ := hJ.i5 (hdep 5 (by kernel_rfl)) hL
      obtain ⟨f0, f1, f2, f3, f4, f5, f6, f7, f8, f9⟩ := free10 hbl
      obtain ⟨d0, d1, d2, d3, d4, d5, d6, d7, d8, d9⟩ := row10 hbl
      refine wpOp_list ho ?_
      simp only [List.getElem?_toArray, List.getElem?_cons_zero, List.getElem?_cons_succ, Option.some.injEq] at ho
      subst ho
      clear hdep hcl hL h7
      go_wp2_with fail
      refine ⟨_, _, _, _, _, _, rfl, ⟨put10_kp hJ.kt (fun h => absurd h (by omega)), hJ.i0, hJ.i1, by simp, by simp, by simp, by simp, fun _ => ⟨b, g, cs, rfl, ?_, ?_, ?_, put10_kp hJ.kt (fun h => absurd h (by omega)), hlo⟩⟩⟩
      · rw [laid_length]
        exact put10_blk hbl
      · exact put10_far hb (hb.ne_ hbl (by decide))
      · exact put10_byt hB (hb.ne_ hbl (by decide))
    · rw [Array.getElem?_eq_none (by exact h8)] at ho
      cases ho
  · rintro L a wx hall ⟨u4, u5, u6, u7, u8, u9, rfl, hJ⟩
    obtain ⟨b, g, cg, rfl, hbl, hg, hB, hkt, hlo⟩ := hJ.i6 (hall 6 (by decide))
    have h3x := h3.on hkt
    have h4x := h4.on hkt
    obtain ⟨hb3, hb4⟩ := frame_apart hbl h3x h4x
    obtain ⟨hg3, hg4⟩ := bytes_apart hg h3x h4x
    obtain ⟨ls, hls⟩ : ∃ ls, ls = laid bs M 0 := ⟨_, rfl⟩
    have hlx : ls.length ≤ 140737488355328 := by rw [hls, laid_length]; exact hnm
    rw [← hls] at hbl hB
    have HL := hide hls
    clear hls
    clear hJ hall h0 h1 h3 h4 hr hnm
    go_upto_region 1 with fail
    refine wp_region_inv' mixed (JT45 b0 b1 u5 u6 u7 u8 u9 wx b b3 b4 fin rsv op false (fun _ => 0) len (.slice (some ⟨g, 0, none⟩) ls.length ls.length) ls) (by kernel_rfl) ?_ ?_ ?_
    · exact ⟨undef, undef, undef, undef, undef, undef, rfl, ⟨(Kp.refl _ wx).drew, h3x, h4x, by simp, by simp, by simp, by simp, by simp, by simp, by simp, by simp⟩⟩
    · rintro L i o a wy ho hL hdep hcl ⟨t0, t1, t2, t3, t4, t5, rfl, hJ⟩ K hK
      have hbly := hbl.kp hJ.kp ⟨hb3, hb4⟩
      rcases (show i = 0 ∨ i = 1 ∨ i = 2 ∨ i = 3 ∨ i = 4 ∨ i = 5 ∨ i = 6 ∨ i = 7 ∨ 8 ≤ i by omega) with rfl | rfl | rfl | rfl | rfl | rfl | rfl | rfl | h8
      · refine wpOp_list ho ?_
        simp only [List.getElem?_toArray, List.getElem?_cons_zero, List.getElem?_cons_succ, Option.some.injEq] at ho
        subst ho
        clear hdep hcl hL
        go_wp2_with fail
        exact ⟨_, _, _, _, _, _, rfl, ⟨hJ.kp, hJ.nine, hJ.one, fun _ => rfl, hJ.i1, hJ.i2, hJ.i3, hJ.i4, hJ.i5, hJ.i6, hJ.i7⟩⟩
      · obtain rfl := hJ.i0 (hdep 0 (by kernel_rfl))
        obtain ⟨d0, d1, d2, d3, d4, d5, d6, d7, d8, d9⟩ := row10 hbly
        refine wpOp_list ho ?_
        simp only [List.getElem?_toArray, List.getElem?_cons_zero, List.getElem?_cons_succ, Option.some.injEq] at ho
        subst ho
        clear hdep hcl hL
        go_wp2_with fail
        exact ⟨_, _, _, _, _, _, rfl, ⟨hJ.kp, hJ.nine, hJ.one, hJ.i0, fun _ => rfl, hJ.i2, hJ.i3, hJ.i4, hJ.i5, hJ.i6, hJ.i7⟩⟩
      · obtain rfl := hJ.i1 (hdep 1 (by kernel_rfl))
        refine wpOp_list ho ?_
        simp only [List.getElem?_toArray, List.getElem?_cons_zero, List.getElem?_cons_succ, Option.some.injEq] at ho
        subst ho
        clear hdep hcl hL
        go_wp2_with fail
        refine (told_any wy fin rsv op false (fun _ => 0) len hr1 hr2).mono ?_
        rintro e w1 ⟨rfl, hk⟩
        have hJ1 := hJ.on hk
        go_wp2_with fail
        exact ⟨_, _, _, _, _, _, rfl, ⟨hJ1.kp, hJ1.nine, hJ1.one, hJ1.i0, hJ1.i1, fun _ => rfl, hJ1.i3, hJ1.i4, hJ1.i5, hJ1.i6, hJ1.i7⟩⟩
      · refine wpOp_list ho ?_
        simp only [List.getElem?_toArray, List.getElem?_cons_zero, List.getElem?_cons_succ, Option.some.injEq] at ho
        subst ho
        clear hdep hcl hL
        go_wp2_with fail
        exact ⟨_, _, _, _, _, _, rfl, ⟨hJ.kp, hJ.nine, hJ.one, hJ.i0, hJ.i1, hJ.i2, fun _ => rfl, hJ.i4, hJ.i5, hJ.i6, hJ.i7⟩⟩
      · obtain rfl := hJ.i3 (hdep 3 (by kernel_rfl))
        obtain ⟨d0, d1, d2, d3, d4, d5, d6, d7, d8, d9⟩ := row10 hbly
        refine wpOp_list ho ?_
        simp only [List.getElem?_toArray, List.getElem?_cons_zero, List.getElem?_cons_succ, Option.some.injEq] at ho
        subst ho
        clear hdep hcl hL
        go_wp2_with fail
        exact ⟨_, _, _, _, _, _, rfl, ⟨hJ.kp, hJ.nine, hJ.one, hJ.i0, hJ.i1, hJ.i2, hJ.i3, fun _ => rfl, hJ.i5, hJ.i6, hJ.i7⟩⟩
      · obtain rfl := hJ.i4 (hdep 4 (by kernel_rfl))
        have h7 : L 7 = false := by
          cases h : L 7 with
          | false => rfl
          | true => rw [hcl 7 5 (by kernel_rfl) h] at hL; cases hL
        have hrd : Rd wy wy.heap.size (some ⟨g, 0, none⟩) ls := Rd.of_byt (hB.kp hJ.kp hg.lt ⟨hg3, hg4⟩) (Nat.lt_of_lt_of_le hg.lt hJ.kp.size)
        refine wpOp_list ho ?_
        simp only [List.getElem?_toArray, List.getElem?_cons_zero, List.getElem?_cons_succ, Option.some.injEq] at ho
        subst ho
        clear hdep hcl hL
        go_wp2_with fail
        refine (copied_any wy _ _ ls.length ls hrd rfl hlx).mono ?_
        rintro e w1 ⟨g1, rest, rfl, hg1, hblk, hm, hk⟩
        have hJ1 := hJ.on hk
        have hs := hJ.kp.size
        go_wp2_with fail
        exact ⟨_, _, _, _, _, _, rfl, ⟨hJ1.kp, hJ1.nine, hJ1.one, hJ1.i0, hJ1.i1, hJ1.i2, hJ1.i3, hJ1.i4, fun _ => ⟨g1, _, _, rfl, hblk, Blk.byt (pre := []) rfl hblk, by omega⟩, hJ1.i6, fun h => absurd (h7.symm.trans h) (by decide)⟩⟩
      · obtain rfl := hJ.i2 (hdep 2 (by kernel_rfl))
        obtain ⟨g1, cap, cs, rfl, hb5, hB5, hlo5⟩ := hJ.i5 (hdep 5 (by kernel_rfl))
        have h7 : L 7 = false := by
          cases h : L 7 with
          | false => rfl
          | true => rw [hcl 7 6 (by kernel_rfl) h] at hL; cases hL
        obtain ⟨v0, v1, v2, v3, v4, v5, v6, v7, v8, h9⟩ := hJ.nine
        have hne34 := hJ.nine.ne1 hJ.one (by decide)
        have hne53 := hb5.ne_ h9 (by decide)
        obtain ⟨d0, d1, d2, d3, d4, d5, d6, d7, d8⟩ := row9 h9
        obtain ⟨f0, f1, f2, f3, f4, f5, f6, f7, f8⟩ := hJ.nine.frozen
        refine wpOp_list ho ?_
        simp only [List.getElem?_toArray, List.getElem?_cons_zero, List.getElem?_cons_succ, Option.some.injEq] at ho
        subst ho
        clear hdep hcl hL
        go_wp2_with fail
        exact ⟨_, _, _, _, _, _, rfl, ⟨put9_kp hJ.kp (fun _ h => h.1 rfl), hJ.nine.set, hJ.one.far9 (Ne.symm hne34), hJ.i0, hJ.i1, hJ.i2, hJ.i3, hJ.i4, fun _ => ⟨g1, cap, cs, rfl, put9_far hb5 hne53, put9_byt hB5 hne53, hlo5⟩, fun _ => hJ.nine.put, fun h => absurd (h7.symm.trans h) (by decide)⟩⟩
      · obtain ⟨g1, cap, cs, rfl, hb5, hB5, hlo5⟩ := hJ.i5 (hdep 5 (by kernel_rfl))
        have h6 := hJ.i6 (hdep 6 (by kernel_rfl))
        have hne34 := hJ.nine.ne1 hJ.one (by decide)
        obtain ⟨v, h1⟩ := hJ.one
        have hne54 := hb5.ne_ h1 (by decide)
        have d0 := h1.one
        have f0 := hJ.one.frozen
        refine wpOp_list ho ?_
        simp only [List.getElem?_toArray, List.getElem?_cons_zero, List.getElem?_cons_succ, Option.some.injEq] at ho
        subst ho
        clear hdep hcl hL
        go_wp2_with fail
        exact ⟨_, _, _, _, _, _, rfl, ⟨hJ.kp.setCell (p := ⟨b4, 0, none⟩) (fun _ h => h.2 rfl) _, hJ.nine.far (p := ⟨b4, 0, none⟩) hne34 _, hJ.one.set _, hJ.i0, hJ.i1, hJ.i2, hJ.i3, hJ.i4, fun _ => ⟨g1, cap, cs, rfl, hb5.far (p := ⟨b4, 0, none⟩) hne54 _, hB5.setCell (p := ⟨b4, 0, none⟩) hne54 _, hlo5⟩,
          fun _ => h6.far (p := ⟨b4, 0, none⟩) hne34 _, fun _ => hJ.one.put _⟩⟩
      · rw [Array.getElem?_eq_none (by exact h8)] at ho
        cases ho
    · rintro L a wy hall ⟨t0, t1, t2, t3, t4, t5, rfl, hJ⟩
      obtain ⟨g1, cap, cs, rfl, hb5, hB5, hlo5⟩ := hJ.i5 (hall 5 (by decide))
      have hls := unhide HL
      subst hls
      go_wp2
      go_end0
      have hs := hkt.size
      exact ⟨rfl, (hkt.mono fun _ _ _ => trivial).trans hJ.kp, hJ.i6 (hall 6 (by decide)), g1, cap, hJ.i7 (hall 7 (by decide)), by omega, Rd.of_byt hB5 hb5.lt⟩
end Go.Proofs.YtechapgchjdhaaaDoor
