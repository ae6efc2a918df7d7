/- Words for memory: what blocks a call leaves alone, bytes that lie in memory, and the laws by which they are kept. -/
import Derived.Test.YtechapgchjdhaaaDoorChecked
import Derived.Test.YtechapgchjdhaaaDoorNum
import Derived.WalkKit
import Derived.Handy
import Derived.WalkSpells
import Derived.WalkLawsBesides
import Derived.Laws.CopyOwn
import Derived.Laws.AppendOwnNone
import Derived.Deep.Draws
import Derived.BigQuiet
import Derived.Deep.QuietTactic
import Derived.Deep.RegionWith
import Derived.Deep.DeepFit
namespace Go.Proofs.YtechapgchjdhaaaDoor
open Go.RowKit

/-- A byte as a cell holds it. -/
abbrev bv (b : UInt8) : Value := .int .u8 (b.toNat : Int)

/-- What a call leaves: the streams, the number of blocks does not shrink, and each block that was there and is in S holds what it held. -/
structure Kp (S : Nat → Prop) (w w' : World) : Prop where
  os : w'.os = w.os
  tape : w'.tape = w.tape
  output : w'.output = w.output
  size : w.heap.size ≤ w'.heap.size
  block : ∀ k, k < w.heap.size → S k → w'.heap[k]? = w.heap[k]?

section
variable {S T : Nat → Prop} {w w' w'' : World}
theorem Kp.refl (S : Nat → Prop) (w : World) : Kp S w w := ⟨rfl, rfl, rfl, Nat.le_refl _, fun _ _ _ => rfl⟩
theorem Kp.trans (h : Kp S w w') (k : Kp S w' w'') : Kp S w w'' :=
  ⟨k.os.trans h.os, k.tape.trans h.tape, k.output.trans h.output, Nat.le_trans h.size k.size, fun i hi hs => (k.block i (Nat.lt_of_lt_of_le hi h.size) hs).trans (h.block i hi hs)⟩
theorem Kp.mono (h : Kp S w w') (hs : ∀ k, k < w.heap.size → T k → S k) : Kp T w w' := ⟨h.os, h.tape, h.output, h.size, fun k hk ht => h.block k hk (hs k hk ht)⟩
/-- The second step may write blocks that the first one made. -/
theorem Kp.then_ (h : Kp S w w') (k : Kp T w' w'') (hs : ∀ i, i < w.heap.size → S i → T i) : Kp S w w'' :=
  ⟨k.os.trans h.os, k.tape.trans h.tape, k.output.trans h.output, Nat.le_trans h.size k.size, fun i hi hi2 => (k.block i (Nat.lt_of_lt_of_le hi h.size) (hs i hi hi2)).trans (h.block i hi hi2)⟩
theorem Kp.alloc (h : Kp S w w') (o : Obj) : Kp S w (w'.alloc o) := h.trans ⟨rfl, rfl, rfl, by simp, fun k hk _ => Below.heap_alloc w' o k hk⟩
theorem Kp.drew (h : Kp S w w') : Kp S w w'.drew := ⟨h.os, h.tape, h.output, h.size, h.block⟩
theorem Kp.drewN (h : Kp S w w') (n : Nat) : Kp S w (w'.drewN n) := ⟨h.os, h.tape, h.output, h.size, h.block⟩
theorem Kp.setCell (h : Kp S w w') {p : Addr} (hp : p.block < w.heap.size → ¬ S p.block) (u : Value) : Kp S w (w'.setCell p u) :=
  ⟨h.os, h.tape, h.output, by simpa using h.size, fun k hk hs => (heap_setCell_other w' p k u (fun e => hp (e ▸ hk) (e ▸ hs))).trans (h.block k hk hs)⟩
theorem Kp.grown {row : Option Nat} (h : Kp S w w') (hg : w'.grownBy w'' row) (hr : ∀ g, row = some g → g < w.heap.size → ¬ S g) : Kp S w w'' :=
  ⟨hg.os.trans h.os, hg.tape.trans h.tape, hg.output.trans h.output, Nat.le_trans h.size hg.size,
   fun k hk hs => (hg.block k (Nat.lt_of_lt_of_le hk h.size) (fun e => hr k e.symm hk hs)).trans (h.block k hk hs)⟩
theorem Kp.cell (h : Kp S w w') {p : Addr} (hp : p.block < w.heap.size) (hs : S p.block) : w'.cell? p = w.cell? p := World.cell?_of_block (w := w) (h.block p.block hp hs)
theorem Kp.frozen (h : Kp S w w') {p : Addr} (hp : p.block < w.heap.size) (hs : S p.block) : w'.frozen? p = w.frozen? p := World.frozen?_of_block (w := w) (h.block p.block hp hs)
theorem Kp.below (h : Kp (fun _ => True) w w') : Below w.heap.size w w' := ⟨h.os, h.tape, h.output, h.size, fun k hk => h.block k hk trivial⟩
theorem Kp.of_below (h : Below w.heap.size w w') : Kp S w w' := ⟨h.os, h.tape, h.output, h.size, fun k hk _ => h.block k hk⟩
end

/-- Block g is just these cells, and may be written. -/
def Blk (w : World) (g : Nat) (t : TypeId) (cs : Array Value) : Prop := w.heap[g]? = some (.cells cs t (0, 0))
section
variable {S : Nat → Prop} {w w' : World} {g : Nat} {t : TypeId} {cs : Array Value}
theorem Blk.lt (h : Blk w g t cs) : g < w.heap.size := (Array.getElem?_eq_some_iff.1 h).1
theorem Blk.cell (h : Blk w g t cs) (i : Nat) : w.cell? ⟨g, i, none⟩ = cs[i]? := cell_of_row w g i cs t (0, 0) h
theorem Blk.frozen (h : Blk w g t cs) (i : Nat) : w.frozen? ⟨g, i, none⟩ = false := frozen_of_row w g i cs t h
theorem Blk.new (w : World) (t : TypeId) (cs : Array Value) : Blk (w.alloc (.cells cs t)) w.heap.size t cs := heap_alloc_new w _
theorem Blk.alloc (h : Blk w g t cs) (o : Obj) : Blk (w.alloc o) g t cs := (Below.heap_alloc w o g h.lt).trans h
theorem Blk.drew (h : Blk w g t cs) : Blk w.drew g t cs := h
theorem Blk.drewN (h : Blk w g t cs) (n : Nat) : Blk (w.drewN n) g t cs := h
theorem Blk.set_ (h : Blk w g t cs) (i : Nat) (u : Value) : Blk (w.setCell ⟨g, i, none⟩ u) g t (cs.setIfInBounds i u) := heap_setCell_same w g i cs t u h
theorem Blk.far (h : Blk w g t cs) {p : Addr} (hp : g ≠ p.block) (u : Value) : Blk (w.setCell p u) g t cs := (heap_setCell_other w p g u hp).trans h
theorem Blk.one {v : Value} (h : Blk w g t #[v]) : w.cell? ⟨g, 0, none⟩ = some v := h.cell 0
theorem Blk.at_ (h : Blk w g t cs) (i : Nat) {v : Value} (hv : cs[i]? = some v) : w.cell? ⟨g, i, none⟩ = some v := (h.cell i).trans hv
theorem Blk.new2 (w : World) (o : Obj) (t : TypeId) (cs : Array Value) : Blk ((w.alloc o).alloc (.cells cs t)) (w.heap.size + 1) t cs := by
  have := Blk.new (w.alloc o) t cs
  rwa [World.size_alloc] at this
theorem Blk.kp (h : Blk w g t cs) (hk : Kp S w w') (hs : S g) : Blk w' g t cs := (hk.block g h.lt hs).trans h
end

/-- From ⟨g, off⟩ on lie these bytes. -/
def Byt (w : World) (g off : Nat) (bs : List UInt8) : Prop := ∀ i (h : i < bs.length), w.cell? ⟨g, off + i, none⟩ = some (bv bs[i])
/-- The slice value that begins at A reads as these bytes (nil and empty let in); it lies below block B. -/
def Rd (w : World) (B : Nat) (A : Option Addr) (bs : List UInt8) : Prop := bs ≠ [] → ∃ g off, A = some ⟨g, off, none⟩ ∧ g < B ∧ Byt w g off bs
section
variable {S : Nat → Prop} {w w' : World} {g off B : Nat} {bs : List UInt8} {A : Option Addr}
theorem Byt.kp (h : Byt w g off bs) (hk : Kp S w w') (hg : g < w.heap.size) (hs : S g) : Byt w' g off bs := fun i hi => (hk.cell (p := ⟨g, off + i, none⟩) hg hs).trans (h i hi)
theorem Byt.of_cell (h : ∀ i, w'.cell? ⟨g, i, none⟩ = w.cell? ⟨g, i, none⟩) (hb : Byt w g off bs) : Byt w' g off bs := fun i hi => (h _).trans (hb i hi)
theorem Byt.alloc (h : Byt w g off bs) (hg : g < w.heap.size) (o : Obj) : Byt (w.alloc o) g off bs := fun i hi => (World.cell?_alloc_lt w o ⟨g, off + i, none⟩ hg).trans (h i hi)
theorem Byt.setCell (h : Byt w g off bs) {p : Addr} (hp : g ≠ p.block) (u : Value) : Byt (w.setCell p u) g off bs := fun i hi => (World.cell?_setCell_other w p ⟨g, off + i, none⟩ u (fun e => hp (by rw [e]))).trans (h i hi)
theorem Byt.drew (h : Byt w g off bs) : Byt w.drew g off bs := h
theorem Byt.drewN (h : Byt w g off bs) (n : Nat) : Byt (w.drewN n) g off bs := h
theorem Byt.nil : Byt w g off [] := fun i hi => by simp at hi
theorem Byt.lt (h : Byt w g off bs) (hne : bs ≠ []) : g < w.heap.size := by
  have := h 0 (List.length_pos_iff.2 hne)
  exact World.block_lt_of_cell? w _ this
theorem Rd.nil : Rd w B A [] := fun h => absurd rfl h
theorem Rd.of_byt (h : Byt w g off bs) (hg : g < B) : Rd w B (some ⟨g, off, none⟩) bs := fun _ => ⟨g, off, rfl, hg, h⟩
theorem Rd.kp (h : Rd w B A bs) (hk : Kp S w w') (hB : B ≤ w.heap.size) (hs : ∀ g, g < B → S g) : Rd w' B A bs := fun hne => by
  obtain ⟨g, off, e, hg, hb⟩ := h hne
  exact ⟨g, off, e, hg, hb.kp hk (by omega) (hs g hg)⟩
theorem Rd.mono {B' : Nat} (h : Rd w B A bs) (hB : B ≤ B') : Rd w B' A bs := fun hne => by
  obtain ⟨g, off, e, hg, hb⟩ := h hne
  exact ⟨g, off, e, by omega, hb⟩
theorem Rd.alloc (h : Rd w B A bs) (hB : B ≤ w.heap.size) (o : Obj) : Rd (w.alloc o) B A bs := fun hne => by
  obtain ⟨g, off, e, hg, hb⟩ := h hne
  exact ⟨g, off, e, hg, hb.alloc (by omega) o⟩
theorem Rd.drew (h : Rd w B A bs) : Rd w.drew B A bs := h
theorem Rd.drewN (h : Rd w B A bs) (n : Nat) : Rd (w.drewN n) B A bs := h
theorem Rd.setCell (h : Rd w B A bs) {p : Addr} (hp : B ≤ p.block) (u : Value) : Rd (w.setCell p u) B A bs := fun hne => by
  obtain ⟨g, off, e, hg, hb⟩ := h hne
  exact ⟨g, off, e, hg, hb.setCell (by omega) u⟩
end
theorem Blk.byt {w : World} {g : Nat} {t : TypeId} {bs : List UInt8} {rest : List Value} {off : Nat} {pre : List Value} (hp : pre.length = off) (h : Blk w g t (pre ++ (bs.map bv ++ rest)).toArray) : Byt w g off bs := fun i hi => by
  rw [h.cell]
  simp only [List.getElem?_toArray]
  rw [List.getElem?_append_right (by omega), show off + i - pre.length = i from by omega, List.getElem?_append_left (by simpa using hi)]
  simp [List.getElem?_map, List.getElem?_eq_getElem hi]

/-- string(b) of a slice that reads as bytes. -/
theorem run_string_of {P : Program} {w : World} {B : Nat} {A : Option Addr} {bs : List UInt8} (src e dst : TypeId) (hs : P.underlying src = some (.slice e)) (he : P.underlying e = some (.int .u8)) (hd : P.underlying dst = some .string)
    (h : Rd w B A bs) (n cap : Nat) (hn : n = bs.length) : (convert src dst (.slice A n cap)).run P w = .ok (.string ⟨bs.toArray⟩) w := by
  subst hn
  by_cases hne : bs = []
  · subst hne
    cases A with
    | none => exact run_convert_bytes_nil w src e hs he _ _ dst hd
    | some a =>
      rw [run_convert_bytes_string w src dst e _ _ cap hs he hd]
      have := run_bytesToString (P := P) w a 0 cap [] (by simp [loadCells, loadCellsFrom])
      exact this.trans rfl
  · obtain ⟨g, off, rfl, _, hb⟩ := h hne
    have := run_convert_bytes_arg (P := P) w src e hs he g off bs.length cap (bs.map fun b => (b.toNat : Int)) (by simp) (fun i hi => by
      rw [hb i hi]; simp [List.getD, List.getElem?_eq_getElem hi]) dst hd
    rw [this]
    congr 2
    simp [strOfNums, Function.comp_def]
end Go.Proofs.YtechapgchjdhaaaDoor
