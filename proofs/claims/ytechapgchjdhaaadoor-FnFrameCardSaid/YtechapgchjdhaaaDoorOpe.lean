/- The arguments opened: a slice of bytes, a mask of four bytes, an int. -/
import Derived.Test.YtechapgchjdhaaaDoorLaw
namespace Go.Proofs.YtechapgchjdhaaaDoor
open Go.ChangeShapes Go.WideShapes Go.ChangeAt Go.WideMaps Go.WideElems Go.RowKit

theorem cells5 : Tryd.prog.cellsOf 5 = 1 := by kernel_rfl
theorem cells23 : Tryd.prog.cellsOf 23 = 4 := by kernel_rfl

section
variable {H : Type} {enc : TypeId × Value → H} {W : World} {v : Value} {d : DataW H} {p : List MemPlace}

theorem byte_of {z : Int} (h : (Lit.int .u8 z).wf = true) : Value.int .u8 z = bv (UInt8.ofNat z.toNat) := by
  have hb := bounds_u8 h
  have : ((UInt8.ofNat z.toNat).toNat : Int) = z := by
    rw [UInt8.toNat_ofNat']
    omega
  show Value.int .u8 z = Value.int .u8 _
  rw [this]

set_option maxRecDepth 100000 in
theorem open_bytes {base : Nat} {r : Reach} (hv : Value.okWide Tryd.prog W r base 22 v) (h : DataW.Trod enc Tryd.prog W 0 (fun _ => true) true 22 v d p) :
    ∃ A c bs, v = .slice A (List.length bs) c ∧ Rd W W.heap.size A bs ∧ bs.length ≤ c ∧ c ≤ maxLen := by
  obtain ⟨a0, len, cap, rfl⟩ := okWide_slice Tryd.underlying22 hv
  obtain ⟨fuel, hf⟩ := h
  rcases open_ints Tryd.underlying22 Tryd.underlying5 cells5 hf with ⟨hcs, hx⟩ | ⟨a, len', cap', zs, hcs, _, hl, hm, hz, hx, hcell, hwz⟩
  · simp [Value.cells] at hcs
    obtain ⟨rfl, rfl, rfl⟩ := hcs
    exact ⟨none, 0, [], rfl, Rd.nil, Nat.le_refl _, Nat.zero_le _⟩
  · simp [Value.cells] at hcs
    obtain ⟨rfl, rfl, rfl⟩ := hcs
    simp only [if_true] at hz
    refine ⟨some a, cap, (zs.take len).map fun z => UInt8.ofNat z.toNat, ?_, ?_, by simp; omega, hm⟩
    · congr 1
      simp; omega
    · intro hne
      have hpos : 0 < len := by
        rcases Nat.eq_zero_or_pos len with h | h
        · subst h; simp at hne
        · exact h
      obtain ⟨b, off, rfl, hc⟩ := ints_at hcell (by omega)
      have hb : Byt W b off ((zs.take len).map fun z => UInt8.ofNat z.toNat) := by
        intro i hi
        have hi' : i < len ∧ i < zs.length := by simp at hi; omega
        rw [hc i hi'.2]
        simp only [List.getElem_map, List.getElem_take]
        rw [← byte_of (hwz _ (List.getElem_mem hi'.2))]
        simp [List.getD, List.getElem?_eq_getElem hi'.2]
      exact ⟨b, off, rfl, hb.lt hne, hb⟩

set_option maxRecDepth 100000 in
theorem open_mask {base : Nat} {r : Reach} (hv : Value.okWide Tryd.prog W r base 23 v) (h : DataW.Trod enc Tryd.prog W 0 (fun _ => true) true 23 v d p) : ∃ M, v = mval M := by
  simp only [Value.okWide, Tryd.underlying23] at hv
  obtain ⟨cs, rfl, hsz, _⟩ := hv
  rw [cells23] at hsz
  obtain ⟨fuel, hf⟩ := h
  obtain ⟨xs, m, rfl, _, hl, hn, hel⟩ := DataW.trod_array Tryd.underlying23 hf
  rw [cells5] at hel
  have hb : ∀ i, i < 4 → ∃ b : UInt8, cs[i]? = some (bv b) := by
    intro i hi
    have := hel i hi
    rw [List.getElem?_eq_getElem (by omega)] at this
    obtain ⟨z, hz, _, hw⟩ := DataW.trod_int Tryd.underlying5 this
    have h1 : (Value.cells (.agg cs)).toList[i]? = some (.int .u8 z) := by
      have := congrArg (·[0]?) hz
      simpa [List.getElem?_take, List.getElem?_drop] using this
    refine ⟨UInt8.ofNat z.toNat, ?_⟩
    rw [← byte_of hw]
    simpa [Value.cells] using h1
  obtain ⟨b0, h0⟩ := hb 0 (by omega)
  obtain ⟨b1, h1⟩ := hb 1 (by omega)
  obtain ⟨b2, h2⟩ := hb 2 (by omega)
  obtain ⟨b3, h3⟩ := hb 3 (by omega)
  refine ⟨fun i => if i = 0 then b0 else if i = 1 then b1 else if i = 2 then b2 else b3, ?_⟩
  congr 1
  apply Array.ext_getElem?
  intro i
  match i with
  | 0 => simpa using h0
  | 1 => simpa using h1
  | 2 => simpa using h2
  | 3 => simpa using h3
  | i + 4 => rw [Array.getElem?_eq_none (by omega)]; simp
end
end Go.Proofs.YtechapgchjdhaaaDoor
