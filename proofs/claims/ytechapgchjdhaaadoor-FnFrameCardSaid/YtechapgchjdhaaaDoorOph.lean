/- The arguments opened: a header of nine cells. -/
import Derived.Test.YtechapgchjdhaaaDoorOpe
import Derived.Test.YtechapgchjdhaaaDoorHdr
namespace Go.Proofs.YtechapgchjdhaaaDoor
open Go.ChangeShapes Go.WideShapes Go.ChangeAt Go.WideMaps Go.WideElems Go.RowKit

theorem cellsT4 : Tryd.prog.cellsOf 4 = 1 := by kernel_rfl
theorem cellsT3 : Tryd.prog.cellsOf 3 = 1 := by kernel_rfl
theorem cellsT2 : Tryd.prog.cellsOf 2 = 1 := by kernel_rfl
theorem cellsT29 : Tryd.prog.cellsOf 29 = 9 := by kernel_rfl

section
variable {H : Type} {enc : TypeId × Value → H} {W : World} {v : Value} {d : DataW H} {p : List MemPlace}

theorem mask_cells {fuel : Nat} {a b c e : Value} {x : DataW H × List MemPlace} (hf : DataW.trod enc Tryd.prog W 0 (fun _ => true) true fuel 23 [a, b, c, e] = some x) : ∃ M : Nat → UInt8, a = bv (M 0) ∧ b = bv (M 1) ∧ c = bv (M 2) ∧ e = bv (M 3) := by
  obtain ⟨xs, m, rfl, _, _, hn, hel⟩ := DataW.trod_array Tryd.underlying23 hf
  rw [cells5] at hel
  have hb : ∀ i, i < 4 → ∃ b' : UInt8, [a, b, c, e][i]? = some (bv b') := by
    intro i hi
    have := hel i hi
    rw [List.getElem?_eq_getElem (by omega)] at this
    obtain ⟨z, hz, _, hw⟩ := DataW.trod_int Tryd.underlying5 this
    have h1 : [a, b, c, e][i]? = some (.int .u8 z) := by
      have := congrArg (·[0]?) hz
      simpa [List.getElem?_take, List.getElem?_drop] using this
    exact ⟨UInt8.ofNat z.toNat, by rw [← byte_of hw]; exact h1⟩
  obtain ⟨b0, h0⟩ := hb 0 (by omega)
  obtain ⟨b1, h1⟩ := hb 1 (by omega)
  obtain ⟨b2, h2⟩ := hb 2 (by omega)
  obtain ⟨b3, h3⟩ := hb 3 (by omega)
  exact ⟨fun i => if i = 0 then b0 else if i = 1 then b1 else if i = 2 then b2 else b3, by simpa using h0, by simpa using h1, by simpa using h2, by simpa using h3⟩

set_option maxRecDepth 100000 in
theorem open_hdr {base : Nat} {r : Reach} (hv : Value.okWide Tryd.prog W r base 29 v) (h : DataW.Trod enc Tryd.prog W 0 (fun _ => true) true 29 v d p) : ∃ fin rsv op mk M len, v = hval fin rsv op mk M len := by
  obtain ⟨cs, rfl, hsz⟩ := okWide_struct Tryd.underlying29 hv
  obtain ⟨fuel, hf⟩ := h
  obtain ⟨xs, n, _, _, hl, hlen, hel⟩ := DataW.trod_struct Tryd.underlying29 hf
  have hcs : (Value.cells (.agg cs)).toList = cs.toList := rfl
  rw [hcs] at hl hel
  rw [cellsT29] at hl
  obtain ⟨L, hL⟩ : ∃ L, L = cs.toList := ⟨_, rfl⟩
  rw [← hL] at hl hel
  have hcs' : cs = L.toArray := by rw [hL, Array.toArray_toList]
  clear hL hcs hf hv hsz
  match L, hl with
  | [a0, a1, a2, a3, a4, a5, a6, a7, a8], _ =>
    have hx : ∀ i, i < 6 → ∃ y, xs[i]? = some y := fun i hi => ⟨_, List.getElem?_eq_getElem (by rw [hlen]; exact hi)⟩
    obtain ⟨y0, e0⟩ := hx 0 (by omega)
    obtain ⟨y1, e1⟩ := hx 1 (by omega)
    obtain ⟨y2, e2⟩ := hx 2 (by omega)
    obtain ⟨y3, e3⟩ := hx 3 (by omega)
    obtain ⟨y4, e4⟩ := hx 4 (by omega)
    obtain ⟨y5, e5⟩ := hx 5 (by omega)
    have h0 := hel 0 _ rfl
    have h1 := hel 1 _ rfl
    have h2 := hel 2 _ rfl
    have h3 := hel 3 _ rfl
    have h4 := hel 4 _ rfl
    have h5 := hel 5 _ rfl
    simp only [cellsT4, cellsT3, cellsT2, cells23, e0, e1, e2, e3, e4, e5, List.drop_succ_cons, List.drop_zero, List.take_succ_cons, List.take_zero] at h0 h1 h2 h3 h4 h5
    obtain ⟨fin, q0, _⟩ := DataW.trod_bool Tryd.underlying4 h0
    obtain ⟨rsv, q1, _, _⟩ := DataW.trod_int Tryd.underlying3 h1
    obtain ⟨op, q2, _, _⟩ := DataW.trod_int Tryd.underlying3 h2
    obtain ⟨mk, q3, _⟩ := DataW.trod_bool Tryd.underlying4 h3
    obtain ⟨M, m0, m1, m2, m3⟩ := mask_cells h4
    obtain ⟨len, q5, _, _⟩ := DataW.trod_int Tryd.underlying2 h5
    injection q0 with q0
    injection q1 with q1
    injection q2 with q2
    injection q3 with q3
    injection q5 with q5
    subst q0 q1 q2 q3 q5 m0 m1 m2 m3
    exact ⟨fin, rsv, op, mk, M, len, by rw [hcs']⟩
end

theorem trodAll_five {H : Type} {enc : TypeId × Value → H} {P : Program} {w : World} {base : Nat} {spare : Nat → Bool} {held : Bool} {t t1 t2 t3 t4 : TypeId} {args : Array Value} {ds : List (DataW H)} {ps : List MemPlace} (h : DataW.TrodAll enc P w base spare held [t, t1, t2, t3, t4] args.toList ds ps) :
    ∃ v v1 v2 v3 v4 d d1 d2 d3 d4 p p1 p2 p3 p4, args = #[v, v1, v2, v3, v4] ∧ ds = [d, d1, d2, d3, d4] ∧ ps = p ++ p1 ++ p2 ++ p3 ++ p4 ∧ DataW.Trod enc P w base spare held t v d p ∧ DataW.Trod enc P w base spare held t1 v1 d1 p1 ∧ DataW.Trod enc P w base spare held t2 v2 d2 p2 ∧ DataW.Trod enc P w base spare held t3 v3 d3 p3 ∧ DataW.Trod enc P w base spare held t4 v4 d4 p4 := by
  obtain ⟨v, vs, d, ds', p, q, hargs, rfl, rfl, hd, hrest⟩ := trodAll_cons h
  obtain ⟨v1, vs1, d1, ds1, p1, q1, rfl, rfl, rfl, hd1, hrest1⟩ := trodAll_cons hrest
  obtain ⟨v2, vs2, d2, ds2, p2, q2, rfl, rfl, rfl, hd2, hrest2⟩ := trodAll_cons hrest1
  obtain ⟨v3, vs3, d3, ds3, p3, q3, rfl, rfl, rfl, hd3, hrest3⟩ := trodAll_cons hrest2
  obtain ⟨v4, vs4, d4, ds4, p4, q4, rfl, rfl, rfl, hd4, hrest4⟩ := trodAll_cons hrest3
  obtain ⟨rfl, rfl, rfl⟩ := trodAll_nil hrest4
  exact ⟨v, v1, v2, v3, v4, d, d1, d2, d3, d4, p, p1, p2, p3, p4, by cases args; simp_all, rfl, by simp, hd, hd1, hd2, hd3, hd4⟩
end Go.Proofs.YtechapgchjdhaaaDoor
