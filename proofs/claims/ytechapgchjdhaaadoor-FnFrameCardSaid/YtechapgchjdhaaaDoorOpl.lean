/- The length of a header that came in: a number of 64 bits. -/
import Derived.Test.YtechapgchjdhaaaDoorOph
namespace Go.Proofs.YtechapgchjdhaaaDoor
open Go.ChangeShapes Go.WideShapes Go.ChangeAt Go.WideMaps Go.WideElems Go.RowKit

set_option maxRecDepth 100000 in
theorem hdr_len {H : Type} {enc : TypeId × Value → H} {W : World} {d : DataW H} {p : List MemPlace} {fin : Bool} {rsv op : Int} {mk : Bool} {M : Nat → UInt8} {len : Int}
    (h : DataW.Trod enc Tryd.prog W 0 (fun _ => true) true 29 (hval fin rsv op mk M len) d p) : len ≤ 9223372036854775807 := by
  obtain ⟨fuel, hf⟩ := h
  obtain ⟨xs, n, _, _, _, hlen, hel⟩ := DataW.trod_struct Tryd.underlying29 hf
  obtain ⟨y5, e5⟩ : ∃ y, xs[5]? = some y := ⟨_, List.getElem?_eq_getElem (by rw [hlen]; decide)⟩
  have h5 : DataW.trod enc Tryd.prog W 0 (fun _ => true) true n 2 (List.take (Tryd.prog.cellsOf 2) [Value.int .i64 len]) = xs[5]? := hel 5 _ rfl
  rw [e5, cellsT2, List.take_of_length_le (by simp)] at h5
  obtain ⟨z, q5, _, hw⟩ := DataW.trod_int Tryd.underlying2 h5
  have hq : ([Value.int .i64 len] : List Value) = [.int .i64 z] := q5
  injection hq with hq
  injection hq with _ hq
  subst hq
  exact (bounds_i64 hw).2

theorem trodAll_one {H : Type} {enc : TypeId × Value → H} {P : Program} {w : World} {base : Nat} {spare : Nat → Bool} {held : Bool} {t : TypeId} {args : Array Value} {ds : List (DataW H)} {ps : List MemPlace} (h : DataW.TrodAll enc P w base spare held [t] args.toList ds ps) :
    ∃ v d, args = #[v] ∧ ds = [d] ∧ DataW.Trod enc P w base spare held t v d ps := by
  obtain ⟨v, vs, d, ds', p, q, hargs, rfl, rfl, hd, hrest⟩ := trodAll_cons h
  obtain ⟨rfl, rfl, rfl⟩ := trodAll_nil hrest
  exact ⟨v, d, by cases args; simp_all, rfl, by rw [List.append_nil]; exact hd⟩
end Go.Proofs.YtechapgchjdhaaaDoor
