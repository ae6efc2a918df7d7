/- A header that came in, its mask no more than four bytes. -/
import Derived.Test.YtechapgchjdhaaaDoorOpl
namespace Go.Proofs.YtechapgchjdhaaaDoor
open Go.ChangeShapes Go.WideShapes Go.ChangeAt Go.WideMaps Go.WideElems Go.RowKit

set_option maxRecDepth 100000 in
theorem open_hdr4 {H : Type} {enc : TypeId × Value → H} {W : World} {v : Value} {d : DataW H} {p : List MemPlace} {base : Nat} {r : Reach} (hv : Value.okWide Tryd.prog W r base 29 v) (h : DataW.Trod enc Tryd.prog W 0 (fun _ => true) true 29 v d p) :
    ∃ fin rsv op mk M len, (∀ i, 4 ≤ i → M i = 0) ∧ v = hval fin rsv op mk M len := by
  obtain ⟨fin, rsv, op, mk, M, len, rfl⟩ := open_hdr hv h
  exact ⟨fin, rsv, op, mk, fun i => if i < 4 then M i else 0, len, fun i hi => if_neg (by omega), rfl⟩
end Go.Proofs.YtechapgchjdhaaaDoor
