/- spec.Fine: the walk. -/
import Derived.Test.YtechapgchjdhaaaDoorChk
namespace Go.Proofs.YtechapgchjdhaaaDoor
open Go.RowKit

theorem resB_eq (op : Int) (h : 0 ≤ op ∧ op < 16) : resB op = ((decide (2 < op) && decide (op < 8)) || decide (10 < op)) := by
  rcases op_cases h with rfl | rfl | rfl | rfl | rfl | rfl | rfl | rfl | rfl | rfl | rfl | rfl | rfl | rfl | rfl | rfl <;> rfl

def TruthIs (w w' : World) (b : Bool) (e : Ending) : Prop := e = .returned (.bool b) ∧ KT w w'
theorem truth_of {w w' : World} {a b : Bool} (h : b = a) (hk : KT w w') : TruthIs w w' b (.returned (.bool a)) := ⟨by rw [h], hk⟩

set_option maxRecDepth 100000 in
set_option maxHeartbeats 8000000 in
theorem fine_any (w : World) (fin : Bool) (rsv op : Int) (mk : Bool) (M : Nat → UInt8) (len : Int) (s c e f : Bool) (h : 0 ≤ op ∧ op < 16) :
    Calls Tryd.prog 24 #[hval fin rsv op mk M len, .bool s, .bool c, .bool e, .bool f] w fun r w' => TruthIs w w' (fineB fin rsv op mk len s c e f) r := by
  have hres := resB_eq op h
  have HR := hide hres
  clear hres
  go_enter Tryd.func24, Tryd.ntmps24
  go_wp2_with fail
  all_goals go_ret
  all_goals (refine truth_of ?_ ((KT.refl _).alloc _))
  all_goals unfold fineB
  all_goals first | rw [unhide HR] | unfold resB
  all_goals clear HR
  all_goals (try simp only [Bool.not_eq_true', Bool.not_eq_false', bne_iff_ne, ne_eq, beq_iff_eq, Bool.not_eq_true, bne_eq_false_iff_eq, beq_eq_false_iff_ne, decide_eq_false_iff_not, Int.not_le] at *)
  all_goals first
    | (simp [*]; done)
    | (simp [*]; (try intros); omega)
    | (simp_all; done)
    | (simp_all; omega)
    | (have h2 : 125 < len ∨ fin = false := by assumption
       have h1 : fin = false := by
         rcases h2 with h2 | h2
         · exfalso; omega
         · exact h2
       simp [h1]; omega)
end Go.Proofs.YtechapgchjdhaaaDoor
