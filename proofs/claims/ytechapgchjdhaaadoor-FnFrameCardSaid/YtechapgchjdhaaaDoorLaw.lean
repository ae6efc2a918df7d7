/- From a walk that says 'true, and nothing old has turned' to a law's row: what is the same for every law of the seat: the listed table, the witness's world, what stands behind the call. -/
import Derived.Test.YtechapgchjdhaaaDoorRows
import Derived.Test.YtechapgchjdhaaaDoorFci
import Derived.ProofKit
import Derived.LaidMore
import Derived.OpenShut
import Derived.Stop.Joined
import Derived.Lib.LaidTab
namespace Go.Proofs.YtechapgchjdhaaaDoor
open Go.ChangeShapes Go.WideShapes Go.ChangeAt Go.WideMaps Go.WideElems Go.RowKit

theorem own : ownKnob Tryd.prog.godebug = none := by kernel_rfl
theorem laidOut : laidOutB Tryd.prog = true := by kernel_rfl
theorem gRemain : Tryd.prog.globalNamed "gobwasws/pub/wsframes.remain" = some 0 := by kernel_rfl
theorem tRemain : (Tryd.prog.globals[0]?).map (·.type) = some 110 := by kernel_rfl
theorem cells3 : Tryd.prog.cellsOf 3 = 1 := by kernel_rfl
theorem cells110 : Tryd.prog.cellsOf 110 = 4 := by kernel_rfl

def laidAll : List (String × DataW Unit) := [("gobwasws/pub/wsframes.remain", Rows.laid_gobwasws_pub_wsframes_remain)]

/-- The door's own heap meets the condition: three closed facts. -/
theorem door_met (os : Os) (args : Array Value) : laidMetH Tryd.prog laidAll ((World.doorLaid Tryd.prog 19 os).forCall (fun _ _ => 0) ⟨#[], args, []⟩).memory :=
  laidMetH_of_parts3 (fuel := 8) (laidMet_of_run' 8 (by kernel_rfl) (by kernel_rfl)) (by kernel_rfl) (by kernel_rfl)

/-- What the condition gives the walks: the table's cells. -/
theorem rem_of_laid {W : World} (h : laidMetH Tryd.prog laidAll W) : Rem W := by
  rw [MakeChecks.laidMetH_plain _ _ _ (by kernel_rfl)] at h
  have hT : Lib.TabIs Tryd.prog W "gobwasws/pub/wsframes.remain" .i64 [0, 3, 2, 1] := Lib.tabIs_of_head gRemain tRemain Tryd.underlying110 Tryd.underlying3 cells3 cells110 h
  intro i hi
  have := hT.cell gRemain i (by simpa using hi)
  rw [this]
  rcases (show i = 0 ∨ i = 1 ∨ i = 2 ∨ i = 3 by omega) with h | h | h | h <;> rw [h] <;> rfl

theorem trodAll_stays {H : Type} {enc : TypeId × Value → H} {W W' : World} {sp' : Nat → Bool} : ∀ (ts : List TypeId) (vs : List Value) (ds : List (DataW H)) (ps : List MemPlace),
    (∀ t ∈ ts, Tryd.prog.readableRec t = true ∧ t < Tryd.prog.types.size) → DataW.TrodAll enc Tryd.prog W 0 (fun _ => true) true ts vs ds ps → (∀ p ∈ ps, W.sameAt W' p) → (∀ p ∈ ps, sp' p.block = true) →
    DataW.TrodAll enc Tryd.prog W' 0 sp' true ts vs ds ps
  | [], [], [], _, _, h, _, _ => h
  | t :: ts, v :: vs, d :: ds, ps, ht, h, hs, hp => by
    obtain ⟨p, q, h1, h2, rfl⟩ := h
    obtain ⟨a, b⟩ := ht t (by simp)
    exact ⟨p, q, WideElems.Trod_stays laidOut a b h1 (fun x hx => hs x (by simp [hx])) (fun x hx => hp x (by simp [hx])), trodAll_stays ts vs ds q (fun t ht' => ht t (by simp [ht'])) h2 (fun x hx => hs x (by simp [hx])) (fun x hx => hp x (by simp [hx])), rfl⟩
  | [], _ :: _, _, _, _, h, _, _ => h.elim
  | [], [], _ :: _, _, _, h, _, _ => h.elim
  | _ :: _, [], _, _, _, h, _, _ => h.elim
  | _ :: _, _ :: _, [], _, _, h, _, _ => h.elim

/-- What stands behind the call. -/
theorem yes_post {H : Type} {enc : TypeId × Value → H} (f : Func) (s : ChangeSpec) (hrt : f.resultTypes = #[4]) (hpar : ∀ t ∈ f.params.toList, Tryd.prog.readableRec t = true ∧ t < Tryd.prog.types.size) (hvars : s.vars = [])
    {W W' : World} {args : Array Value} {ds gs : List (DataW H)} {before : List MemPlace} {e : Ending} (hW : DataW.Whole enc Tryd.prog f.params.toList s.vars false W args.toList ds gs before)
    (hfn : s.fn H (ds ++ gs) = { results := [.lit (.bool true)], args := ds }) (h : Yes W e W') :
    ∃ v, e = .returned v ∧ s.post enc Tryd.prog f false true false false W args v W' := by
  obtain ⟨rfl, hk⟩ := h
  have hlt : ∀ x ∈ before, x.block < W.heap.size := fun x hx => hW.lt x hx
  have hW' := hW
  obtain ⟨p, q, hA, hV, rfl, hfz, hnd⟩ := hW
  rw [hvars] at hV
  have hq : q = [] := by
    cases gs with
    | nil => exact hV
    | cons g r => exact hV.elim
  subst hq
  refine ⟨_, rfl, ds, gs, p ++ [], [], p, [], hW', ?_, ?_, ?_, hk.below.frame _, fun h => by cases h⟩
  · rw [hfn, hrt]
    exact trodAll_mk1 (shut_bool Tryd.underlying4 true)
  · rw [hfn]
    exact trodAll_stays _ _ _ _ hpar hA (fun x hx => hk.below.same (hlt x (by simp [hx]))) (fun x hx => by simpa using hlt x (by simp [hx]))
  · rw [hfn, hvars]
    rfl
end Go.Proofs.YtechapgchjdhaaaDoor
