/- laws.FnMask: the tied card: for every input the call returns true, and each argument reads behind the call as it read before. No condition beyond the row's own: the listed table starts as the program's text lays it. -/
import Derived.Test.YtechapgchjdhaaaDoorOpe
import Derived.Test.YtechapgchjdhaaaDoorFmk
import Derived.Carry
import Derived.Test.YtechapgchjdhaaaDoorTie
import Derived.Test.YtechapgchjdhaaaDoorCards
import Derived.SevenTiedAt
namespace Go.Proofs.YtechapgchjdhaaaDoor
open Go.ChangeShapes Go.WideShapes Go.ChangeAt Go.WideMaps Go.WideElems Go.RowKit

set_option maxRecDepth 100000 in
theorem fnMask_lifted (os : Os) (started : os.Started) (H : Type) (enc : TypeId × Value → H) :
    ReturnsInHanded {} Tryd.checked os 4 .any (fun w args => (Rows.fnMaskSpec.pre enc Tryd.prog Tryd.f4 [] false w args ∧ laidMetH Tryd.prog laidAll w) ∧ sizedMet enc Tryd.prog Tryd.f4 (OpenSpec.ofChange Rows.fnMaskSpec) false w args)
      (Rows.fnMaskSpec.post enc Tryd.prog Tryd.f4 false true false false) := by
  refine returnsInHanded_of_change_and (C := Tryd.checked) (X := fun w _ => laidMetH Tryd.prog laidAll w) (fun _ _ _ hh h => h.of_heap hh) own started (by kernel_rfl) Tryd.func4
    (ChangeSpec.witness_shaped (enc := enc) (C := Tryd.checked) (os := os) (X := fun w _ => laidMetH Tryd.prog laidAll w) false (World.doorLaid Tryd.prog 19 os) #[.bool false, .int .i64 0, .slice none 0 0, mval (fun _ => 0)] 8 rfl (World.shaped_of_RefB (by kernel_rfl) (by kernel_rfl)) (by kernel_rfl) (by kernel_rfl) (by kernel_rfl) (door_met os _)) ?_
  intro W base args ds gs before hval0 hW _ _ hL _
  have hval : ∀ (j : Nat) t v, Tryd.f4.params[j]? = some t → args[j]? = some v → Value.okWide Tryd.prog W .any base t v := hval0
  have hW' := hW
  obtain ⟨p, q, hA0, hV, rfl, hfz, hnd⟩ := hW
  have hA : DataW.TrodAll enc Tryd.prog W 0 (fun _ => true) true Tryd.f4.params.toList args.toList ds p := hA0
  rw [Tryd.params4] at hA hval
  obtain ⟨v0, v1, v2, v3, d0, d1, d2, d3, p0, p1, p2, p3, rfl, rfl, rfl, h0, h1, h2, h3⟩ := trodAll_four hA
  obtain ⟨rfl, rfl⟩ := trodVars_none hV
  obtain ⟨fin, rfl, _, _⟩ := open_bool Tryd.underlying4 (hval 0 4 v0 rfl rfl) h0
  obtain ⟨o, rfl, _, _, wo⟩ := open_int Tryd.underlying3 (hval 1 3 v1 rfl rfl) h1
  obtain ⟨A, c, bs, rfl, hr, hc, hm⟩ := open_bytes (hval 2 22 v2 rfl rfl) h2
  obtain ⟨M, rfl⟩ := open_mask (hval 3 23 v3 rfl rfl) h3
  have hrem := rem_of_laid hL
  clear hA0 hval0 hval hA h0 h1 h2 h3
  exact (fnMask_walk W fin o A c bs M hr hrem).mono fun e W' h => yes_post Tryd.f4 Rows.fnMaskSpec rfl (by rw [Tryd.params4]; decide +kernel) rfl hW' rfl h

theorem fnMask_holds : Rows.FnMaskSaid :=
  OpenClaim.holds_of_wide 4 Tryd.f4 rfl rfl rfl rfl rfl rfl rfl ⟨rfl, rfl, rfl, rfl, rfl⟩ rfl rfl rfl rfl rfl (by kernel_rfl) Tryd.func4 (by kernel_rfl)
    (of_decide_eq_true (by kernel_rfl)) (by unfold Func.isWrapper; first | (rw [if_pos (by decide +kernel)]; kernel_rfl) | (rw [if_neg (by decide +kernel)]; exact ⟨rfl, rfl⟩))
    (fun os started H enc _ => fnMask_lifted os started H enc)

theorem fnMask_card : Rows.FnMaskCardSaid :=
  Claim7.holds_tied_plain_at .later [] [.data] true (true, "eb0ef3f5fe758aefbf9907cd2afb4bd79a7acd6b62043f64852b4e6ae1a976ed") true
    fnMask_holds (fun _ h => by cases h) (by kernel_rfl) (fun _ h => by cases h) fnMask_row_tie rfl ⟨rfl, rfl⟩ (by kernel_rfl) rfl
    (fun f fn hf hfn => by
      obtain rfl : f = 4 := Option.some.inj ((show Tryd.prog.funcNamed "gobwasws/laws.FnMask" = some 4 by kernel_rfl).symm.trans hf) |>.symm
      obtain rfl : fn = Tryd.f4 := (Option.some.inj (Tryd.func4.symm.trans hfn)).symm
      exact ⟨by kernel_rfl, fun j t ht => by
        rw [Tryd.params4] at ht
        have hm : t ∈ [4, 3, 22, 23] := by simpa using Array.mem_of_getElem? ht
        have hall : ([4, 3, 22, 23].all fun u => !Tryd.prog.wantsStandIn u) = true := by kernel_rfl
        exact (show Tryd.prog.wantsStandIn t = false by simpa using List.all_eq_true.1 hall t hm)⟩)
    (by kernel_rfl)
#print axioms fnMask_card
end Go.Proofs.YtechapgchjdhaaaDoor
