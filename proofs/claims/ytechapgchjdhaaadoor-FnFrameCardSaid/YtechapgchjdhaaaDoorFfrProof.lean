/- laws.FnFrame: the tied card: for every input the call returns true, and each argument reads behind the call as it read before. No condition beyond the row's own: the listed table starts as the program's text lays it. -/
import Derived.Test.YtechapgchjdhaaaDoorOpe
import Derived.Test.YtechapgchjdhaaaDoorFfr
import Derived.Test.YtechapgchjdhaaaDoorOps
import Derived.Carry
import Derived.Test.YtechapgchjdhaaaDoorTie
import Derived.Test.YtechapgchjdhaaaDoorCards
import Derived.SevenTiedAt
namespace Go.Proofs.YtechapgchjdhaaaDoor
open Go.ChangeShapes Go.WideShapes Go.ChangeAt Go.WideMaps Go.WideElems Go.RowKit

set_option maxRecDepth 100000 in
theorem fnFrame_lifted (os : Os) (started : os.Started) (H : Type) (enc : TypeId × Value → H) :
    ReturnsInHanded {} Tryd.checked os 11 .any (fun w args => (Rows.fnFrameSpec.pre enc Tryd.prog Tryd.f11 [] false w args ∧ laidMetH Tryd.prog laidAll w) ∧ sizedMet enc Tryd.prog Tryd.f11 (OpenSpec.ofChange Rows.fnFrameSpec) false w args)
      (Rows.fnFrameSpec.post enc Tryd.prog Tryd.f11 false true false false) := by
  refine returnsInHanded_of_change_and (C := Tryd.checked) (X := fun w _ => laidMetH Tryd.prog laidAll w) (fun _ _ _ hh h => h.of_heap hh) own started (by kernel_rfl) Tryd.func11
    (ChangeSpec.witness_shaped (enc := enc) (C := Tryd.checked) (os := os) (X := fun w _ => laidMetH Tryd.prog laidAll w) false (World.doorLaid Tryd.prog 19 os) #[.bool false, .int .i64 0, .int .i64 0, .slice none 0 0, .slice none 0 0, .int .i64 0] 8 rfl (World.shaped_of_RefB (by kernel_rfl) (by kernel_rfl)) (by kernel_rfl) (by kernel_rfl) (by kernel_rfl) (door_met os _)) ?_
  intro W base args ds gs before hval0 hW _ _ hL _
  have hvalA : ∀ (j : Nat) t v, Tryd.f11.params[j]? = some t → args[j]? = some v → Value.okWide Tryd.prog W .any base t v := hval0
  have hW' := hW
  obtain ⟨p, q, hA0, hV, rfl, hfz, hnd⟩ := hW
  have hA : DataW.TrodAll enc Tryd.prog W 0 (fun _ => true) true Tryd.f11.params.toList args.toList ds p := hA0
  rw [Tryd.params11] at hA hvalA
  obtain ⟨v0, v1, v2, v3, v4, v5, d0, d1, d2, d3, d4, d5, p0, p1, p2, p3, p4, p5, rfl, rfl, rfl, h0, h1, h2, h3, h4, h5⟩ := trodAll_six hA
  obtain ⟨rfl, rfl⟩ := trodVars_none hV
  obtain ⟨fin, rfl, _, _⟩ := open_bool Tryd.underlying4 (hvalA 0 4 v0 rfl rfl) h0
  obtain ⟨rsv, rfl, _, _, _⟩ := open_int Tryd.underlying3 (hvalA 1 3 v1 rfl rfl) h1
  obtain ⟨op, rfl, _, _, _⟩ := open_int Tryd.underlying3 (hvalA 2 3 v2 rfl rfl) h2
  obtain ⟨A, c, ps, rfl, hr, _, _⟩ := open_bytes (hvalA 3 22 v3 rfl rfl) h3
  obtain ⟨A', c', bh, rfl, hr', _, _⟩ := open_bytes (hvalA 4 22 v4 rfl rfl) h4
  obtain ⟨z, rfl, _, _, _⟩ := open_int Tryd.underlying3 (hvalA 5 3 v5 rfl rfl) h5
  have hrem := rem_of_laid hL
  clear hA0 hval0 hvalA hA h0 h1 h2 h3 h4 h5
  exact (fnFrame_walk W fin rsv op A c ps A' c' bh z hr hr' hrem).mono fun e W' h => yes_post Tryd.f11 Rows.fnFrameSpec rfl (by rw [Tryd.params11]; decide +kernel) rfl hW' rfl h

theorem fnFrame_holds : Rows.FnFrameSaid :=
  OpenClaim.holds_of_wide 11 Tryd.f11 rfl rfl rfl rfl rfl rfl rfl ⟨rfl, rfl, rfl, rfl, rfl⟩ rfl rfl rfl rfl rfl (by kernel_rfl) Tryd.func11 (by kernel_rfl)
    (of_decide_eq_true (by kernel_rfl)) (by unfold Func.isWrapper; first | (rw [if_pos (by decide +kernel)]; kernel_rfl) | (rw [if_neg (by decide +kernel)]; exact ⟨rfl, rfl⟩))
    (fun os started H enc _ => fnFrame_lifted os started H enc)

theorem fnFrame_card : Rows.FnFrameCardSaid :=
  Claim7.holds_tied_plain_at .later [] [.data] true (true, "eb0ef3f5fe758aefbf9907cd2afb4bd79a7acd6b62043f64852b4e6ae1a976ed") true
    fnFrame_holds (fun _ h => by cases h) (by kernel_rfl) (fun _ h => by cases h) fnFrame_row_tie rfl ⟨rfl, rfl⟩ (by kernel_rfl) rfl
    (fun f fn hf hfn => by
      obtain rfl : f = 11 := Option.some.inj ((show Tryd.prog.funcNamed "gobwasws/laws.FnFrame" = some 11 by kernel_rfl).symm.trans hf) |>.symm
      obtain rfl : fn = Tryd.f11 := (Option.some.inj (Tryd.func11.symm.trans hfn)).symm
      exact ⟨by kernel_rfl, fun j t ht => by
        rw [Tryd.params11] at ht
        have hm : t ∈ [4, 3, 3, 22, 22, 3] := by simpa using Array.mem_of_getElem? ht
        have hall : ([4, 3, 3, 22, 22, 3].all fun u => !Tryd.prog.wantsStandIn u) = true := by kernel_rfl
        exact (show Tryd.prog.wantsStandIn t = false by simpa using List.all_eq_true.1 hall t hm)⟩)
    (by kernel_rfl)
#print axioms fnFrame_card
end Go.Proofs.YtechapgchjdhaaaDoor
