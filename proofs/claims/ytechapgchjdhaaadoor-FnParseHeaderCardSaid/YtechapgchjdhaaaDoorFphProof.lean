/- laws.FnParseHeader: the tied card: for every input the call returns true, and each argument reads behind the call as it read before. No condition beyond the row's own: the listed table starts as the program's text lays it. -/
import Derived.Test.YtechapgchjdhaaaDoorOpe
import Derived.Test.YtechapgchjdhaaaDoorFph
import Derived.Test.YtechapgchjdhaaaDoorOpm
import Derived.Carry
import Derived.Test.YtechapgchjdhaaaDoorTie
import Derived.Test.YtechapgchjdhaaaDoorCards
import Derived.SevenTiedAt
namespace Go.Proofs.YtechapgchjdhaaaDoor
open Go.ChangeShapes Go.WideShapes Go.ChangeAt Go.WideMaps Go.WideElems Go.RowKit

set_option maxRecDepth 100000 in
theorem fnParseHeader_lifted (os : Os) (started : os.Started) (H : Type) (enc : TypeId × Value → H) :
    ReturnsInHanded {} Tryd.checked os 10 .any (fun w args => (Rows.fnParseHeaderSpec.pre enc Tryd.prog Tryd.f10 [] false w args ∧ laidMetH Tryd.prog laidAll w) ∧ sizedMet enc Tryd.prog Tryd.f10 (OpenSpec.ofChange Rows.fnParseHeaderSpec) false w args)
      (Rows.fnParseHeaderSpec.post enc Tryd.prog Tryd.f10 false true false false) := by
  refine returnsInHanded_of_change_and (C := Tryd.checked) (X := fun w _ => laidMetH Tryd.prog laidAll w) (fun _ _ _ hh h => h.of_heap hh) own started (by kernel_rfl) Tryd.func10
    (ChangeSpec.witness_shaped (enc := enc) (C := Tryd.checked) (os := os) (X := fun w _ => laidMetH Tryd.prog laidAll w) false (World.doorLaid Tryd.prog 19 os) #[hval false 0 0 false (fun _ => 0) 0, .slice none 0 0, .int .i64 0] 8 rfl (World.shaped_of_RefB (by kernel_rfl) (by kernel_rfl)) (by kernel_rfl) (by kernel_rfl) (by kernel_rfl) (door_met os _)) ?_
  intro W base args ds gs before hval0 hW _ _ hL _
  have hvalA : ∀ (j : Nat) t v, Tryd.f10.params[j]? = some t → args[j]? = some v → Value.okWide Tryd.prog W .any base t v := hval0
  have hW' := hW
  obtain ⟨p, q, hA0, hV, rfl, hfz, hnd⟩ := hW
  have hA : DataW.TrodAll enc Tryd.prog W 0 (fun _ => true) true Tryd.f10.params.toList args.toList ds p := hA0
  rw [Tryd.params10] at hA hvalA
  obtain ⟨v0, v1, v2, d0, d1, d2, p0, p1, p2, rfl, rfl, rfl, h0, h1, h2⟩ := trodAll_three hA
  obtain ⟨rfl, rfl⟩ := trodVars_none hV
  obtain ⟨fin, rsv, op, mk, M, len, hM, rfl⟩ := open_hdr4 (hvalA 0 29 v0 rfl rfl) h0
  have hlen := hdr_len h0
  obtain ⟨A, c, bs, rfl, hr, _, _⟩ := open_bytes (hvalA 1 22 v1 rfl rfl) h1
  obtain ⟨z, rfl, _, _, _⟩ := open_int Tryd.underlying3 (hvalA 2 3 v2 rfl rfl) h2
  have hrem := rem_of_laid hL
  clear hA0 hval0 hvalA hA h0 h1 h2
  exact (fnParse_walk W fin rsv op mk M len A c bs z hM hlen hr hrem).mono fun e W' h => yes_post Tryd.f10 Rows.fnParseHeaderSpec rfl (by rw [Tryd.params10]; decide +kernel) rfl hW' rfl h

theorem fnParseHeader_holds : Rows.FnParseHeaderSaid :=
  OpenClaim.holds_of_wide 10 Tryd.f10 rfl rfl rfl rfl rfl rfl rfl ⟨rfl, rfl, rfl, rfl, rfl⟩ rfl rfl rfl rfl rfl (by kernel_rfl) Tryd.func10 (by kernel_rfl)
    (of_decide_eq_true (by kernel_rfl)) (by unfold Func.isWrapper; first | (rw [if_pos (by decide +kernel)]; kernel_rfl) | (rw [if_neg (by decide +kernel)]; exact ⟨rfl, rfl⟩))
    (fun os started H enc _ => fnParseHeader_lifted os started H enc)

theorem fnParseHeader_card : Rows.FnParseHeaderCardSaid :=
  Claim7.holds_tied_plain_at .later [] [.data] true (true, "eb0ef3f5fe758aefbf9907cd2afb4bd79a7acd6b62043f64852b4e6ae1a976ed") true
    fnParseHeader_holds (fun _ h => by cases h) (by kernel_rfl) (fun _ h => by cases h) fnParseHeader_row_tie rfl ⟨rfl, rfl⟩ (by kernel_rfl) rfl
    (fun f fn hf hfn => by
      obtain rfl : f = 10 := Option.some.inj ((show Tryd.prog.funcNamed "gobwasws/laws.FnParseHeader" = some 10 by kernel_rfl).symm.trans hf) |>.symm
      obtain rfl : fn = Tryd.f10 := (Option.some.inj (Tryd.func10.symm.trans hfn)).symm
      exact ⟨by kernel_rfl, fun j t ht => by
        rw [Tryd.params10] at ht
        have hm : t ∈ [29, 22, 3] := by simpa using Array.mem_of_getElem? ht
        have hall : ([29, 22, 3].all fun u => !Tryd.prog.wantsStandIn u) = true := by kernel_rfl
        exact (show Tryd.prog.wantsStandIn t = false by simpa using List.all_eq_true.1 hall t hm)⟩)
    (by kernel_rfl)
#print axioms fnParseHeader_card
end Go.Proofs.YtechapgchjdhaaaDoor
