/-
  DERIVED. GIVEN WITH THE SEED: THE CARDS: each row of YtechapgchjdhaaaDoorRows.lean that lists a variable, with what it lists TIED to the program's text (the seventh form; the later family's looks); each row that meets fmt, with fmt's text TOLD by the authors' own Lean function (tested against real Go, not proved from fmt's source: count such statements apart). THE CARD IS WHAT COUNTS. Prove the row's statement (the work); the ties are given (YtechapgchjdhaaaDoorTie.lean); close each card by the builder's one call (the guide's Derived/Test/ToyasCard.lean, 'card_holds'). Laid BY PROGRAM, IN A SANDBOX (cutbox-door.mjs). By AI agents, Wed Nov 11 2026. No macro, syntax, notation, axiom, sorry.
-/
import Derived.Test.YtechapgchjdhaaaDoorRows
import GoSem.ClaimSeven
namespace Go.Proofs.YtechapgchjdhaaaDoor
namespace Rows

/-- THE TIED CARD OF 'laws.FnCipher'. -/
def fnCipherCard : Claim7 := { stood := { row := fnCipherRow, standIns := [], harness := (true, "eb0ef3f5fe758aefbf9907cd2afb4bd79a7acd6b62043f64852b4e6ae1a976ed"), looks := true }, kinds := [], alts := [], laidByText := true, laidKinds := [.data], laidTests := true, laidLooks := .later }
def FnCipherCardSaid : Prop := Claim7.holds Tryd.pinned (.plain (OpenSpec.ofChange fnCipherSpec)) fnCipherCard

/-- THE TIED CARD OF 'laws.FnMask'. -/
def fnMaskCard : Claim7 := { stood := { row := fnMaskRow, standIns := [], harness := (true, "eb0ef3f5fe758aefbf9907cd2afb4bd79a7acd6b62043f64852b4e6ae1a976ed"), looks := true }, kinds := [], alts := [], laidByText := true, laidKinds := [.data], laidTests := true, laidLooks := .later }
def FnMaskCardSaid : Prop := Claim7.holds Tryd.pinned (.plain (OpenSpec.ofChange fnMaskSpec)) fnMaskCard

/-- THE TIED CARD OF 'laws.FnCloseBody'. -/
def fnCloseBodyCard : Claim7 := { stood := { row := fnCloseBodyRow, standIns := [], harness := (true, "eb0ef3f5fe758aefbf9907cd2afb4bd79a7acd6b62043f64852b4e6ae1a976ed"), looks := true }, kinds := [], alts := [], laidByText := true, laidKinds := [.data], laidTests := true, laidLooks := .later }
def FnCloseBodyCardSaid : Prop := Claim7.holds Tryd.pinned (.plain (OpenSpec.ofChange fnCloseBodySpec)) fnCloseBodyCard

/-- THE TIED CARD OF 'laws.FnCheck'. -/
def fnCheckCard : Claim7 := { stood := { row := fnCheckRow, standIns := [], harness := (true, "eb0ef3f5fe758aefbf9907cd2afb4bd79a7acd6b62043f64852b4e6ae1a976ed"), looks := true }, kinds := [], alts := [], laidByText := true, laidKinds := [.data], laidTests := true, laidLooks := .later }
def FnCheckCardSaid : Prop := Claim7.holds Tryd.pinned (.plain (OpenSpec.ofChange fnCheckSpec)) fnCheckCard

/-- THE TIED CARD OF 'laws.FnHeader'. -/
def fnHeaderCard : Claim7 := { stood := { row := fnHeaderRow, standIns := [], harness := (true, "eb0ef3f5fe758aefbf9907cd2afb4bd79a7acd6b62043f64852b4e6ae1a976ed"), looks := true }, kinds := [], alts := [], laidByText := true, laidKinds := [.data], laidTests := true, laidLooks := .later }
def FnHeaderCardSaid : Prop := Claim7.holds Tryd.pinned (.plain (OpenSpec.ofChange fnHeaderSpec)) fnHeaderCard

/-- THE TIED CARD OF 'laws.FnMessage'. -/
def fnMessageCard : Claim7 := { stood := { row := fnMessageRow, standIns := [], harness := (true, "eb0ef3f5fe758aefbf9907cd2afb4bd79a7acd6b62043f64852b4e6ae1a976ed"), looks := true }, kinds := [], alts := [], laidByText := true, laidKinds := [.data], laidTests := true, laidLooks := .later }
def FnMessageCardSaid : Prop := Claim7.holds Tryd.pinned (.plain (OpenSpec.ofChange fnMessageSpec)) fnMessageCard

/-- THE TIED CARD OF 'laws.FnText'. -/
def fnTextCard : Claim7 := { stood := { row := fnTextRow, standIns := [], harness := (true, "eb0ef3f5fe758aefbf9907cd2afb4bd79a7acd6b62043f64852b4e6ae1a976ed"), looks := true }, kinds := [], alts := [], laidByText := true, laidKinds := [.data], laidTests := true, laidLooks := .later }
def FnTextCardSaid : Prop := Claim7.holds Tryd.pinned (.plain (OpenSpec.ofChange fnTextSpec)) fnTextCard

/-- THE TIED CARD OF 'laws.FnParseHeader'. -/
def fnParseHeaderCard : Claim7 := { stood := { row := fnParseHeaderRow, standIns := [], harness := (true, "eb0ef3f5fe758aefbf9907cd2afb4bd79a7acd6b62043f64852b4e6ae1a976ed"), looks := true }, kinds := [], alts := [], laidByText := true, laidKinds := [.data], laidTests := true, laidLooks := .later }
def FnParseHeaderCardSaid : Prop := Claim7.holds Tryd.pinned (.plain (OpenSpec.ofChange fnParseHeaderSpec)) fnParseHeaderCard

/-- THE TIED CARD OF 'laws.FnFrame'. -/
def fnFrameCard : Claim7 := { stood := { row := fnFrameRow, standIns := [], harness := (true, "eb0ef3f5fe758aefbf9907cd2afb4bd79a7acd6b62043f64852b4e6ae1a976ed"), looks := true }, kinds := [], alts := [], laidByText := true, laidKinds := [.data], laidTests := true, laidLooks := .later }
def FnFrameCardSaid : Prop := Claim7.holds Tryd.pinned (.plain (OpenSpec.ofChange fnFrameSpec)) fnFrameCard

/-- THE SECOND FORM's CARD OF 'laws.FnCipher'. -/
def fnCipherUptoCard : Claim7 := { stood := { row := fnCipherUptoRow, standIns := [], harness := (true, "eb0ef3f5fe758aefbf9907cd2afb4bd79a7acd6b62043f64852b4e6ae1a976ed"), looks := true }, kinds := [], alts := [], laidByText := true, laidKinds := [.data], laidTests := true, laidLooks := .later }
def FnCipherUptoCardSaid : Prop := Claim7.holds Tryd.pinned (.plain (OpenSpec.upto fnCipherSpec)) fnCipherUptoCard

/-- THE SECOND FORM's CARD OF 'laws.FnMask'. -/
def fnMaskUptoCard : Claim7 := { stood := { row := fnMaskUptoRow, standIns := [], harness := (true, "eb0ef3f5fe758aefbf9907cd2afb4bd79a7acd6b62043f64852b4e6ae1a976ed"), looks := true }, kinds := [], alts := [], laidByText := true, laidKinds := [.data], laidTests := true, laidLooks := .later }
def FnMaskUptoCardSaid : Prop := Claim7.holds Tryd.pinned (.plain (OpenSpec.upto fnMaskSpec)) fnMaskUptoCard

/-- THE SECOND FORM's CARD OF 'laws.FnCloseBody'. -/
def fnCloseBodyUptoCard : Claim7 := { stood := { row := fnCloseBodyUptoRow, standIns := [], harness := (true, "eb0ef3f5fe758aefbf9907cd2afb4bd79a7acd6b62043f64852b4e6ae1a976ed"), looks := true }, kinds := [], alts := [], laidByText := true, laidKinds := [.data], laidTests := true, laidLooks := .later }
def FnCloseBodyUptoCardSaid : Prop := Claim7.holds Tryd.pinned (.plain (OpenSpec.upto fnCloseBodySpec)) fnCloseBodyUptoCard

/-- THE SECOND FORM's CARD OF 'laws.FnCheck'. -/
def fnCheckUptoCard : Claim7 := { stood := { row := fnCheckUptoRow, standIns := [], harness := (true, "eb0ef3f5fe758aefbf9907cd2afb4bd79a7acd6b62043f64852b4e6ae1a976ed"), looks := true }, kinds := [], alts := [], laidByText := true, laidKinds := [.data], laidTests := true, laidLooks := .later }
def FnCheckUptoCardSaid : Prop := Claim7.holds Tryd.pinned (.plain (OpenSpec.upto fnCheckSpec)) fnCheckUptoCard

/-- THE SECOND FORM's CARD OF 'laws.FnHeader'. -/
def fnHeaderUptoCard : Claim7 := { stood := { row := fnHeaderUptoRow, standIns := [], harness := (true, "eb0ef3f5fe758aefbf9907cd2afb4bd79a7acd6b62043f64852b4e6ae1a976ed"), looks := true }, kinds := [], alts := [], laidByText := true, laidKinds := [.data], laidTests := true, laidLooks := .later }
def FnHeaderUptoCardSaid : Prop := Claim7.holds Tryd.pinned (.plain (OpenSpec.upto fnHeaderSpec)) fnHeaderUptoCard

/-- THE SECOND FORM's CARD OF 'laws.FnMessage'. -/
def fnMessageUptoCard : Claim7 := { stood := { row := fnMessageUptoRow, standIns := [], harness := (true, "eb0ef3f5fe758aefbf9907cd2afb4bd79a7acd6b62043f64852b4e6ae1a976ed"), looks := true }, kinds := [], alts := [], laidByText := true, laidKinds := [.data], laidTests := true, laidLooks := .later }
def FnMessageUptoCardSaid : Prop := Claim7.holds Tryd.pinned (.plain (OpenSpec.upto fnMessageSpec)) fnMessageUptoCard

/-- THE SECOND FORM's CARD OF 'laws.FnText'. -/
def fnTextUptoCard : Claim7 := { stood := { row := fnTextUptoRow, standIns := [], harness := (true, "eb0ef3f5fe758aefbf9907cd2afb4bd79a7acd6b62043f64852b4e6ae1a976ed"), looks := true }, kinds := [], alts := [], laidByText := true, laidKinds := [.data], laidTests := true, laidLooks := .later }
def FnTextUptoCardSaid : Prop := Claim7.holds Tryd.pinned (.plain (OpenSpec.upto fnTextSpec)) fnTextUptoCard

/-- THE SECOND FORM's CARD OF 'laws.FnParseHeader'. -/
def fnParseHeaderUptoCard : Claim7 := { stood := { row := fnParseHeaderUptoRow, standIns := [], harness := (true, "eb0ef3f5fe758aefbf9907cd2afb4bd79a7acd6b62043f64852b4e6ae1a976ed"), looks := true }, kinds := [], alts := [], laidByText := true, laidKinds := [.data], laidTests := true, laidLooks := .later }
def FnParseHeaderUptoCardSaid : Prop := Claim7.holds Tryd.pinned (.plain (OpenSpec.upto fnParseHeaderSpec)) fnParseHeaderUptoCard

/-- THE SECOND FORM's CARD OF 'laws.FnFrame'. -/
def fnFrameUptoCard : Claim7 := { stood := { row := fnFrameUptoRow, standIns := [], harness := (true, "eb0ef3f5fe758aefbf9907cd2afb4bd79a7acd6b62043f64852b4e6ae1a976ed"), looks := true }, kinds := [], alts := [], laidByText := true, laidKinds := [.data], laidTests := true, laidLooks := .later }
def FnFrameUptoCardSaid : Prop := Claim7.holds Tryd.pinned (.plain (OpenSpec.upto fnFrameSpec)) fnFrameUptoCard
end Rows
end Go.Proofs.YtechapgchjdhaaaDoor
