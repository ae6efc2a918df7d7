/-
  NARROWER THAN 'FOR EVERY INPUT', by the rows' own cells (each row's printed sentence says how): FnCipher: laid · FnMask: laid · FnCloseBody: laid · FnCheck: laid · FnHeader: laid · FnMessage: laid · FnText: laid · FnParseHeader: laid · FnFrame: laid.
  DERIVED. THE GIVEN ROWS OF THIS SEAT. 9 by the template 'for every input the law returns true; each argument reads behind the call as it read before'; 0 by the template 'total and deterministic' (their statements: YtechapgchjdhaaaDoorTotals.lean).
  GIVEN WITH THE SEED: the statements are not yours to turn. If you find one false, say at which input.
  Laid BY PROGRAM, IN A SANDBOX (cutbox-rows.mjs): the forced cells as the released guide's own fill.sh prints them over the translation 73239b77ab3b8244… (all of the seat's roots in one cut). By AI agents, Wed Nov 11 2026. No macro, syntax, notation, axiom, sorry.
-/
import Derived.Test.YtechapgchjdhaaaDoorChecked
import GoSem.Claim
import GoSem.ClaimJoined
import GoSem.ClaimMapViews
import Derived.JoinedTies
import Derived.KernelRfl
namespace Go.Proofs.YtechapgchjdhaaaDoor
/- THE CELL 'sum', in the pinned program and in every row, IS THE sha256 OF THE DUMP (.gsa) THAT YtechapgchjdhaaaDoorProg.lean LOADS. Nothing in Lean hashes anything: it is a label: what it is worth is what the hold of that sum in a sandbox is worth. -/
noncomputable def Tryd.pinned : Pinned := { name := "ytechapgchjdhaaadoor", sum := "73239b77ab3b8244ad851595028a1bddf36c65bbbc97a8d5143b987326832d4a", checked := Tryd.checked }
namespace Rows
def none {H : Type} : Left H := { results := [], args := [] }

/- WHAT THE LISTED PACKAGE-LEVEL VARIABLES READ AS WHEN THE CALL BEGINS. Each datum BY PROGRAM (the guide's laid-datum.mjs) off the statement by which the dump's own 'gosem.cut.vars' lays the variable. In a bare row this is a premise. The card (YtechapgchjdhaaaDoorCards.lean) ties it to the program's text. -/
def laid_gobwasws_pub_wsframes_remain {H : Type} : DataW H := .agg [.lit (.int .i64 0), .lit (.int .i64 3), .lit (.int .i64 2), .lit (.int .i64 1)]

/-- 'laws.FnCipher': WHATEVER THE INPUT: true; the input reads as it did. -/
def fnCipherSpec : ChangeSpec := { name := "fnCipher", fn := fun _ => fun
  | [d1, d2, d3] => { results := [.lit (.bool true)], args := [d1, d2, d3] }
  | _ => none }
def fnCipherRow : OpenClaim := { program := "ytechapgchjdhaaadoor", sum := "73239b77ab3b8244ad851595028a1bddf36c65bbbc97a8d5143b987326832d4a", func := "gobwasws/laws.FnCipher", spec := "fnCipher", unfollowed := true, recurses := true, named := ["gobwasws/pub/wsframes.remain"], apart := false, laid := [("gobwasws/pub/wsframes.remain", laid_gobwasws_pub_wsframes_remain)] }
def FnCipherSaid : Prop := fnCipherRow.holds Tryd.pinned (OpenSpec.ofChange fnCipherSpec)

/-- ITS FALSE NEIGHBOUR: 'it returns false'. Refute it at one input. -/
def fnCipherWrong : ChangeSpec := { name := "fnCipher", fn := fun _ => fun
  | [d1, d2, d3] => { results := [.lit (.bool false)], args := [d1, d2, d3] }
  | _ => none }
def FnCipherWrongFalsely : Prop := fnCipherRow.holds Tryd.pinned (OpenSpec.ofChange fnCipherWrong)

/-- 'laws.FnMask': WHATEVER THE INPUT: true; the input reads as it did. -/
def fnMaskSpec : ChangeSpec := { name := "fnMask", fn := fun _ => fun
  | [d1, d2, d3, d4] => { results := [.lit (.bool true)], args := [d1, d2, d3, d4] }
  | _ => none }
def fnMaskRow : OpenClaim := { program := "ytechapgchjdhaaadoor", sum := "73239b77ab3b8244ad851595028a1bddf36c65bbbc97a8d5143b987326832d4a", func := "gobwasws/laws.FnMask", spec := "fnMask", unfollowed := true, recurses := true, named := ["gobwasws/pub/wsframes.remain"], apart := false, laid := [("gobwasws/pub/wsframes.remain", laid_gobwasws_pub_wsframes_remain)] }
def FnMaskSaid : Prop := fnMaskRow.holds Tryd.pinned (OpenSpec.ofChange fnMaskSpec)

/-- ITS FALSE NEIGHBOUR: 'it returns false'. Refute it at one input. -/
def fnMaskWrong : ChangeSpec := { name := "fnMask", fn := fun _ => fun
  | [d1, d2, d3, d4] => { results := [.lit (.bool false)], args := [d1, d2, d3, d4] }
  | _ => none }
def FnMaskWrongFalsely : Prop := fnMaskRow.holds Tryd.pinned (OpenSpec.ofChange fnMaskWrong)

/-- 'laws.FnCloseBody': WHATEVER THE INPUT: true; the input reads as it did. -/
def fnCloseBodySpec : ChangeSpec := { name := "fnCloseBody", fn := fun _ => fun
  | [d1, d2] => { results := [.lit (.bool true)], args := [d1, d2] }
  | _ => none }
def fnCloseBodyRow : OpenClaim := { program := "ytechapgchjdhaaadoor", sum := "73239b77ab3b8244ad851595028a1bddf36c65bbbc97a8d5143b987326832d4a", func := "gobwasws/laws.FnCloseBody", spec := "fnCloseBody", unfollowed := true, recurses := true, named := ["gobwasws/pub/wsframes.remain"], apart := false, laid := [("gobwasws/pub/wsframes.remain", laid_gobwasws_pub_wsframes_remain)] }
def FnCloseBodySaid : Prop := fnCloseBodyRow.holds Tryd.pinned (OpenSpec.ofChange fnCloseBodySpec)

/-- ITS FALSE NEIGHBOUR: 'it returns false'. Refute it at one input. -/
def fnCloseBodyWrong : ChangeSpec := { name := "fnCloseBody", fn := fun _ => fun
  | [d1, d2] => { results := [.lit (.bool false)], args := [d1, d2] }
  | _ => none }
def FnCloseBodyWrongFalsely : Prop := fnCloseBodyRow.holds Tryd.pinned (OpenSpec.ofChange fnCloseBodyWrong)

/-- 'laws.FnCheck': WHATEVER THE INPUT: true; the input reads as it did. -/
def fnCheckSpec : ChangeSpec := { name := "fnCheck", fn := fun _ => fun
  | [d1, d2, d3, d4, d5] => { results := [.lit (.bool true)], args := [d1, d2, d3, d4, d5] }
  | _ => none }
def fnCheckRow : OpenClaim := { program := "ytechapgchjdhaaadoor", sum := "73239b77ab3b8244ad851595028a1bddf36c65bbbc97a8d5143b987326832d4a", func := "gobwasws/laws.FnCheck", spec := "fnCheck", unfollowed := true, recurses := true, named := ["gobwasws/pub/wsframes.remain"], apart := false, laid := [("gobwasws/pub/wsframes.remain", laid_gobwasws_pub_wsframes_remain)] }
def FnCheckSaid : Prop := fnCheckRow.holds Tryd.pinned (OpenSpec.ofChange fnCheckSpec)

/-- ITS FALSE NEIGHBOUR: 'it returns false'. Refute it at one input. -/
def fnCheckWrong : ChangeSpec := { name := "fnCheck", fn := fun _ => fun
  | [d1, d2, d3, d4, d5] => { results := [.lit (.bool false)], args := [d1, d2, d3, d4, d5] }
  | _ => none }
def FnCheckWrongFalsely : Prop := fnCheckRow.holds Tryd.pinned (OpenSpec.ofChange fnCheckWrong)

/-- 'laws.FnHeader': WHATEVER THE INPUT: true; the input reads as it did. -/
def fnHeaderSpec : ChangeSpec := { name := "fnHeader", fn := fun _ => fun
  | [d] => { results := [.lit (.bool true)], args := [d] }
  | _ => none }
def fnHeaderRow : OpenClaim := { program := "ytechapgchjdhaaadoor", sum := "73239b77ab3b8244ad851595028a1bddf36c65bbbc97a8d5143b987326832d4a", func := "gobwasws/laws.FnHeader", spec := "fnHeader", unfollowed := true, recurses := true, named := ["gobwasws/pub/wsframes.remain"], apart := false, laid := [("gobwasws/pub/wsframes.remain", laid_gobwasws_pub_wsframes_remain)] }
def FnHeaderSaid : Prop := fnHeaderRow.holds Tryd.pinned (OpenSpec.ofChange fnHeaderSpec)

/-- ITS FALSE NEIGHBOUR: 'it returns false'. Refute it at one input. -/
def fnHeaderWrong : ChangeSpec := { name := "fnHeader", fn := fun _ => fun
  | [d] => { results := [.lit (.bool false)], args := [d] }
  | _ => none }
def FnHeaderWrongFalsely : Prop := fnHeaderRow.holds Tryd.pinned (OpenSpec.ofChange fnHeaderWrong)

/-- 'laws.FnMessage': WHATEVER THE INPUT: true; the input reads as it did. -/
def fnMessageSpec : ChangeSpec := { name := "fnMessage", fn := fun _ => fun
  | [d1, d2, d3] => { results := [.lit (.bool true)], args := [d1, d2, d3] }
  | _ => none }
def fnMessageRow : OpenClaim := { program := "ytechapgchjdhaaadoor", sum := "73239b77ab3b8244ad851595028a1bddf36c65bbbc97a8d5143b987326832d4a", func := "gobwasws/laws.FnMessage", spec := "fnMessage", unfollowed := true, recurses := true, named := ["gobwasws/pub/wsframes.remain"], apart := false, laid := [("gobwasws/pub/wsframes.remain", laid_gobwasws_pub_wsframes_remain)] }
def FnMessageSaid : Prop := fnMessageRow.holds Tryd.pinned (OpenSpec.ofChange fnMessageSpec)

/-- ITS FALSE NEIGHBOUR: 'it returns false'. Refute it at one input. -/
def fnMessageWrong : ChangeSpec := { name := "fnMessage", fn := fun _ => fun
  | [d1, d2, d3] => { results := [.lit (.bool false)], args := [d1, d2, d3] }
  | _ => none }
def FnMessageWrongFalsely : Prop := fnMessageRow.holds Tryd.pinned (OpenSpec.ofChange fnMessageWrong)

/-- 'laws.FnText': WHATEVER THE INPUT: true; the input reads as it did. -/
def fnTextSpec : ChangeSpec := { name := "fnText", fn := fun _ => fun
  | [d1, d2, d3] => { results := [.lit (.bool true)], args := [d1, d2, d3] }
  | _ => none }
def fnTextRow : OpenClaim := { program := "ytechapgchjdhaaadoor", sum := "73239b77ab3b8244ad851595028a1bddf36c65bbbc97a8d5143b987326832d4a", func := "gobwasws/laws.FnText", spec := "fnText", unfollowed := true, recurses := true, named := ["gobwasws/pub/wsframes.remain"], apart := false, laid := [("gobwasws/pub/wsframes.remain", laid_gobwasws_pub_wsframes_remain)] }
def FnTextSaid : Prop := fnTextRow.holds Tryd.pinned (OpenSpec.ofChange fnTextSpec)

/-- ITS FALSE NEIGHBOUR: 'it returns false'. Refute it at one input. -/
def fnTextWrong : ChangeSpec := { name := "fnText", fn := fun _ => fun
  | [d1, d2, d3] => { results := [.lit (.bool false)], args := [d1, d2, d3] }
  | _ => none }
def FnTextWrongFalsely : Prop := fnTextRow.holds Tryd.pinned (OpenSpec.ofChange fnTextWrong)

/-- 'laws.FnParseHeader': WHATEVER THE INPUT: true; the input reads as it did. -/
def fnParseHeaderSpec : ChangeSpec := { name := "fnParseHeader", fn := fun _ => fun
  | [d1, d2, d3] => { results := [.lit (.bool true)], args := [d1, d2, d3] }
  | _ => none }
def fnParseHeaderRow : OpenClaim := { program := "ytechapgchjdhaaadoor", sum := "73239b77ab3b8244ad851595028a1bddf36c65bbbc97a8d5143b987326832d4a", func := "gobwasws/laws.FnParseHeader", spec := "fnParseHeader", unfollowed := true, recurses := true, named := ["gobwasws/pub/wsframes.remain"], apart := false, laid := [("gobwasws/pub/wsframes.remain", laid_gobwasws_pub_wsframes_remain)] }
def FnParseHeaderSaid : Prop := fnParseHeaderRow.holds Tryd.pinned (OpenSpec.ofChange fnParseHeaderSpec)

/-- ITS FALSE NEIGHBOUR: 'it returns false'. Refute it at one input. -/
def fnParseHeaderWrong : ChangeSpec := { name := "fnParseHeader", fn := fun _ => fun
  | [d1, d2, d3] => { results := [.lit (.bool false)], args := [d1, d2, d3] }
  | _ => none }
def FnParseHeaderWrongFalsely : Prop := fnParseHeaderRow.holds Tryd.pinned (OpenSpec.ofChange fnParseHeaderWrong)

/-- 'laws.FnFrame': WHATEVER THE INPUT: true; the input reads as it did. -/
def fnFrameSpec : ChangeSpec := { name := "fnFrame", fn := fun _ => fun
  | [d1, d2, d3, d4, d5, d6] => { results := [.lit (.bool true)], args := [d1, d2, d3, d4, d5, d6] }
  | _ => none }
def fnFrameRow : OpenClaim := { program := "ytechapgchjdhaaadoor", sum := "73239b77ab3b8244ad851595028a1bddf36c65bbbc97a8d5143b987326832d4a", func := "gobwasws/laws.FnFrame", spec := "fnFrame", unfollowed := true, recurses := true, named := ["gobwasws/pub/wsframes.remain"], apart := false, laid := [("gobwasws/pub/wsframes.remain", laid_gobwasws_pub_wsframes_remain)] }
def FnFrameSaid : Prop := fnFrameRow.holds Tryd.pinned (OpenSpec.ofChange fnFrameSpec)

/-- ITS FALSE NEIGHBOUR: 'it returns false'. Refute it at one input. -/
def fnFrameWrong : ChangeSpec := { name := "fnFrame", fn := fun _ => fun
  | [d1, d2, d3, d4, d5, d6] => { results := [.lit (.bool false)], args := [d1, d2, d3, d4, d5, d6] }
  | _ => none }
def FnFrameWrongFalsely : Prop := fnFrameRow.holds Tryd.pinned (OpenSpec.ofChange fnFrameWrong)

/- THE SECOND FORM. 'bulk': how many values and letters a reading holds, each counted each time it is reached (what is shared counts as often as it is met; a slice's spare places count too). A statement '..UptoSaid' is the law's where the arguments, and the package variables that the reading takes, are together of bulk at most 1048576: NARROWER than '..Said'. Prove '..Said' where nothing that the law and all that it calls make is longer than what came in: it says more and counts as full. Else prove '..UptoSaid'. A law counts once. -/
mutual
def uptoBulk {H : Type} : DataW H → Nat
  | .lit (.string bytes) => bytes.length + 1
  | .lit _ => 1
  | .nil => 1
  | .ptr d => uptoBulk d + 1
  | .slice elems spare => uptoBulkAll elems + uptoBulkAll spare + 1
  | .agg parts => uptoBulkAll parts + 1
  | .iface _ d => uptoBulk d + 1
  | .map entries => uptoBulkEntries entries + 1
  | .held _ => 1
def uptoBulkAll {H : Type} : List (DataW H) → Nat
  | [] => 0
  | d :: r => uptoBulk d + uptoBulkAll r
def uptoBulkEntries {H : Type} : List (Lit × DataW H) → Nat
  | [] => 0
  | x :: r => uptoBulkEntry x + uptoBulkEntries r
def uptoBulkEntry {H : Type} : Lit × DataW H → Nat
  | (.string bytes, d) => bytes.length + uptoBulk d + 1
  | (_, d) => uptoBulk d + 1
 end
def uptoSmall : (H : Type) → List (DataW H) → Bool := fun _ ds => decide (uptoBulkAll ds ≤ 1048576)
def OpenSpec.upto (s : _root_.Go.ChangeSpec) : _root_.Go.OpenSpec := { _root_.Go.OpenSpec.ofChange s with cond := some uptoSmall }

/-- 'laws.FnCipher', WHERE WHAT IT READS IS OF BULK AT MOST 1048576: true; the input reads as it did. -/
def fnCipherUptoRow : OpenClaim := { program := "ytechapgchjdhaaadoor", sum := "73239b77ab3b8244ad851595028a1bddf36c65bbbc97a8d5143b987326832d4a", func := "gobwasws/laws.FnCipher", spec := "fnCipher", unfollowed := true, recurses := true, named := ["gobwasws/pub/wsframes.remain"], apart := false, laid := [("gobwasws/pub/wsframes.remain", laid_gobwasws_pub_wsframes_remain)], narrowed := true }
def FnCipherUptoSaid : Prop := fnCipherUptoRow.holds Tryd.pinned (OpenSpec.upto fnCipherSpec)

/-- 'laws.FnMask', WHERE WHAT IT READS IS OF BULK AT MOST 1048576: true; the input reads as it did. -/
def fnMaskUptoRow : OpenClaim := { program := "ytechapgchjdhaaadoor", sum := "73239b77ab3b8244ad851595028a1bddf36c65bbbc97a8d5143b987326832d4a", func := "gobwasws/laws.FnMask", spec := "fnMask", unfollowed := true, recurses := true, named := ["gobwasws/pub/wsframes.remain"], apart := false, laid := [("gobwasws/pub/wsframes.remain", laid_gobwasws_pub_wsframes_remain)], narrowed := true }
def FnMaskUptoSaid : Prop := fnMaskUptoRow.holds Tryd.pinned (OpenSpec.upto fnMaskSpec)

/-- 'laws.FnCloseBody', WHERE WHAT IT READS IS OF BULK AT MOST 1048576: true; the input reads as it did. -/
def fnCloseBodyUptoRow : OpenClaim := { program := "ytechapgchjdhaaadoor", sum := "73239b77ab3b8244ad851595028a1bddf36c65bbbc97a8d5143b987326832d4a", func := "gobwasws/laws.FnCloseBody", spec := "fnCloseBody", unfollowed := true, recurses := true, named := ["gobwasws/pub/wsframes.remain"], apart := false, laid := [("gobwasws/pub/wsframes.remain", laid_gobwasws_pub_wsframes_remain)], narrowed := true }
def FnCloseBodyUptoSaid : Prop := fnCloseBodyUptoRow.holds Tryd.pinned (OpenSpec.upto fnCloseBodySpec)

/-- 'laws.FnCheck', WHERE WHAT IT READS IS OF BULK AT MOST 1048576: true; the input reads as it did. -/
def fnCheckUptoRow : OpenClaim := { program := "ytechapgchjdhaaadoor", sum := "73239b77ab3b8244ad851595028a1bddf36c65bbbc97a8d5143b987326832d4a", func := "gobwasws/laws.FnCheck", spec := "fnCheck", unfollowed := true, recurses := true, named := ["gobwasws/pub/wsframes.remain"], apart := false, laid := [("gobwasws/pub/wsframes.remain", laid_gobwasws_pub_wsframes_remain)], narrowed := true }
def FnCheckUptoSaid : Prop := fnCheckUptoRow.holds Tryd.pinned (OpenSpec.upto fnCheckSpec)

/-- 'laws.FnHeader', WHERE WHAT IT READS IS OF BULK AT MOST 1048576: true; the input reads as it did. -/
def fnHeaderUptoRow : OpenClaim := { program := "ytechapgchjdhaaadoor", sum := "73239b77ab3b8244ad851595028a1bddf36c65bbbc97a8d5143b987326832d4a", func := "gobwasws/laws.FnHeader", spec := "fnHeader", unfollowed := true, recurses := true, named := ["gobwasws/pub/wsframes.remain"], apart := false, laid := [("gobwasws/pub/wsframes.remain", laid_gobwasws_pub_wsframes_remain)], narrowed := true }
def FnHeaderUptoSaid : Prop := fnHeaderUptoRow.holds Tryd.pinned (OpenSpec.upto fnHeaderSpec)

/-- 'laws.FnMessage', WHERE WHAT IT READS IS OF BULK AT MOST 1048576: true; the input reads as it did. -/
def fnMessageUptoRow : OpenClaim := { program := "ytechapgchjdhaaadoor", sum := "73239b77ab3b8244ad851595028a1bddf36c65bbbc97a8d5143b987326832d4a", func := "gobwasws/laws.FnMessage", spec := "fnMessage", unfollowed := true, recurses := true, named := ["gobwasws/pub/wsframes.remain"], apart := false, laid := [("gobwasws/pub/wsframes.remain", laid_gobwasws_pub_wsframes_remain)], narrowed := true }
def FnMessageUptoSaid : Prop := fnMessageUptoRow.holds Tryd.pinned (OpenSpec.upto fnMessageSpec)

/-- 'laws.FnText', WHERE WHAT IT READS IS OF BULK AT MOST 1048576: true; the input reads as it did. -/
def fnTextUptoRow : OpenClaim := { program := "ytechapgchjdhaaadoor", sum := "73239b77ab3b8244ad851595028a1bddf36c65bbbc97a8d5143b987326832d4a", func := "gobwasws/laws.FnText", spec := "fnText", unfollowed := true, recurses := true, named := ["gobwasws/pub/wsframes.remain"], apart := false, laid := [("gobwasws/pub/wsframes.remain", laid_gobwasws_pub_wsframes_remain)], narrowed := true }
def FnTextUptoSaid : Prop := fnTextUptoRow.holds Tryd.pinned (OpenSpec.upto fnTextSpec)

/-- 'laws.FnParseHeader', WHERE WHAT IT READS IS OF BULK AT MOST 1048576: true; the input reads as it did. -/
def fnParseHeaderUptoRow : OpenClaim := { program := "ytechapgchjdhaaadoor", sum := "73239b77ab3b8244ad851595028a1bddf36c65bbbc97a8d5143b987326832d4a", func := "gobwasws/laws.FnParseHeader", spec := "fnParseHeader", unfollowed := true, recurses := true, named := ["gobwasws/pub/wsframes.remain"], apart := false, laid := [("gobwasws/pub/wsframes.remain", laid_gobwasws_pub_wsframes_remain)], narrowed := true }
def FnParseHeaderUptoSaid : Prop := fnParseHeaderUptoRow.holds Tryd.pinned (OpenSpec.upto fnParseHeaderSpec)

/-- 'laws.FnFrame', WHERE WHAT IT READS IS OF BULK AT MOST 1048576: true; the input reads as it did. -/
def fnFrameUptoRow : OpenClaim := { program := "ytechapgchjdhaaadoor", sum := "73239b77ab3b8244ad851595028a1bddf36c65bbbc97a8d5143b987326832d4a", func := "gobwasws/laws.FnFrame", spec := "fnFrame", unfollowed := true, recurses := true, named := ["gobwasws/pub/wsframes.remain"], apart := false, laid := [("gobwasws/pub/wsframes.remain", laid_gobwasws_pub_wsframes_remain)], narrowed := true }
def FnFrameUptoSaid : Prop := fnFrameUptoRow.holds Tryd.pinned (OpenSpec.upto fnFrameSpec)

end Rows
end Go.Proofs.YtechapgchjdhaaaDoor
