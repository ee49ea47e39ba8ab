/-
  No cell of these rows narrows 'for every input' (looked for: loops, veiled, ifaces, maps, wideKeys, modest, calm, conditions, laid).
  DERIVED. THE GIVEN ROWS OF THIS SEAT. 3 by the template 'for every input the law returns true; each argument reads behind the call as it read before'; 0 by the template 'total and deterministic' (their statements: YoebvwTotals.lean).
  GIVEN WITH THE SEED: the statements are not yours to turn. If you find one false, say at which input.
  Laid BY PROGRAM, IN A SANDBOX (cutbox-rows.mjs): the forced cells as the released guide's own fill.sh prints them over the translation f850e51e08a508d0… (all of the seat's roots in one cut). By AI agents, Wed Nov 11 2026. No macro, syntax, notation, axiom, sorry.
-/
import Derived.Test.YoebvwChecked
import GoSem.Claim
import GoSem.ClaimJoined
import GoSem.ClaimMapViews
import Derived.JoinedTies
import Derived.KernelRfl
namespace Go.Proofs.Yoebvw
/- THE CELL 'sum', in the pinned program and in every row, IS THE sha256 OF THE DUMP (.gsa) THAT YoebvwProg.lean LOADS. Nothing in Lean hashes anything: it is a label: what it is worth is what the hold of that sum in a sandbox is worth. -/
noncomputable def Ebvg.pinned : Pinned := { name := "yoebvw", sum := "f850e51e08a508d0196785e436f1b014ee1e3a6f7742df610592a7bb562ef8ba", checked := Ebvg.checked }
namespace Rows
def none {H : Type} : Left H := { results := [], args := [] }

/-- 'zzlaws_parser_b21.FnSelectorStringIsDottedJoin': WHATEVER THE INPUT: true; the input reads as it did. -/
def fnSelectorStringIsDottedJoinSpec : ChangeSpec := { name := "fnSelectorStringIsDottedJoin", fn := fun _ => fun
  | [d1, d2] => { results := [.lit (.bool true)], args := [d1, d2] }
  | _ => none }
def fnSelectorStringIsDottedJoinRow : OpenClaim := { program := "yoebvw", sum := "f850e51e08a508d0196785e436f1b014ee1e3a6f7742df610592a7bb562ef8ba", func := "github.com/d5/tengo/v2/zzlaws_parser_b21.FnSelectorStringIsDottedJoin", spec := "fnSelectorStringIsDottedJoin", unfollowed := true, recurses := true, apart := false }
def FnSelectorStringIsDottedJoinSaid : Prop := fnSelectorStringIsDottedJoinRow.holds Ebvg.pinned (OpenSpec.ofChange fnSelectorStringIsDottedJoinSpec)

/-- ITS FALSE NEIGHBOUR: 'it returns false'. Refute it at one input. -/
def fnSelectorStringIsDottedJoinWrong : ChangeSpec := { name := "fnSelectorStringIsDottedJoin", fn := fun _ => fun
  | [d1, d2] => { results := [.lit (.bool false)], args := [d1, d2] }
  | _ => none }
def FnSelectorStringIsDottedJoinWrongFalsely : Prop := fnSelectorStringIsDottedJoinRow.holds Ebvg.pinned (OpenSpec.ofChange fnSelectorStringIsDottedJoinWrong)

/-- 'zzlaws_parser_b21.FnSelectorPosEndAtEveryDepth': WHATEVER THE INPUT: true; the input reads as it did. -/
def fnSelectorPosEndAtEveryDepthSpec : ChangeSpec := { name := "fnSelectorPosEndAtEveryDepth", fn := fun _ => fun
  | [d1, d2, d3, d4] => { results := [.lit (.bool true)], args := [d1, d2, d3, d4] }
  | _ => none }
def fnSelectorPosEndAtEveryDepthRow : OpenClaim := { program := "yoebvw", sum := "f850e51e08a508d0196785e436f1b014ee1e3a6f7742df610592a7bb562ef8ba", func := "github.com/d5/tengo/v2/zzlaws_parser_b21.FnSelectorPosEndAtEveryDepth", spec := "fnSelectorPosEndAtEveryDepth", unfollowed := true, recurses := true, apart := false }
def FnSelectorPosEndAtEveryDepthSaid : Prop := fnSelectorPosEndAtEveryDepthRow.holds Ebvg.pinned (OpenSpec.ofChange fnSelectorPosEndAtEveryDepthSpec)

/-- ITS FALSE NEIGHBOUR: 'it returns false'. Refute it at one input. -/
def fnSelectorPosEndAtEveryDepthWrong : ChangeSpec := { name := "fnSelectorPosEndAtEveryDepth", fn := fun _ => fun
  | [d1, d2, d3, d4] => { results := [.lit (.bool false)], args := [d1, d2, d3, d4] }
  | _ => none }
def FnSelectorPosEndAtEveryDepthWrongFalsely : Prop := fnSelectorPosEndAtEveryDepthRow.holds Ebvg.pinned (OpenSpec.ofChange fnSelectorPosEndAtEveryDepthWrong)

/-- 'zzlaws_parser_b21.FnSelectorTightSpanMatchesText': WHATEVER THE INPUT: true; the input reads as it did. -/
def fnSelectorTightSpanMatchesTextSpec : ChangeSpec := { name := "fnSelectorTightSpanMatchesText", fn := fun _ => fun
  | [d1, d2, d3] => { results := [.lit (.bool true)], args := [d1, d2, d3] }
  | _ => none }
def fnSelectorTightSpanMatchesTextRow : OpenClaim := { program := "yoebvw", sum := "f850e51e08a508d0196785e436f1b014ee1e3a6f7742df610592a7bb562ef8ba", func := "github.com/d5/tengo/v2/zzlaws_parser_b21.FnSelectorTightSpanMatchesText", spec := "fnSelectorTightSpanMatchesText", unfollowed := true, recurses := true, apart := false }
def FnSelectorTightSpanMatchesTextSaid : Prop := fnSelectorTightSpanMatchesTextRow.holds Ebvg.pinned (OpenSpec.ofChange fnSelectorTightSpanMatchesTextSpec)

/-- ITS FALSE NEIGHBOUR: 'it returns false'. Refute it at one input. -/
def fnSelectorTightSpanMatchesTextWrong : ChangeSpec := { name := "fnSelectorTightSpanMatchesText", fn := fun _ => fun
  | [d1, d2, d3] => { results := [.lit (.bool false)], args := [d1, d2, d3] }
  | _ => none }
def FnSelectorTightSpanMatchesTextWrongFalsely : Prop := fnSelectorTightSpanMatchesTextRow.holds Ebvg.pinned (OpenSpec.ofChange fnSelectorTightSpanMatchesTextWrong)

end Rows
end Go.Proofs.Yoebvw
