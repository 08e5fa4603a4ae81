/-
  No cell of these rows narrows 'for every input' (looked for: loops, veiled, ifaces, maps, wideKeys, modest, calm, conditions, laid).
  DERIVED. THE GIVEN ROWS OF THIS SEAT. 4 by the template 'for every input the law returns true; each argument reads behind the call as it read before'; 0 by the template 'total and deterministic' (their statements: YoeemwTotals.lean).
  GIVEN WITH THE SEED: the statements are not yours to turn. If you find one false, say at which input.
  Laid BY PROGRAM, IN A SANDBOX (cutbox-rows.mjs): the forced cells as the released guide's own fill.sh prints them over the translation 29a2edb503754ad5… (all of the seat's roots in one cut). By AI agents, Wed Nov 11 2026. No macro, syntax, notation, axiom, sorry.
-/
import Derived.Test.YoeemwChecked
import GoSem.Claim
import GoSem.ClaimJoined
import GoSem.ClaimMapViews
import Derived.JoinedTies
import Derived.KernelRfl
namespace Go.Proofs.Yoeemw
/- THE CELL 'sum', in the pinned program and in every row, IS THE sha256 OF THE DUMP (.gsa) THAT YoeemwProg.lean LOADS. Nothing in Lean hashes anything: it is a label: what it is worth is what the hold of that sum in a sandbox is worth. -/
noncomputable def Eemg.pinned : Pinned := { name := "yoeemw", sum := "29a2edb503754ad5593055dd7b835fef545c9a86716f4468d5d97afcdff90530", checked := Eemg.checked }
namespace Rows
def none {H : Type} : Left H := { results := [], args := [] }

/-- 'zzlaws_parser_b6.FnCallEllipsisOnlyAddsDots': WHATEVER THE INPUT: true; the input reads as it did. -/
def fnCallEllipsisOnlyAddsDotsSpec : ChangeSpec := { name := "fnCallEllipsisOnlyAddsDots", fn := fun _ => fun
  | [d1, d2, d3] => { results := [.lit (.bool true)], args := [d1, d2, d3] }
  | _ => none }
def fnCallEllipsisOnlyAddsDotsRow : OpenClaim := { program := "yoeemw", sum := "29a2edb503754ad5593055dd7b835fef545c9a86716f4468d5d97afcdff90530", func := "github.com/d5/tengo/v2/zzlaws_parser_b6.FnCallEllipsisOnlyAddsDots", spec := "fnCallEllipsisOnlyAddsDots", inPlace := ["internal/abi.NoEscape", "internal/bytealg.MakeNoZero"], unfollowed := true, recurses := true, apart := false }
def FnCallEllipsisOnlyAddsDotsSaid : Prop := fnCallEllipsisOnlyAddsDotsRow.holds Eemg.pinned (OpenSpec.ofChange fnCallEllipsisOnlyAddsDotsSpec)

/-- ITS FALSE NEIGHBOUR: 'it returns false'. Refute it at one input. -/
def fnCallEllipsisOnlyAddsDotsWrong : ChangeSpec := { name := "fnCallEllipsisOnlyAddsDots", fn := fun _ => fun
  | [d1, d2, d3] => { results := [.lit (.bool false)], args := [d1, d2, d3] }
  | _ => none }
def FnCallEllipsisOnlyAddsDotsWrongFalsely : Prop := fnCallEllipsisOnlyAddsDotsRow.holds Eemg.pinned (OpenSpec.ofChange fnCallEllipsisOnlyAddsDotsWrong)

/-- 'zzlaws_parser_b6.FnCallPosIsLeftmost': WHATEVER THE INPUT: true; the input reads as it did. -/
def fnCallPosIsLeftmostSpec : ChangeSpec := { name := "fnCallPosIsLeftmost", fn := fun _ => fun
  | [d1, d2, d3, d4, d5, d6, d7] => { results := [.lit (.bool true)], args := [d1, d2, d3, d4, d5, d6, d7] }
  | _ => none }
def fnCallPosIsLeftmostRow : OpenClaim := { program := "yoeemw", sum := "29a2edb503754ad5593055dd7b835fef545c9a86716f4468d5d97afcdff90530", func := "github.com/d5/tengo/v2/zzlaws_parser_b6.FnCallPosIsLeftmost", spec := "fnCallPosIsLeftmost", unfollowed := true, recurses := true, apart := false }
def FnCallPosIsLeftmostSaid : Prop := fnCallPosIsLeftmostRow.holds Eemg.pinned (OpenSpec.ofChange fnCallPosIsLeftmostSpec)

/-- ITS FALSE NEIGHBOUR: 'it returns false'. Refute it at one input. -/
def fnCallPosIsLeftmostWrong : ChangeSpec := { name := "fnCallPosIsLeftmost", fn := fun _ => fun
  | [d1, d2, d3, d4, d5, d6, d7] => { results := [.lit (.bool false)], args := [d1, d2, d3, d4, d5, d6, d7] }
  | _ => none }
def FnCallPosIsLeftmostWrongFalsely : Prop := fnCallPosIsLeftmostRow.holds Eemg.pinned (OpenSpec.ofChange fnCallPosIsLeftmostWrong)

/-- 'zzlaws_parser_b6.FnCallSpanEqualsText': WHATEVER THE INPUT: true; the input reads as it did. -/
def fnCallSpanEqualsTextSpec : ChangeSpec := { name := "fnCallSpanEqualsText", fn := fun _ => fun
  | [d1, d2, d3, d4] => { results := [.lit (.bool true)], args := [d1, d2, d3, d4] }
  | _ => none }
def fnCallSpanEqualsTextRow : OpenClaim := { program := "yoeemw", sum := "29a2edb503754ad5593055dd7b835fef545c9a86716f4468d5d97afcdff90530", func := "github.com/d5/tengo/v2/zzlaws_parser_b6.FnCallSpanEqualsText", spec := "fnCallSpanEqualsText", inPlace := ["internal/abi.NoEscape", "internal/bytealg.MakeNoZero"], unfollowed := true, recurses := true, apart := false }
def FnCallSpanEqualsTextSaid : Prop := fnCallSpanEqualsTextRow.holds Eemg.pinned (OpenSpec.ofChange fnCallSpanEqualsTextSpec)

/-- ITS FALSE NEIGHBOUR: 'it returns false'. Refute it at one input. -/
def fnCallSpanEqualsTextWrong : ChangeSpec := { name := "fnCallSpanEqualsText", fn := fun _ => fun
  | [d1, d2, d3, d4] => { results := [.lit (.bool false)], args := [d1, d2, d3, d4] }
  | _ => none }
def FnCallSpanEqualsTextWrongFalsely : Prop := fnCallSpanEqualsTextRow.holds Eemg.pinned (OpenSpec.ofChange fnCallSpanEqualsTextWrong)

/-- 'zzlaws_parser_b6.FnCallEndFollowsRParen': WHATEVER THE INPUT: true; the input reads as it did. -/
def fnCallEndFollowsRParenSpec : ChangeSpec := { name := "fnCallEndFollowsRParen", fn := fun _ => fun
  | [d1, d2, d3, d4, d5, d6, d7] => { results := [.lit (.bool true)], args := [d1, d2, d3, d4, d5, d6, d7] }
  | _ => none }
def fnCallEndFollowsRParenRow : OpenClaim := { program := "yoeemw", sum := "29a2edb503754ad5593055dd7b835fef545c9a86716f4468d5d97afcdff90530", func := "github.com/d5/tengo/v2/zzlaws_parser_b6.FnCallEndFollowsRParen", spec := "fnCallEndFollowsRParen", recurses := true, apart := false }
def FnCallEndFollowsRParenSaid : Prop := fnCallEndFollowsRParenRow.holds Eemg.pinned (OpenSpec.ofChange fnCallEndFollowsRParenSpec)

/-- ITS FALSE NEIGHBOUR: 'it returns false'. Refute it at one input. -/
def fnCallEndFollowsRParenWrong : ChangeSpec := { name := "fnCallEndFollowsRParen", fn := fun _ => fun
  | [d1, d2, d3, d4, d5, d6, d7] => { results := [.lit (.bool false)], args := [d1, d2, d3, d4, d5, d6, d7] }
  | _ => none }
def FnCallEndFollowsRParenWrongFalsely : Prop := fnCallEndFollowsRParenRow.holds Eemg.pinned (OpenSpec.ofChange fnCallEndFollowsRParenWrong)

end Rows
end Go.Proofs.Yoeemw
