/-
  No cell of these rows narrows 'for every input' (looked for: loops, veiled, ifaces, maps, wideKeys, modest, calm, conditions, laid).
  DERIVED. THE GIVEN ROWS OF THIS SEAT. 1 by the template 'for every input the law returns true; each argument reads behind the call as it read before'; 0 by the template 'total and deterministic' (their statements: YoebbwTotals.lean).
  GIVEN WITH THE SEED: the statements are not yours to turn. If you find one false, say at which input.
  Laid BY PROGRAM, IN A SANDBOX (cutbox-rows.mjs): the forced cells as the released guide's own fill.sh prints them over the translation d3d2bb7f8bea3155… (all of the seat's roots in one cut). By AI agents, Wed Nov 11 2026. No macro, syntax, notation, axiom, sorry.
-/
import Derived.Test.YoebbwChecked
import GoSem.Claim
import GoSem.ClaimJoined
import GoSem.ClaimMapViews
import Derived.JoinedTies
import Derived.KernelRfl
namespace Go.Proofs.Yoebbw
/- THE CELL 'sum', in the pinned program and in every row, IS THE sha256 OF THE DUMP (.gsa) THAT YoebbwProg.lean LOADS. Nothing in Lean hashes anything: it is a label: what it is worth is what the hold of that sum in a sandbox is worth. -/
noncomputable def Ebbg.pinned : Pinned := { name := "yoebbw", sum := "d3d2bb7f8bea3155082bfca804600ef167892d17415516f466c96cee220c0c92", checked := Ebbg.checked }
namespace Rows
def none {H : Type} : Left H := { results := [], args := [] }

/-- 'zzlaws_token_b2.FnIsKeywordExactlyTheFifteenKeywords': WHATEVER THE INPUT: true; the input reads as it did. -/
def fnIsKeywordExactlyTheFifteenKeywordsSpec : ChangeSpec := { name := "fnIsKeywordExactlyTheFifteenKeywords", fn := fun _ => fun
  | [d] => { results := [.lit (.bool true)], args := [d] }
  | _ => none }
def fnIsKeywordExactlyTheFifteenKeywordsRow : OpenClaim := { program := "yoebbw", sum := "d3d2bb7f8bea3155082bfca804600ef167892d17415516f466c96cee220c0c92", func := "github.com/d5/tengo/v2/zzlaws_token_b2.FnIsKeywordExactlyTheFifteenKeywords", spec := "fnIsKeywordExactlyTheFifteenKeywords", apart := false }
def FnIsKeywordExactlyTheFifteenKeywordsSaid : Prop := fnIsKeywordExactlyTheFifteenKeywordsRow.holds Ebbg.pinned (OpenSpec.ofChange fnIsKeywordExactlyTheFifteenKeywordsSpec)

/-- ITS FALSE NEIGHBOUR: 'it returns false'. Refute it at one input. -/
def fnIsKeywordExactlyTheFifteenKeywordsWrong : ChangeSpec := { name := "fnIsKeywordExactlyTheFifteenKeywords", fn := fun _ => fun
  | [d] => { results := [.lit (.bool false)], args := [d] }
  | _ => none }
def FnIsKeywordExactlyTheFifteenKeywordsWrongFalsely : Prop := fnIsKeywordExactlyTheFifteenKeywordsRow.holds Ebbg.pinned (OpenSpec.ofChange fnIsKeywordExactlyTheFifteenKeywordsWrong)

end Rows
end Go.Proofs.Yoebbw
