/-
  No cell of these rows narrows 'for every input' (looked for: loops, veiled, ifaces, maps, wideKeys, modest, calm, conditions, laid).
  DERIVED. THE GIVEN ROWS OF THIS SEAT. 3 by the template 'for every input the law returns true; each argument reads behind the call as it read before'; 0 by the template 'total and deterministic' (their statements: Qxb6616907aTotals.lean).
  GIVEN WITH THE SEED: the statements are not yours to turn. If you find one false, say at which input.
  Laid BY PROGRAM, IN A SANDBOX (cutbox-rows.mjs): the forced cells as the released guide's own fill.sh prints them over the translation a5d90225265bf491… (all of the seat's roots in one cut). By AI agents, Wed Nov 11 2026. No macro, syntax, notation, axiom, sorry.
-/
import Derived.Test.Qxb6616907aChecked
import GoSem.Claim
import GoSem.ClaimJoined
import GoSem.ClaimMapViews
import Derived.JoinedTies
import Derived.KernelRfl
namespace Go.Proofs.Qxb6616907a
/- THE CELL 'sum', in the pinned program and in every row, IS THE sha256 OF THE DUMP (.gsa) THAT Qxb6616907aProg.lean LOADS. Nothing in Lean hashes anything: it is a label: what it is worth is what the hold of that sum in a sandbox is worth. -/
noncomputable def Try.pinned : Pinned := { name := "qxb6616907a", sum := "a5d90225265bf4911e570915a4cc08fcf8c7004a9006a7e0f241761a963dc831", checked := Try.checked }
namespace Rows
def none {H : Type} : Left H := { results := [], args := [] }

/-- 'zzlaws_internal_syntax_b1.FnResponseNameAliasWinsOverName': WHATEVER THE INPUT: true; the input reads as it did. -/
def fnResponseNameAliasWinsOverNameSpec : ChangeSpec := { name := "fnResponseNameAliasWinsOverName", fn := fun _ => fun
  | [d1, d2, d3] => { results := [.lit (.bool true)], args := [d1, d2, d3] }
  | _ => none }
def fnResponseNameAliasWinsOverNameRow : OpenClaim := { program := "qxb6616907a", sum := "a5d90225265bf4911e570915a4cc08fcf8c7004a9006a7e0f241761a963dc831", func := "example.com/rakugraph/rakugraph/zzlaws_internal_syntax_b1.FnResponseNameAliasWinsOverName", spec := "fnResponseNameAliasWinsOverName", apart := false }
def FnResponseNameAliasWinsOverNameSaid : Prop := fnResponseNameAliasWinsOverNameRow.holds Try.pinned (OpenSpec.ofChange fnResponseNameAliasWinsOverNameSpec)

/-- ITS FALSE NEIGHBOUR: 'it returns false'. Refute it at one input. -/
def fnResponseNameAliasWinsOverNameWrong : ChangeSpec := { name := "fnResponseNameAliasWinsOverName", fn := fun _ => fun
  | [d1, d2, d3] => { results := [.lit (.bool false)], args := [d1, d2, d3] }
  | _ => none }
def FnResponseNameAliasWinsOverNameWrongFalsely : Prop := fnResponseNameAliasWinsOverNameRow.holds Try.pinned (OpenSpec.ofChange fnResponseNameAliasWinsOverNameWrong)

/-- 'zzlaws_internal_syntax_b1.FnNewLexerFreshAndUnshared': WHATEVER THE INPUT: true; the input reads as it did. -/
def fnNewLexerFreshAndUnsharedSpec : ChangeSpec := { name := "fnNewLexerFreshAndUnshared", fn := fun _ => fun
  | [d] => { results := [.lit (.bool true)], args := [d] }
  | _ => none }
def fnNewLexerFreshAndUnsharedRow : OpenClaim := { program := "qxb6616907a", sum := "a5d90225265bf4911e570915a4cc08fcf8c7004a9006a7e0f241761a963dc831", func := "example.com/rakugraph/rakugraph/zzlaws_internal_syntax_b1.FnNewLexerFreshAndUnshared", spec := "fnNewLexerFreshAndUnshared", apart := false }
def FnNewLexerFreshAndUnsharedSaid : Prop := fnNewLexerFreshAndUnsharedRow.holds Try.pinned (OpenSpec.ofChange fnNewLexerFreshAndUnsharedSpec)

/-- ITS FALSE NEIGHBOUR: 'it returns false'. Refute it at one input. -/
def fnNewLexerFreshAndUnsharedWrong : ChangeSpec := { name := "fnNewLexerFreshAndUnshared", fn := fun _ => fun
  | [d] => { results := [.lit (.bool false)], args := [d] }
  | _ => none }
def FnNewLexerFreshAndUnsharedWrongFalsely : Prop := fnNewLexerFreshAndUnsharedRow.holds Try.pinned (OpenSpec.ofChange fnNewLexerFreshAndUnsharedWrong)

/-- 'zzlaws_internal_syntax_b1.FnIsNameStartCaseFoldAndCount': WHATEVER THE INPUT: true; the input reads as it did. -/
def fnIsNameStartCaseFoldAndCountSpec : ChangeSpec := { name := "fnIsNameStartCaseFoldAndCount", fn := fun _ => fun
  | [d] => { results := [.lit (.bool true)], args := [d] }
  | _ => none }
def fnIsNameStartCaseFoldAndCountRow : OpenClaim := { program := "qxb6616907a", sum := "a5d90225265bf4911e570915a4cc08fcf8c7004a9006a7e0f241761a963dc831", func := "example.com/rakugraph/rakugraph/zzlaws_internal_syntax_b1.FnIsNameStartCaseFoldAndCount", spec := "fnIsNameStartCaseFoldAndCount", apart := false }
def FnIsNameStartCaseFoldAndCountSaid : Prop := fnIsNameStartCaseFoldAndCountRow.holds Try.pinned (OpenSpec.ofChange fnIsNameStartCaseFoldAndCountSpec)

/-- ITS FALSE NEIGHBOUR: 'it returns false'. Refute it at one input. -/
def fnIsNameStartCaseFoldAndCountWrong : ChangeSpec := { name := "fnIsNameStartCaseFoldAndCount", fn := fun _ => fun
  | [d] => { results := [.lit (.bool false)], args := [d] }
  | _ => none }
def FnIsNameStartCaseFoldAndCountWrongFalsely : Prop := fnIsNameStartCaseFoldAndCountRow.holds Try.pinned (OpenSpec.ofChange fnIsNameStartCaseFoldAndCountWrong)

end Rows
end Go.Proofs.Qxb6616907a
