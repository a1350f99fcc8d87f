/-
  No cell of these rows narrows 'for every input' (looked for: loops, veiled, ifaces, maps, wideKeys, modest, calm, conditions, laid).
  DERIVED. THE GIVEN ROWS OF THIS SEAT. 3 by the template 'for every input the law returns true; each argument reads behind the call as it read before'; 0 by the template 'total and deterministic' (their statements: Qxb6605418aTotals.lean).
  GIVEN WITH THE SEED: the statements are not yours to turn. If you find one false, say at which input.
  Laid BY PROGRAM, IN A SANDBOX (cutbox-rows.mjs): the forced cells as the released guide's own fill.sh prints them over the translation 16104c8d61542ac9… (all of the seat's roots in one cut). By AI agents, Wed Nov 11 2026. No macro, syntax, notation, axiom, sorry.
-/
import Derived.Test.Qxb6605418aChecked
import GoSem.Claim
import GoSem.ClaimJoined
import GoSem.ClaimMapViews
import Derived.JoinedTies
import Derived.KernelRfl
namespace Go.Proofs.Qxb6605418a
/- THE CELL 'sum', in the pinned program and in every row, IS THE sha256 OF THE DUMP (.gsa) THAT Qxb6605418aProg.lean LOADS. Nothing in Lean hashes anything: it is a label: what it is worth is what the hold of that sum in a sandbox is worth. -/
noncomputable def Try.pinned : Pinned := { name := "qxb6605418a", sum := "16104c8d61542ac9cb9c2f38f02e17286a953c43093ebab9ba7642012eec9b8b", checked := Try.checked }
namespace Rows
def none {H : Type} : Left H := { results := [], args := [] }

/-- 'zzlaws_internal_jsonvalue_b1.FnCompactionNumberFollowsJSONNumberAutomaton': WHATEVER THE INPUT: true; the input reads as it did. -/
def fnCompactionNumberFollowsJSONNumberAutomatonSpec : ChangeSpec := { name := "fnCompactionNumberFollowsJSONNumberAutomaton", fn := fun _ => fun
  | [d1, d2, d3, d4] => { results := [.lit (.bool true)], args := [d1, d2, d3, d4] }
  | _ => none }
def fnCompactionNumberFollowsJSONNumberAutomatonRow : OpenClaim := { program := "qxb6605418a", sum := "16104c8d61542ac9cb9c2f38f02e17286a953c43093ebab9ba7642012eec9b8b", func := "example.com/session-state-store/session-state-store/zzlaws_internal_jsonvalue_b1.FnCompactionNumberFollowsJSONNumberAutomaton", spec := "fnCompactionNumberFollowsJSONNumberAutomaton", apart := false }
def FnCompactionNumberFollowsJSONNumberAutomatonSaid : Prop := fnCompactionNumberFollowsJSONNumberAutomatonRow.holds Try.pinned (OpenSpec.ofChange fnCompactionNumberFollowsJSONNumberAutomatonSpec)

/-- ITS FALSE NEIGHBOUR: 'it returns false'. Refute it at one input. -/
def fnCompactionNumberFollowsJSONNumberAutomatonWrong : ChangeSpec := { name := "fnCompactionNumberFollowsJSONNumberAutomaton", fn := fun _ => fun
  | [d1, d2, d3, d4] => { results := [.lit (.bool false)], args := [d1, d2, d3, d4] }
  | _ => none }
def FnCompactionNumberFollowsJSONNumberAutomatonWrongFalsely : Prop := fnCompactionNumberFollowsJSONNumberAutomatonRow.holds Try.pinned (OpenSpec.ofChange fnCompactionNumberFollowsJSONNumberAutomatonWrong)

/-- 'zzlaws_internal_jsonvalue_b1.FnEscapeLenMatchesJSONEscapeGrammar': WHATEVER THE INPUT: true; the input reads as it did. -/
def fnEscapeLenMatchesJSONEscapeGrammarSpec : ChangeSpec := { name := "fnEscapeLenMatchesJSONEscapeGrammar", fn := fun _ => fun
  | [d] => { results := [.lit (.bool true)], args := [d] }
  | _ => none }
def fnEscapeLenMatchesJSONEscapeGrammarRow : OpenClaim := { program := "qxb6605418a", sum := "16104c8d61542ac9cb9c2f38f02e17286a953c43093ebab9ba7642012eec9b8b", func := "example.com/session-state-store/session-state-store/zzlaws_internal_jsonvalue_b1.FnEscapeLenMatchesJSONEscapeGrammar", spec := "fnEscapeLenMatchesJSONEscapeGrammar", apart := false }
def FnEscapeLenMatchesJSONEscapeGrammarSaid : Prop := fnEscapeLenMatchesJSONEscapeGrammarRow.holds Try.pinned (OpenSpec.ofChange fnEscapeLenMatchesJSONEscapeGrammarSpec)

/-- ITS FALSE NEIGHBOUR: 'it returns false'. Refute it at one input. -/
def fnEscapeLenMatchesJSONEscapeGrammarWrong : ChangeSpec := { name := "fnEscapeLenMatchesJSONEscapeGrammar", fn := fun _ => fun
  | [d] => { results := [.lit (.bool false)], args := [d] }
  | _ => none }
def FnEscapeLenMatchesJSONEscapeGrammarWrongFalsely : Prop := fnEscapeLenMatchesJSONEscapeGrammarRow.holds Try.pinned (OpenSpec.ofChange fnEscapeLenMatchesJSONEscapeGrammarWrong)

/-- 'zzlaws_internal_jsonvalue_b1.FnNestedLenMatchesBracketAutomaton': WHATEVER THE INPUT: true; the input reads as it did. -/
def fnNestedLenMatchesBracketAutomatonSpec : ChangeSpec := { name := "fnNestedLenMatchesBracketAutomaton", fn := fun _ => fun
  | [d] => { results := [.lit (.bool true)], args := [d] }
  | _ => none }
def fnNestedLenMatchesBracketAutomatonRow : OpenClaim := { program := "qxb6605418a", sum := "16104c8d61542ac9cb9c2f38f02e17286a953c43093ebab9ba7642012eec9b8b", func := "example.com/session-state-store/session-state-store/zzlaws_internal_jsonvalue_b1.FnNestedLenMatchesBracketAutomaton", spec := "fnNestedLenMatchesBracketAutomaton", inPlace := ["internal/bytealg.IndexByte"], apart := false }
def FnNestedLenMatchesBracketAutomatonSaid : Prop := fnNestedLenMatchesBracketAutomatonRow.holds Try.pinned (OpenSpec.ofChange fnNestedLenMatchesBracketAutomatonSpec)

/-- ITS FALSE NEIGHBOUR: 'it returns false'. Refute it at one input. -/
def fnNestedLenMatchesBracketAutomatonWrong : ChangeSpec := { name := "fnNestedLenMatchesBracketAutomaton", fn := fun _ => fun
  | [d] => { results := [.lit (.bool false)], args := [d] }
  | _ => none }
def FnNestedLenMatchesBracketAutomatonWrongFalsely : Prop := fnNestedLenMatchesBracketAutomatonRow.holds Try.pinned (OpenSpec.ofChange fnNestedLenMatchesBracketAutomatonWrong)

end Rows
end Go.Proofs.Qxb6605418a
