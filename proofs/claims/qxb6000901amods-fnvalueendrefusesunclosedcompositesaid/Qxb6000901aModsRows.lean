/-
  No cell of these rows narrows 'for every input' (looked for: loops, veiled, ifaces, maps, wideKeys, modest, calm, conditions, laid).
  DERIVED. THE GIVEN ROWS OF THIS SEAT. 8 by the template 'for every input the law returns true; each argument reads behind the call as it read before'; 0 by the template 'total and deterministic' (their statements: Qxb6000901aModsTotals.lean).
  GIVEN WITH THE SEED: the statements are not yours to turn. If you find one false, say at which input.
  Laid BY PROGRAM, IN A SANDBOX (cutbox-rows.mjs): the forced cells as the released guide's own fill.sh prints them over the translation 6ff14ce026751145… (all of the seat's roots in one cut). By AI agents, Wed Nov 11 2026. No macro, syntax, notation, axiom, sorry.
-/
import Derived.Test.Qxb6000901aModsChecked
import GoSem.Claim
import GoSem.ClaimJoined
import GoSem.ClaimMapViews
import Derived.JoinedTies
import Derived.KernelRfl
namespace Go.Proofs.Qxb6000901aMods
/- THE CELL 'sum', in the pinned program and in every row, IS THE sha256 OF THE DUMP (.gsa) THAT Qxb6000901aModsProg.lean LOADS. Nothing in Lean hashes anything: it is a label: what it is worth is what the hold of that sum in a sandbox is worth. -/
noncomputable def Trym.pinned : Pinned := { name := "qxb6000901amods", sum := "6ff14ce026751145bd5f58edaf9534ea35eb917ebda32b8f50f165ae3ea4b747", checked := Trym.checked }
namespace Rows
def none {H : Type} : Left H := { results := [], args := [] }

/-- 'zzlaws_cluster_b1.FnNumberEndMatchesGrammarAutomaton': WHATEVER THE INPUT: true; the input reads as it did. -/
def fnNumberEndMatchesGrammarAutomatonSpec : ChangeSpec := { name := "fnNumberEndMatchesGrammarAutomaton", fn := fun _ => fun
  | [d1, d2] => { results := [.lit (.bool true)], args := [d1, d2] }
  | _ => none }
def fnNumberEndMatchesGrammarAutomatonRow : OpenClaim := { program := "qxb6000901amods", sum := "6ff14ce026751145bd5f58edaf9534ea35eb917ebda32b8f50f165ae3ea4b747", func := "example.com/ruleloom/ruleloom/zzlaws_cluster_b1.FnNumberEndMatchesGrammarAutomaton", spec := "fnNumberEndMatchesGrammarAutomaton", make := .lifted ["publicsums"], apart := false }
def FnNumberEndMatchesGrammarAutomatonSaid : Prop := fnNumberEndMatchesGrammarAutomatonRow.holds Trym.pinned (OpenSpec.ofChange fnNumberEndMatchesGrammarAutomatonSpec)

/-- ITS FALSE NEIGHBOUR: 'it returns false'. Refute it at one input. -/
def fnNumberEndMatchesGrammarAutomatonWrong : ChangeSpec := { name := "fnNumberEndMatchesGrammarAutomaton", fn := fun _ => fun
  | [d1, d2] => { results := [.lit (.bool false)], args := [d1, d2] }
  | _ => none }
def FnNumberEndMatchesGrammarAutomatonWrongFalsely : Prop := fnNumberEndMatchesGrammarAutomatonRow.holds Trym.pinned (OpenSpec.ofChange fnNumberEndMatchesGrammarAutomatonWrong)

/-- 'zzlaws_cluster_b1.FnNumberEndShiftInvariant': WHATEVER THE INPUT: true; the input reads as it did. -/
def fnNumberEndShiftInvariantSpec : ChangeSpec := { name := "fnNumberEndShiftInvariant", fn := fun _ => fun
  | [d1, d2, d3] => { results := [.lit (.bool true)], args := [d1, d2, d3] }
  | _ => none }
def fnNumberEndShiftInvariantRow : OpenClaim := { program := "qxb6000901amods", sum := "6ff14ce026751145bd5f58edaf9534ea35eb917ebda32b8f50f165ae3ea4b747", func := "example.com/ruleloom/ruleloom/zzlaws_cluster_b1.FnNumberEndShiftInvariant", spec := "fnNumberEndShiftInvariant", make := .lifted ["publicsums"], apart := false }
def FnNumberEndShiftInvariantSaid : Prop := fnNumberEndShiftInvariantRow.holds Trym.pinned (OpenSpec.ofChange fnNumberEndShiftInvariantSpec)

/-- ITS FALSE NEIGHBOUR: 'it returns false'. Refute it at one input. -/
def fnNumberEndShiftInvariantWrong : ChangeSpec := { name := "fnNumberEndShiftInvariant", fn := fun _ => fun
  | [d1, d2, d3] => { results := [.lit (.bool false)], args := [d1, d2, d3] }
  | _ => none }
def FnNumberEndShiftInvariantWrongFalsely : Prop := fnNumberEndShiftInvariantRow.holds Trym.pinned (OpenSpec.ofChange fnNumberEndShiftInvariantWrong)

/-- 'zzlaws_cluster_b1.FnNumberEndTruncationStable': WHATEVER THE INPUT: true; the input reads as it did. -/
def fnNumberEndTruncationStableSpec : ChangeSpec := { name := "fnNumberEndTruncationStable", fn := fun _ => fun
  | [d1, d2] => { results := [.lit (.bool true)], args := [d1, d2] }
  | _ => none }
def fnNumberEndTruncationStableRow : OpenClaim := { program := "qxb6000901amods", sum := "6ff14ce026751145bd5f58edaf9534ea35eb917ebda32b8f50f165ae3ea4b747", func := "example.com/ruleloom/ruleloom/zzlaws_cluster_b1.FnNumberEndTruncationStable", spec := "fnNumberEndTruncationStable", make := .lifted ["publicsums"], apart := false }
def FnNumberEndTruncationStableSaid : Prop := fnNumberEndTruncationStableRow.holds Trym.pinned (OpenSpec.ofChange fnNumberEndTruncationStableSpec)

/-- ITS FALSE NEIGHBOUR: 'it returns false'. Refute it at one input. -/
def fnNumberEndTruncationStableWrong : ChangeSpec := { name := "fnNumberEndTruncationStable", fn := fun _ => fun
  | [d1, d2] => { results := [.lit (.bool false)], args := [d1, d2] }
  | _ => none }
def FnNumberEndTruncationStableWrongFalsely : Prop := fnNumberEndTruncationStableRow.holds Trym.pinned (OpenSpec.ofChange fnNumberEndTruncationStableWrong)

/-- 'zzlaws_cluster_b1.FnStringEndFindsClosingQuoteOfEncodedString': WHATEVER THE INPUT: true; the input reads as it did. -/
def fnStringEndFindsClosingQuoteOfEncodedStringSpec : ChangeSpec := { name := "fnStringEndFindsClosingQuoteOfEncodedString", fn := fun _ => fun
  | [d1, d2, d3] => { results := [.lit (.bool true)], args := [d1, d2, d3] }
  | _ => none }
def fnStringEndFindsClosingQuoteOfEncodedStringRow : OpenClaim := { program := "qxb6000901amods", sum := "6ff14ce026751145bd5f58edaf9534ea35eb917ebda32b8f50f165ae3ea4b747", func := "example.com/ruleloom/ruleloom/zzlaws_cluster_b1.FnStringEndFindsClosingQuoteOfEncodedString", spec := "fnStringEndFindsClosingQuoteOfEncodedString", make := .lifted ["publicsums"], apart := false }
def FnStringEndFindsClosingQuoteOfEncodedStringSaid : Prop := fnStringEndFindsClosingQuoteOfEncodedStringRow.holds Trym.pinned (OpenSpec.ofChange fnStringEndFindsClosingQuoteOfEncodedStringSpec)

/-- ITS FALSE NEIGHBOUR: 'it returns false'. Refute it at one input. -/
def fnStringEndFindsClosingQuoteOfEncodedStringWrong : ChangeSpec := { name := "fnStringEndFindsClosingQuoteOfEncodedString", fn := fun _ => fun
  | [d1, d2, d3] => { results := [.lit (.bool false)], args := [d1, d2, d3] }
  | _ => none }
def FnStringEndFindsClosingQuoteOfEncodedStringWrongFalsely : Prop := fnStringEndFindsClosingQuoteOfEncodedStringRow.holds Trym.pinned (OpenSpec.ofChange fnStringEndFindsClosingQuoteOfEncodedStringWrong)

/-- 'zzlaws_cluster_b1.FnStringEndDecidedAtItsClosingQuote': WHATEVER THE INPUT: true; the input reads as it did. -/
def fnStringEndDecidedAtItsClosingQuoteSpec : ChangeSpec := { name := "fnStringEndDecidedAtItsClosingQuote", fn := fun _ => fun
  | [d1, d2, d3] => { results := [.lit (.bool true)], args := [d1, d2, d3] }
  | _ => none }
def fnStringEndDecidedAtItsClosingQuoteRow : OpenClaim := { program := "qxb6000901amods", sum := "6ff14ce026751145bd5f58edaf9534ea35eb917ebda32b8f50f165ae3ea4b747", func := "example.com/ruleloom/ruleloom/zzlaws_cluster_b1.FnStringEndDecidedAtItsClosingQuote", spec := "fnStringEndDecidedAtItsClosingQuote", make := .lifted ["publicsums"], apart := false }
def FnStringEndDecidedAtItsClosingQuoteSaid : Prop := fnStringEndDecidedAtItsClosingQuoteRow.holds Trym.pinned (OpenSpec.ofChange fnStringEndDecidedAtItsClosingQuoteSpec)

/-- ITS FALSE NEIGHBOUR: 'it returns false'. Refute it at one input. -/
def fnStringEndDecidedAtItsClosingQuoteWrong : ChangeSpec := { name := "fnStringEndDecidedAtItsClosingQuote", fn := fun _ => fun
  | [d1, d2, d3] => { results := [.lit (.bool false)], args := [d1, d2, d3] }
  | _ => none }
def FnStringEndDecidedAtItsClosingQuoteWrongFalsely : Prop := fnStringEndDecidedAtItsClosingQuoteRow.holds Trym.pinned (OpenSpec.ofChange fnStringEndDecidedAtItsClosingQuoteWrong)

/-- 'zzlaws_cluster_b1.FnValueEndSpansGeneratedComposite': WHATEVER THE INPUT: true; the input reads as it did. -/
def fnValueEndSpansGeneratedCompositeSpec : ChangeSpec := { name := "fnValueEndSpansGeneratedComposite", fn := fun _ => fun
  | [d1, d2, d3] => { results := [.lit (.bool true)], args := [d1, d2, d3] }
  | _ => none }
def fnValueEndSpansGeneratedCompositeRow : OpenClaim := { program := "qxb6000901amods", sum := "6ff14ce026751145bd5f58edaf9534ea35eb917ebda32b8f50f165ae3ea4b747", func := "example.com/ruleloom/ruleloom/zzlaws_cluster_b1.FnValueEndSpansGeneratedComposite", spec := "fnValueEndSpansGeneratedComposite", make := .lifted ["publicsums"], apart := false }
def FnValueEndSpansGeneratedCompositeSaid : Prop := fnValueEndSpansGeneratedCompositeRow.holds Trym.pinned (OpenSpec.ofChange fnValueEndSpansGeneratedCompositeSpec)

/-- ITS FALSE NEIGHBOUR: 'it returns false'. Refute it at one input. -/
def fnValueEndSpansGeneratedCompositeWrong : ChangeSpec := { name := "fnValueEndSpansGeneratedComposite", fn := fun _ => fun
  | [d1, d2, d3] => { results := [.lit (.bool false)], args := [d1, d2, d3] }
  | _ => none }
def FnValueEndSpansGeneratedCompositeWrongFalsely : Prop := fnValueEndSpansGeneratedCompositeRow.holds Trym.pinned (OpenSpec.ofChange fnValueEndSpansGeneratedCompositeWrong)

/-- 'zzlaws_cluster_b1.FnValueEndRefusesUnclosedComposite': WHATEVER THE INPUT: true; the input reads as it did. -/
def fnValueEndRefusesUnclosedCompositeSpec : ChangeSpec := { name := "fnValueEndRefusesUnclosedComposite", fn := fun _ => fun
  | [d1, d2] => { results := [.lit (.bool true)], args := [d1, d2] }
  | _ => none }
def fnValueEndRefusesUnclosedCompositeRow : OpenClaim := { program := "qxb6000901amods", sum := "6ff14ce026751145bd5f58edaf9534ea35eb917ebda32b8f50f165ae3ea4b747", func := "example.com/ruleloom/ruleloom/zzlaws_cluster_b1.FnValueEndRefusesUnclosedComposite", spec := "fnValueEndRefusesUnclosedComposite", make := .lifted ["publicsums"], apart := false }
def FnValueEndRefusesUnclosedCompositeSaid : Prop := fnValueEndRefusesUnclosedCompositeRow.holds Trym.pinned (OpenSpec.ofChange fnValueEndRefusesUnclosedCompositeSpec)

/-- ITS FALSE NEIGHBOUR: 'it returns false'. Refute it at one input. -/
def fnValueEndRefusesUnclosedCompositeWrong : ChangeSpec := { name := "fnValueEndRefusesUnclosedComposite", fn := fun _ => fun
  | [d1, d2] => { results := [.lit (.bool false)], args := [d1, d2] }
  | _ => none }
def FnValueEndRefusesUnclosedCompositeWrongFalsely : Prop := fnValueEndRefusesUnclosedCompositeRow.holds Trym.pinned (OpenSpec.ofChange fnValueEndRefusesUnclosedCompositeWrong)

/-- 'zzlaws_cluster_b1.FnValueEndTruncationStable': WHATEVER THE INPUT: true; the input reads as it did. -/
def fnValueEndTruncationStableSpec : ChangeSpec := { name := "fnValueEndTruncationStable", fn := fun _ => fun
  | [d1, d2] => { results := [.lit (.bool true)], args := [d1, d2] }
  | _ => none }
def fnValueEndTruncationStableRow : OpenClaim := { program := "qxb6000901amods", sum := "6ff14ce026751145bd5f58edaf9534ea35eb917ebda32b8f50f165ae3ea4b747", func := "example.com/ruleloom/ruleloom/zzlaws_cluster_b1.FnValueEndTruncationStable", spec := "fnValueEndTruncationStable", make := .lifted ["publicsums"], apart := false }
def FnValueEndTruncationStableSaid : Prop := fnValueEndTruncationStableRow.holds Trym.pinned (OpenSpec.ofChange fnValueEndTruncationStableSpec)

/-- ITS FALSE NEIGHBOUR: 'it returns false'. Refute it at one input. -/
def fnValueEndTruncationStableWrong : ChangeSpec := { name := "fnValueEndTruncationStable", fn := fun _ => fun
  | [d1, d2] => { results := [.lit (.bool false)], args := [d1, d2] }
  | _ => none }
def FnValueEndTruncationStableWrongFalsely : Prop := fnValueEndTruncationStableRow.holds Trym.pinned (OpenSpec.ofChange fnValueEndTruncationStableWrong)

end Rows
end Go.Proofs.Qxb6000901aMods
