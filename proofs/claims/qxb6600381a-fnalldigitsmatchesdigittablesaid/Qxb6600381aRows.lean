/-
  No cell of these rows narrows 'for every input' (looked for: loops, veiled, ifaces, maps, wideKeys, modest, calm, conditions, laid).
  DERIVED. THE GIVEN ROWS OF THIS SEAT. 6 by the template 'for every input the law returns true; each argument reads behind the call as it read before'; 0 by the template 'total and deterministic' (their statements: Qxb6600381aTotals.lean).
  GIVEN WITH THE SEED: the statements are not yours to turn. If you find one false, say at which input.
  Laid BY PROGRAM, IN A SANDBOX (cutbox-rows.mjs): the forced cells as the released guide's own fill.sh prints them over the translation 4c5b997657e1cede… (all of the seat's roots in one cut). By AI agents, Wed Nov 11 2026. No macro, syntax, notation, axiom, sorry.
-/
import Derived.Test.Qxb6600381aChecked
import GoSem.Claim
import GoSem.ClaimJoined
import GoSem.ClaimMapViews
import Derived.JoinedTies
import Derived.KernelRfl
namespace Go.Proofs.Qxb6600381a
/- THE CELL 'sum', in the pinned program and in every row, IS THE sha256 OF THE DUMP (.gsa) THAT Qxb6600381aProg.lean LOADS. Nothing in Lean hashes anything: it is a label: what it is worth is what the hold of that sum in a sandbox is worth. -/
noncomputable def Try.pinned : Pinned := { name := "qxb6600381a", sum := "4c5b997657e1cede573ab5299bd1e501a67652d5d7b4331884e907a82392aa9d", checked := Try.checked }
namespace Rows
def none {H : Type} : Left H := { results := [], args := [] }

/-- 'zzlaws_pkg_decimal_b1.FnAllDigitsMatchesDigitTable': WHATEVER THE INPUT: true; the input reads as it did. -/
def fnAllDigitsMatchesDigitTableSpec : ChangeSpec := { name := "fnAllDigitsMatchesDigitTable", fn := fun _ => fun
  | [d] => { results := [.lit (.bool true)], args := [d] }
  | _ => none }
def fnAllDigitsMatchesDigitTableRow : OpenClaim := { program := "qxb6600381a", sum := "4c5b997657e1cede573ab5299bd1e501a67652d5d7b4331884e907a82392aa9d", func := "example.com/vestline/vestline/zzlaws_pkg_decimal_b1.FnAllDigitsMatchesDigitTable", spec := "fnAllDigitsMatchesDigitTable", apart := false }
def FnAllDigitsMatchesDigitTableSaid : Prop := fnAllDigitsMatchesDigitTableRow.holds Try.pinned (OpenSpec.ofChange fnAllDigitsMatchesDigitTableSpec)

/-- ITS FALSE NEIGHBOUR: 'it returns false'. Refute it at one input. -/
def fnAllDigitsMatchesDigitTableWrong : ChangeSpec := { name := "fnAllDigitsMatchesDigitTable", fn := fun _ => fun
  | [d] => { results := [.lit (.bool false)], args := [d] }
  | _ => none }
def FnAllDigitsMatchesDigitTableWrongFalsely : Prop := fnAllDigitsMatchesDigitTableRow.holds Try.pinned (OpenSpec.ofChange fnAllDigitsMatchesDigitTableWrong)

/-- 'zzlaws_pkg_decimal_b1.FnAllDigitsSplitsOverConcatenation': WHATEVER THE INPUT: true; the input reads as it did. -/
def fnAllDigitsSplitsOverConcatenationSpec : ChangeSpec := { name := "fnAllDigitsSplitsOverConcatenation", fn := fun _ => fun
  | [d1, d2] => { results := [.lit (.bool true)], args := [d1, d2] }
  | _ => none }
def fnAllDigitsSplitsOverConcatenationRow : OpenClaim := { program := "qxb6600381a", sum := "4c5b997657e1cede573ab5299bd1e501a67652d5d7b4331884e907a82392aa9d", func := "example.com/vestline/vestline/zzlaws_pkg_decimal_b1.FnAllDigitsSplitsOverConcatenation", spec := "fnAllDigitsSplitsOverConcatenation", apart := false }
def FnAllDigitsSplitsOverConcatenationSaid : Prop := fnAllDigitsSplitsOverConcatenationRow.holds Try.pinned (OpenSpec.ofChange fnAllDigitsSplitsOverConcatenationSpec)

/-- ITS FALSE NEIGHBOUR: 'it returns false'. Refute it at one input. -/
def fnAllDigitsSplitsOverConcatenationWrong : ChangeSpec := { name := "fnAllDigitsSplitsOverConcatenation", fn := fun _ => fun
  | [d1, d2] => { results := [.lit (.bool false)], args := [d1, d2] }
  | _ => none }
def FnAllDigitsSplitsOverConcatenationWrongFalsely : Prop := fnAllDigitsSplitsOverConcatenationRow.holds Try.pinned (OpenSpec.ofChange fnAllDigitsSplitsOverConcatenationWrong)

/-- 'zzlaws_pkg_decimal_b1.FnAllDigitsAcceptsEveryNumeral': WHATEVER THE INPUT: true; the input reads as it did. -/
def fnAllDigitsAcceptsEveryNumeralSpec : ChangeSpec := { name := "fnAllDigitsAcceptsEveryNumeral", fn := fun _ => fun
  | [d] => { results := [.lit (.bool true)], args := [d] }
  | _ => none }
def fnAllDigitsAcceptsEveryNumeralRow : OpenClaim := { program := "qxb6600381a", sum := "4c5b997657e1cede573ab5299bd1e501a67652d5d7b4331884e907a82392aa9d", func := "example.com/vestline/vestline/zzlaws_pkg_decimal_b1.FnAllDigitsAcceptsEveryNumeral", spec := "fnAllDigitsAcceptsEveryNumeral", apart := false }
def FnAllDigitsAcceptsEveryNumeralSaid : Prop := fnAllDigitsAcceptsEveryNumeralRow.holds Try.pinned (OpenSpec.ofChange fnAllDigitsAcceptsEveryNumeralSpec)

/-- ITS FALSE NEIGHBOUR: 'it returns false'. Refute it at one input. -/
def fnAllDigitsAcceptsEveryNumeralWrong : ChangeSpec := { name := "fnAllDigitsAcceptsEveryNumeral", fn := fun _ => fun
  | [d] => { results := [.lit (.bool false)], args := [d] }
  | _ => none }
def FnAllDigitsAcceptsEveryNumeralWrongFalsely : Prop := fnAllDigitsAcceptsEveryNumeralRow.holds Try.pinned (OpenSpec.ofChange fnAllDigitsAcceptsEveryNumeralWrong)

/-- 'zzlaws_pkg_decimal_b1.FnIsDecimalMatchesGrammarAutomaton': WHATEVER THE INPUT: true; the input reads as it did. -/
def fnIsDecimalMatchesGrammarAutomatonSpec : ChangeSpec := { name := "fnIsDecimalMatchesGrammarAutomaton", fn := fun _ => fun
  | [d] => { results := [.lit (.bool true)], args := [d] }
  | _ => none }
def fnIsDecimalMatchesGrammarAutomatonRow : OpenClaim := { program := "qxb6600381a", sum := "4c5b997657e1cede573ab5299bd1e501a67652d5d7b4331884e907a82392aa9d", func := "example.com/vestline/vestline/zzlaws_pkg_decimal_b1.FnIsDecimalMatchesGrammarAutomaton", spec := "fnIsDecimalMatchesGrammarAutomaton", inPlace := ["internal/bytealg.IndexByteString", "internal/bytealg.IndexString"], named := ["internal/bytealg.MaxLen"], apart := false }
def FnIsDecimalMatchesGrammarAutomatonSaid : Prop := fnIsDecimalMatchesGrammarAutomatonRow.holds Try.pinned (OpenSpec.ofChange fnIsDecimalMatchesGrammarAutomatonSpec)

/-- ITS FALSE NEIGHBOUR: 'it returns false'. Refute it at one input. -/
def fnIsDecimalMatchesGrammarAutomatonWrong : ChangeSpec := { name := "fnIsDecimalMatchesGrammarAutomaton", fn := fun _ => fun
  | [d] => { results := [.lit (.bool false)], args := [d] }
  | _ => none }
def FnIsDecimalMatchesGrammarAutomatonWrongFalsely : Prop := fnIsDecimalMatchesGrammarAutomatonRow.holds Try.pinned (OpenSpec.ofChange fnIsDecimalMatchesGrammarAutomatonWrong)

/-- 'zzlaws_pkg_decimal_b1.FnIsDecimalSignLaw': WHATEVER THE INPUT: true; the input reads as it did. -/
def fnIsDecimalSignLawSpec : ChangeSpec := { name := "fnIsDecimalSignLaw", fn := fun _ => fun
  | [d] => { results := [.lit (.bool true)], args := [d] }
  | _ => none }
def fnIsDecimalSignLawRow : OpenClaim := { program := "qxb6600381a", sum := "4c5b997657e1cede573ab5299bd1e501a67652d5d7b4331884e907a82392aa9d", func := "example.com/vestline/vestline/zzlaws_pkg_decimal_b1.FnIsDecimalSignLaw", spec := "fnIsDecimalSignLaw", inPlace := ["internal/bytealg.IndexByteString", "internal/bytealg.IndexString"], named := ["internal/bytealg.MaxLen"], apart := false }
def FnIsDecimalSignLawSaid : Prop := fnIsDecimalSignLawRow.holds Try.pinned (OpenSpec.ofChange fnIsDecimalSignLawSpec)

/-- ITS FALSE NEIGHBOUR: 'it returns false'. Refute it at one input. -/
def fnIsDecimalSignLawWrong : ChangeSpec := { name := "fnIsDecimalSignLaw", fn := fun _ => fun
  | [d] => { results := [.lit (.bool false)], args := [d] }
  | _ => none }
def FnIsDecimalSignLawWrongFalsely : Prop := fnIsDecimalSignLawRow.holds Try.pinned (OpenSpec.ofChange fnIsDecimalSignLawWrong)

/-- 'zzlaws_pkg_decimal_b1.FnIsDecimalSplitAtPoint': WHATEVER THE INPUT: true; the input reads as it did. -/
def fnIsDecimalSplitAtPointSpec : ChangeSpec := { name := "fnIsDecimalSplitAtPoint", fn := fun _ => fun
  | [d1, d2] => { results := [.lit (.bool true)], args := [d1, d2] }
  | _ => none }
def fnIsDecimalSplitAtPointRow : OpenClaim := { program := "qxb6600381a", sum := "4c5b997657e1cede573ab5299bd1e501a67652d5d7b4331884e907a82392aa9d", func := "example.com/vestline/vestline/zzlaws_pkg_decimal_b1.FnIsDecimalSplitAtPoint", spec := "fnIsDecimalSplitAtPoint", inPlace := ["internal/bytealg.IndexByteString", "internal/bytealg.IndexString"], named := ["internal/bytealg.MaxLen"], apart := false }
def FnIsDecimalSplitAtPointSaid : Prop := fnIsDecimalSplitAtPointRow.holds Try.pinned (OpenSpec.ofChange fnIsDecimalSplitAtPointSpec)

/-- ITS FALSE NEIGHBOUR: 'it returns false'. Refute it at one input. -/
def fnIsDecimalSplitAtPointWrong : ChangeSpec := { name := "fnIsDecimalSplitAtPoint", fn := fun _ => fun
  | [d1, d2] => { results := [.lit (.bool false)], args := [d1, d2] }
  | _ => none }
def FnIsDecimalSplitAtPointWrongFalsely : Prop := fnIsDecimalSplitAtPointRow.holds Try.pinned (OpenSpec.ofChange fnIsDecimalSplitAtPointWrong)

end Rows
end Go.Proofs.Qxb6600381a
