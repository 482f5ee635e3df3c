/-
  No cell of these rows narrows 'for every input' (looked for: loops, veiled, ifaces, maps, wideKeys, modest, calm, conditions, laid).
  DERIVED. THE GIVEN ROWS OF THIS SEAT. 3 by the template 'for every input the law returns true; each argument reads behind the call as it read before'; 0 by the template 'total and deterministic' (their statements: Qxb6601140aTotals.lean).
  GIVEN WITH THE SEED: the statements are not yours to turn. If you find one false, say at which input.
  Laid BY PROGRAM, IN A SANDBOX (cutbox-rows.mjs): the forced cells as the released guide's own fill.sh prints them over the translation bfaa9df640a217b6… (all of the seat's roots in one cut). By AI agents, Wed Nov 11 2026. No macro, syntax, notation, axiom, sorry.
-/
import Derived.Test.Qxb6601140aChecked
import GoSem.Claim
import GoSem.ClaimJoined
import GoSem.ClaimMapViews
import Derived.JoinedTies
import Derived.KernelRfl
namespace Go.Proofs.Qxb6601140a
/- THE CELL 'sum', in the pinned program and in every row, IS THE sha256 OF THE DUMP (.gsa) THAT Qxb6601140aProg.lean LOADS. Nothing in Lean hashes anything: it is a label: what it is worth is what the hold of that sum in a sandbox is worth. -/
noncomputable def Try.pinned : Pinned := { name := "qxb6601140a", sum := "bfaa9df640a217b6b68c52edc5841592ecbb1098032cfb318236b9e429cf8e9e", checked := Try.checked }
namespace Rows
def none {H : Type} : Left H := { results := [], args := [] }

/-- 'zzlaws_pkg_money_b1.FnAllDigitsMatchesCountModel': WHATEVER THE INPUT: true; the input reads as it did. -/
def fnAllDigitsMatchesCountModelSpec : ChangeSpec := { name := "fnAllDigitsMatchesCountModel", fn := fun _ => fun
  | [d] => { results := [.lit (.bool true)], args := [d] }
  | _ => none }
def fnAllDigitsMatchesCountModelRow : OpenClaim := { program := "qxb6601140a", sum := "bfaa9df640a217b6b68c52edc5841592ecbb1098032cfb318236b9e429cf8e9e", func := "example.com/tuoguan/tuoguan/zzlaws_pkg_money_b1.FnAllDigitsMatchesCountModel", spec := "fnAllDigitsMatchesCountModel", apart := false }
def FnAllDigitsMatchesCountModelSaid : Prop := fnAllDigitsMatchesCountModelRow.holds Try.pinned (OpenSpec.ofChange fnAllDigitsMatchesCountModelSpec)

/-- ITS FALSE NEIGHBOUR: 'it returns false'. Refute it at one input. -/
def fnAllDigitsMatchesCountModelWrong : ChangeSpec := { name := "fnAllDigitsMatchesCountModel", fn := fun _ => fun
  | [d] => { results := [.lit (.bool false)], args := [d] }
  | _ => none }
def FnAllDigitsMatchesCountModelWrongFalsely : Prop := fnAllDigitsMatchesCountModelRow.holds Try.pinned (OpenSpec.ofChange fnAllDigitsMatchesCountModelWrong)

/-- 'zzlaws_pkg_money_b1.FnAllDigitsSplitsAtEveryCut': WHATEVER THE INPUT: true; the input reads as it did. -/
def fnAllDigitsSplitsAtEveryCutSpec : ChangeSpec := { name := "fnAllDigitsSplitsAtEveryCut", fn := fun _ => fun
  | [d1, d2] => { results := [.lit (.bool true)], args := [d1, d2] }
  | _ => none }
def fnAllDigitsSplitsAtEveryCutRow : OpenClaim := { program := "qxb6601140a", sum := "bfaa9df640a217b6b68c52edc5841592ecbb1098032cfb318236b9e429cf8e9e", func := "example.com/tuoguan/tuoguan/zzlaws_pkg_money_b1.FnAllDigitsSplitsAtEveryCut", spec := "fnAllDigitsSplitsAtEveryCut", apart := false }
def FnAllDigitsSplitsAtEveryCutSaid : Prop := fnAllDigitsSplitsAtEveryCutRow.holds Try.pinned (OpenSpec.ofChange fnAllDigitsSplitsAtEveryCutSpec)

/-- ITS FALSE NEIGHBOUR: 'it returns false'. Refute it at one input. -/
def fnAllDigitsSplitsAtEveryCutWrong : ChangeSpec := { name := "fnAllDigitsSplitsAtEveryCut", fn := fun _ => fun
  | [d1, d2] => { results := [.lit (.bool false)], args := [d1, d2] }
  | _ => none }
def FnAllDigitsSplitsAtEveryCutWrongFalsely : Prop := fnAllDigitsSplitsAtEveryCutRow.holds Try.pinned (OpenSpec.ofChange fnAllDigitsSplitsAtEveryCutWrong)

/-- 'zzlaws_pkg_money_b1.FnAllDigitsAcceptsEveryUnsignedDecimal': WHATEVER THE INPUT: true; the input reads as it did. -/
def fnAllDigitsAcceptsEveryUnsignedDecimalSpec : ChangeSpec := { name := "fnAllDigitsAcceptsEveryUnsignedDecimal", fn := fun _ => fun
  | [d] => { results := [.lit (.bool true)], args := [d] }
  | _ => none }
def fnAllDigitsAcceptsEveryUnsignedDecimalRow : OpenClaim := { program := "qxb6601140a", sum := "bfaa9df640a217b6b68c52edc5841592ecbb1098032cfb318236b9e429cf8e9e", func := "example.com/tuoguan/tuoguan/zzlaws_pkg_money_b1.FnAllDigitsAcceptsEveryUnsignedDecimal", spec := "fnAllDigitsAcceptsEveryUnsignedDecimal", apart := false }
def FnAllDigitsAcceptsEveryUnsignedDecimalSaid : Prop := fnAllDigitsAcceptsEveryUnsignedDecimalRow.holds Try.pinned (OpenSpec.ofChange fnAllDigitsAcceptsEveryUnsignedDecimalSpec)

/-- ITS FALSE NEIGHBOUR: 'it returns false'. Refute it at one input. -/
def fnAllDigitsAcceptsEveryUnsignedDecimalWrong : ChangeSpec := { name := "fnAllDigitsAcceptsEveryUnsignedDecimal", fn := fun _ => fun
  | [d] => { results := [.lit (.bool false)], args := [d] }
  | _ => none }
def FnAllDigitsAcceptsEveryUnsignedDecimalWrongFalsely : Prop := fnAllDigitsAcceptsEveryUnsignedDecimalRow.holds Try.pinned (OpenSpec.ofChange fnAllDigitsAcceptsEveryUnsignedDecimalWrong)

end Rows
end Go.Proofs.Qxb6601140a
