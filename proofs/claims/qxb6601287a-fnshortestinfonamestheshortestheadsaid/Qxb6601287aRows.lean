/-
  No cell of these rows narrows 'for every input' (looked for: loops, veiled, ifaces, maps, wideKeys, modest, calm, conditions, laid).
  DERIVED. THE GIVEN ROWS OF THIS SEAT. 6 by the template 'for every input the law returns true; each argument reads behind the call as it read before'; 0 by the template 'total and deterministic' (their statements: Qxb6601287aTotals.lean).
  GIVEN WITH THE SEED: the statements are not yours to turn. If you find one false, say at which input.
  Laid BY PROGRAM, IN A SANDBOX (cutbox-rows.mjs): the forced cells as the released guide's own fill.sh prints them over the translation 297e34854eb6ff55… (all of the seat's roots in one cut). By AI agents, Wed Nov 11 2026. No macro, syntax, notation, axiom, sorry.
-/
import Derived.Test.Qxb6601287aChecked
import GoSem.Claim
import GoSem.ClaimJoined
import GoSem.ClaimMapViews
import Derived.JoinedTies
import Derived.KernelRfl
namespace Go.Proofs.Qxb6601287a
/- THE CELL 'sum', in the pinned program and in every row, IS THE sha256 OF THE DUMP (.gsa) THAT Qxb6601287aProg.lean LOADS. Nothing in Lean hashes anything: it is a label: what it is worth is what the hold of that sum in a sandbox is worth. -/
noncomputable def Try.pinned : Pinned := { name := "qxb6601287a", sum := "297e34854eb6ff55a32363113e657f6d7ff504a1c7788eaf39cf4f61cb91da7b", checked := Try.checked }
namespace Rows
def none {H : Type} : Left H := { results := [], args := [] }

/-- 'zzlaws_pkg_coserv_b1.FnCutParameterValueMatchesGrammar': WHATEVER THE INPUT: true; the input reads as it did. -/
def fnCutParameterValueMatchesGrammarSpec : ChangeSpec := { name := "fnCutParameterValueMatchesGrammar", fn := fun _ => fun
  | [d] => { results := [.lit (.bool true)], args := [d] }
  | _ => none }
def fnCutParameterValueMatchesGrammarRow : OpenClaim := { program := "qxb6601287a", sum := "297e34854eb6ff55a32363113e657f6d7ff504a1c7788eaf39cf4f61cb91da7b", func := "example.com/bonafyde/bonafyde/zzlaws_pkg_coserv_b1.FnCutParameterValueMatchesGrammar", spec := "fnCutParameterValueMatchesGrammar", inPlace := ["internal/bytealg.IndexByteString", "internal/bytealg.IndexString"], unfollowed := true, recurses := true, named := ["internal/bytealg.MaxLen"], apart := false }
def FnCutParameterValueMatchesGrammarSaid : Prop := fnCutParameterValueMatchesGrammarRow.holds Try.pinned (OpenSpec.ofChange fnCutParameterValueMatchesGrammarSpec)

/-- ITS FALSE NEIGHBOUR: 'it returns false'. Refute it at one input. -/
def fnCutParameterValueMatchesGrammarWrong : ChangeSpec := { name := "fnCutParameterValueMatchesGrammar", fn := fun _ => fun
  | [d] => { results := [.lit (.bool false)], args := [d] }
  | _ => none }
def FnCutParameterValueMatchesGrammarWrongFalsely : Prop := fnCutParameterValueMatchesGrammarRow.holds Try.pinned (OpenSpec.ofChange fnCutParameterValueMatchesGrammarWrong)

/-- 'zzlaws_pkg_coserv_b1.FnCutParameterValueCutsWhatAQuoterWrites': WHATEVER THE INPUT: true; the input reads as it did. -/
def fnCutParameterValueCutsWhatAQuoterWritesSpec : ChangeSpec := { name := "fnCutParameterValueCutsWhatAQuoterWrites", fn := fun _ => fun
  | [d1, d2] => { results := [.lit (.bool true)], args := [d1, d2] }
  | _ => none }
def fnCutParameterValueCutsWhatAQuoterWritesRow : OpenClaim := { program := "qxb6601287a", sum := "297e34854eb6ff55a32363113e657f6d7ff504a1c7788eaf39cf4f61cb91da7b", func := "example.com/bonafyde/bonafyde/zzlaws_pkg_coserv_b1.FnCutParameterValueCutsWhatAQuoterWrites", spec := "fnCutParameterValueCutsWhatAQuoterWrites", inPlace := ["internal/bytealg.IndexByteString", "internal/bytealg.IndexString"], unfollowed := true, recurses := true, named := ["internal/bytealg.MaxLen"], apart := false }
def FnCutParameterValueCutsWhatAQuoterWritesSaid : Prop := fnCutParameterValueCutsWhatAQuoterWritesRow.holds Try.pinned (OpenSpec.ofChange fnCutParameterValueCutsWhatAQuoterWritesSpec)

/-- ITS FALSE NEIGHBOUR: 'it returns false'. Refute it at one input. -/
def fnCutParameterValueCutsWhatAQuoterWritesWrong : ChangeSpec := { name := "fnCutParameterValueCutsWhatAQuoterWrites", fn := fun _ => fun
  | [d1, d2] => { results := [.lit (.bool false)], args := [d1, d2] }
  | _ => none }
def FnCutParameterValueCutsWhatAQuoterWritesWrongFalsely : Prop := fnCutParameterValueCutsWhatAQuoterWritesRow.holds Try.pinned (OpenSpec.ofChange fnCutParameterValueCutsWhatAQuoterWritesWrong)

/-- 'zzlaws_pkg_coserv_b1.FnShortestInfoNamesTheShortestHead': WHATEVER THE INPUT: true; the input reads as it did. -/
def fnShortestInfoNamesTheShortestHeadSpec : ChangeSpec := { name := "fnShortestInfoNamesTheShortestHead", fn := fun _ => fun
  | [d] => { results := [.lit (.bool true)], args := [d] }
  | _ => none }
def fnShortestInfoNamesTheShortestHeadRow : OpenClaim := { program := "qxb6601287a", sum := "297e34854eb6ff55a32363113e657f6d7ff504a1c7788eaf39cf4f61cb91da7b", func := "example.com/bonafyde/bonafyde/zzlaws_pkg_coserv_b1.FnShortestInfoNamesTheShortestHead", spec := "fnShortestInfoNamesTheShortestHead", apart := false }
def FnShortestInfoNamesTheShortestHeadSaid : Prop := fnShortestInfoNamesTheShortestHeadRow.holds Try.pinned (OpenSpec.ofChange fnShortestInfoNamesTheShortestHeadSpec)

/-- ITS FALSE NEIGHBOUR: 'it returns false'. Refute it at one input. -/
def fnShortestInfoNamesTheShortestHeadWrong : ChangeSpec := { name := "fnShortestInfoNamesTheShortestHead", fn := fun _ => fun
  | [d] => { results := [.lit (.bool false)], args := [d] }
  | _ => none }
def FnShortestInfoNamesTheShortestHeadWrongFalsely : Prop := fnShortestInfoNamesTheShortestHeadRow.holds Try.pinned (OpenSpec.ofChange fnShortestInfoNamesTheShortestHeadWrong)

/-- 'zzlaws_pkg_coserv_b1.FnShortestInfoIsMonotone': WHATEVER THE INPUT: true; the input reads as it did. -/
def fnShortestInfoIsMonotoneSpec : ChangeSpec := { name := "fnShortestInfoIsMonotone", fn := fun _ => fun
  | [d1, d2] => { results := [.lit (.bool true)], args := [d1, d2] }
  | _ => none }
def fnShortestInfoIsMonotoneRow : OpenClaim := { program := "qxb6601287a", sum := "297e34854eb6ff55a32363113e657f6d7ff504a1c7788eaf39cf4f61cb91da7b", func := "example.com/bonafyde/bonafyde/zzlaws_pkg_coserv_b1.FnShortestInfoIsMonotone", spec := "fnShortestInfoIsMonotone", apart := false }
def FnShortestInfoIsMonotoneSaid : Prop := fnShortestInfoIsMonotoneRow.holds Try.pinned (OpenSpec.ofChange fnShortestInfoIsMonotoneSpec)

/-- ITS FALSE NEIGHBOUR: 'it returns false'. Refute it at one input. -/
def fnShortestInfoIsMonotoneWrong : ChangeSpec := { name := "fnShortestInfoIsMonotone", fn := fun _ => fun
  | [d1, d2] => { results := [.lit (.bool false)], args := [d1, d2] }
  | _ => none }
def FnShortestInfoIsMonotoneWrongFalsely : Prop := fnShortestInfoIsMonotoneRow.holds Try.pinned (OpenSpec.ofChange fnShortestInfoIsMonotoneWrong)

/-- 'zzlaws_pkg_coserv_b1.FnIsSchemeIgnoresASCIICase': WHATEVER THE INPUT: true; the input reads as it did. -/
def fnIsSchemeIgnoresASCIICaseSpec : ChangeSpec := { name := "fnIsSchemeIgnoresASCIICase", fn := fun _ => fun
  | [d] => { results := [.lit (.bool true)], args := [d] }
  | _ => none }
def fnIsSchemeIgnoresASCIICaseRow : OpenClaim := { program := "qxb6601287a", sum := "297e34854eb6ff55a32363113e657f6d7ff504a1c7788eaf39cf4f61cb91da7b", func := "example.com/bonafyde/bonafyde/zzlaws_pkg_coserv_b1.FnIsSchemeIgnoresASCIICase", spec := "fnIsSchemeIgnoresASCIICase", apart := false }
def FnIsSchemeIgnoresASCIICaseSaid : Prop := fnIsSchemeIgnoresASCIICaseRow.holds Try.pinned (OpenSpec.ofChange fnIsSchemeIgnoresASCIICaseSpec)

/-- ITS FALSE NEIGHBOUR: 'it returns false'. Refute it at one input. -/
def fnIsSchemeIgnoresASCIICaseWrong : ChangeSpec := { name := "fnIsSchemeIgnoresASCIICase", fn := fun _ => fun
  | [d] => { results := [.lit (.bool false)], args := [d] }
  | _ => none }
def FnIsSchemeIgnoresASCIICaseWrongFalsely : Prop := fnIsSchemeIgnoresASCIICaseRow.holds Try.pinned (OpenSpec.ofChange fnIsSchemeIgnoresASCIICaseWrong)

/-- 'zzlaws_pkg_coserv_b1.FnIsSchemeSplitsAtAnyCut': WHATEVER THE INPUT: true; the input reads as it did. -/
def fnIsSchemeSplitsAtAnyCutSpec : ChangeSpec := { name := "fnIsSchemeSplitsAtAnyCut", fn := fun _ => fun
  | [d1, d2] => { results := [.lit (.bool true)], args := [d1, d2] }
  | _ => none }
def fnIsSchemeSplitsAtAnyCutRow : OpenClaim := { program := "qxb6601287a", sum := "297e34854eb6ff55a32363113e657f6d7ff504a1c7788eaf39cf4f61cb91da7b", func := "example.com/bonafyde/bonafyde/zzlaws_pkg_coserv_b1.FnIsSchemeSplitsAtAnyCut", spec := "fnIsSchemeSplitsAtAnyCut", apart := false }
def FnIsSchemeSplitsAtAnyCutSaid : Prop := fnIsSchemeSplitsAtAnyCutRow.holds Try.pinned (OpenSpec.ofChange fnIsSchemeSplitsAtAnyCutSpec)

/-- ITS FALSE NEIGHBOUR: 'it returns false'. Refute it at one input. -/
def fnIsSchemeSplitsAtAnyCutWrong : ChangeSpec := { name := "fnIsSchemeSplitsAtAnyCut", fn := fun _ => fun
  | [d1, d2] => { results := [.lit (.bool false)], args := [d1, d2] }
  | _ => none }
def FnIsSchemeSplitsAtAnyCutWrongFalsely : Prop := fnIsSchemeSplitsAtAnyCutRow.holds Try.pinned (OpenSpec.ofChange fnIsSchemeSplitsAtAnyCutWrong)

end Rows
end Go.Proofs.Qxb6601287a
