/-
  No cell of these rows narrows 'for every input' (looked for: loops, veiled, ifaces, maps, wideKeys, modest, calm, conditions, laid).
  DERIVED. THE GIVEN ROWS OF THIS SEAT. 3 by the template 'for every input the law returns true; each argument reads behind the call as it read before'; 0 by the template 'total and deterministic' (their statements: Qxb6601335aTotals.lean).
  GIVEN WITH THE SEED: the statements are not yours to turn. If you find one false, say at which input.
  Laid BY PROGRAM, IN A SANDBOX (cutbox-rows.mjs): the forced cells as the released guide's own fill.sh prints them over the translation b4ecc095fc06a1dd… (all of the seat's roots in one cut). By AI agents, Wed Nov 11 2026. No macro, syntax, notation, axiom, sorry.
-/
import Derived.Test.Qxb6601335aChecked
import GoSem.Claim
import GoSem.ClaimJoined
import GoSem.ClaimMapViews
import Derived.JoinedTies
import Derived.KernelRfl
namespace Go.Proofs.Qxb6601335a
/- THE CELL 'sum', in the pinned program and in every row, IS THE sha256 OF THE DUMP (.gsa) THAT Qxb6601335aProg.lean LOADS. Nothing in Lean hashes anything: it is a label: what it is worth is what the hold of that sum in a sandbox is worth. -/
noncomputable def Try.pinned : Pinned := { name := "qxb6601335a", sum := "b4ecc095fc06a1ddf82e919fb2ebe367b0d1f03da74e5eeed1ab1a5b1d51e8e9", checked := Try.checked }
namespace Rows
def none {H : Type} : Left H := { results := [], args := [] }

/-- 'zzlaws_pkg_resp_b1.FnUnescapeIdempotent': WHATEVER THE INPUT: true; the input reads as it did. -/
def fnUnescapeIdempotentSpec : ChangeSpec := { name := "fnUnescapeIdempotent", fn := fun _ => fun
  | [d] => { results := [.lit (.bool true)], args := [d] }
  | _ => none }
def fnUnescapeIdempotentRow : OpenClaim := { program := "qxb6601335a", sum := "b4ecc095fc06a1ddf82e919fb2ebe367b0d1f03da74e5eeed1ab1a5b1d51e8e9", func := "example.com/tidelock/tidelock/zzlaws_pkg_resp_b1.FnUnescapeIdempotent", spec := "fnUnescapeIdempotent", apart := false }
def FnUnescapeIdempotentSaid : Prop := fnUnescapeIdempotentRow.holds Try.pinned (OpenSpec.ofChange fnUnescapeIdempotentSpec)

/-- ITS FALSE NEIGHBOUR: 'it returns false'. Refute it at one input. -/
def fnUnescapeIdempotentWrong : ChangeSpec := { name := "fnUnescapeIdempotent", fn := fun _ => fun
  | [d] => { results := [.lit (.bool false)], args := [d] }
  | _ => none }
def FnUnescapeIdempotentWrongFalsely : Prop := fnUnescapeIdempotentRow.holds Try.pinned (OpenSpec.ofChange fnUnescapeIdempotentWrong)

/-- 'zzlaws_pkg_resp_b1.FnCloneArgsCopiesExactly': WHATEVER THE INPUT: true; the input reads as it did. -/
def fnCloneArgsCopiesExactlySpec : ChangeSpec := { name := "fnCloneArgsCopiesExactly", fn := fun _ => fun
  | [d] => { results := [.lit (.bool true)], args := [d] }
  | _ => none }
def fnCloneArgsCopiesExactlyRow : OpenClaim := { program := "qxb6601335a", sum := "b4ecc095fc06a1ddf82e919fb2ebe367b0d1f03da74e5eeed1ab1a5b1d51e8e9", func := "example.com/tidelock/tidelock/zzlaws_pkg_resp_b1.FnCloneArgsCopiesExactly", spec := "fnCloneArgsCopiesExactly", apart := false }
def FnCloneArgsCopiesExactlySaid : Prop := fnCloneArgsCopiesExactlyRow.holds Try.pinned (OpenSpec.ofChange fnCloneArgsCopiesExactlySpec)

/-- ITS FALSE NEIGHBOUR: 'it returns false'. Refute it at one input. -/
def fnCloneArgsCopiesExactlyWrong : ChangeSpec := { name := "fnCloneArgsCopiesExactly", fn := fun _ => fun
  | [d] => { results := [.lit (.bool false)], args := [d] }
  | _ => none }
def FnCloneArgsCopiesExactlyWrongFalsely : Prop := fnCloneArgsCopiesExactlyRow.holds Try.pinned (OpenSpec.ofChange fnCloneArgsCopiesExactlyWrong)

/-- 'zzlaws_pkg_resp_b1.FnCloneArgsOwnsItsMemory': WHATEVER THE INPUT: true; the input reads as it did. -/
def fnCloneArgsOwnsItsMemorySpec : ChangeSpec := { name := "fnCloneArgsOwnsItsMemory", fn := fun _ => fun
  | [d] => { results := [.lit (.bool true)], args := [d] }
  | _ => none }
def fnCloneArgsOwnsItsMemoryRow : OpenClaim := { program := "qxb6601335a", sum := "b4ecc095fc06a1ddf82e919fb2ebe367b0d1f03da74e5eeed1ab1a5b1d51e8e9", func := "example.com/tidelock/tidelock/zzlaws_pkg_resp_b1.FnCloneArgsOwnsItsMemory", spec := "fnCloneArgsOwnsItsMemory", apart := false }
def FnCloneArgsOwnsItsMemorySaid : Prop := fnCloneArgsOwnsItsMemoryRow.holds Try.pinned (OpenSpec.ofChange fnCloneArgsOwnsItsMemorySpec)

/-- ITS FALSE NEIGHBOUR: 'it returns false'. Refute it at one input. -/
def fnCloneArgsOwnsItsMemoryWrong : ChangeSpec := { name := "fnCloneArgsOwnsItsMemory", fn := fun _ => fun
  | [d] => { results := [.lit (.bool false)], args := [d] }
  | _ => none }
def FnCloneArgsOwnsItsMemoryWrongFalsely : Prop := fnCloneArgsOwnsItsMemoryRow.holds Try.pinned (OpenSpec.ofChange fnCloneArgsOwnsItsMemoryWrong)

end Rows
end Go.Proofs.Qxb6601335a
