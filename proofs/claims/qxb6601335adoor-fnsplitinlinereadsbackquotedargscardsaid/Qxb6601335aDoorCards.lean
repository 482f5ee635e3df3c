/-
  DERIVED. GIVEN WITH THE SEED: THE CARDS: each row of Qxb6601335aDoorRows.lean that lists a variable, with what it lists TIED to the program's text (the seventh form; the later family's looks); each row that meets fmt, with fmt's text TOLD by the authors' own Lean function (tested against real Go, not proved from fmt's source: count such statements apart). THE CARD IS WHAT COUNTS. Prove the row's statement (the work); the ties are given (Qxb6601335aDoorTie.lean); close each card by the builder's one call (the guide's Derived/Test/ToyasCard.lean, 'card_holds'). Laid BY PROGRAM, IN A SANDBOX (cutbox-door.mjs). By AI agents, Wed Nov 11 2026. No macro, syntax, notation, axiom, sorry.
-/
import Derived.Test.Qxb6601335aDoorRows
import GoSem.ClaimSeven
namespace Go.Proofs.Qxb6601335aDoor
namespace Rows

/-- THE TIED CARD OF 'zzlaws_pkg_resp_b1.FnSplitInlineMatchesAutomaton'. -/
def fnSplitInlineMatchesAutomatonCard : Claim7 := { stood := { row := fnSplitInlineMatchesAutomatonRow, standIns := [], harness := (true, "2f54e572f29856fa29747fe2661fb4a2e61cf83743e11a4097933ed6f7f4b0e4"), looks := true }, kinds := [], alts := [], laidByText := true, laidKinds := [.data, .data, .data, .sentinel, .sentinel], laidTests := true, laidLooks := .later }
def FnSplitInlineMatchesAutomatonCardSaid : Prop := Claim7.holds Tryd.pinned (.plain (OpenSpec.ofChange fnSplitInlineMatchesAutomatonSpec)) fnSplitInlineMatchesAutomatonCard

/-- THE TIED CARD OF 'zzlaws_pkg_resp_b1.FnSplitInlineReadsBackQuotedArgs'. -/
def fnSplitInlineReadsBackQuotedArgsCard : Claim7 := { stood := { row := fnSplitInlineReadsBackQuotedArgsRow, standIns := [], harness := (true, "2f54e572f29856fa29747fe2661fb4a2e61cf83743e11a4097933ed6f7f4b0e4"), looks := true }, kinds := [], alts := [], laidByText := true, laidKinds := [.data, .data, .data, .sentinel, .sentinel], laidTests := true, laidLooks := .later }
def FnSplitInlineReadsBackQuotedArgsCardSaid : Prop := Claim7.holds Tryd.pinned (.plain (OpenSpec.ofChange fnSplitInlineReadsBackQuotedArgsSpec)) fnSplitInlineReadsBackQuotedArgsCard

/-- THE TIED CARD OF 'zzlaws_pkg_resp_b1.FnSplitInlineJoinsAtSpace'. -/
def fnSplitInlineJoinsAtSpaceCard : Claim7 := { stood := { row := fnSplitInlineJoinsAtSpaceRow, standIns := [], harness := (true, "2f54e572f29856fa29747fe2661fb4a2e61cf83743e11a4097933ed6f7f4b0e4"), looks := true }, kinds := [], alts := [], laidByText := true, laidKinds := [.data, .data, .data, .sentinel, .sentinel], laidTests := true, laidLooks := .later }
def FnSplitInlineJoinsAtSpaceCardSaid : Prop := Claim7.holds Tryd.pinned (.plain (OpenSpec.ofChange fnSplitInlineJoinsAtSpaceSpec)) fnSplitInlineJoinsAtSpaceCard

/-- THE TIED CARD OF 'zzlaws_pkg_resp_b1.FnUnescapeAgreesWithSplitInline'. -/
def fnUnescapeAgreesWithSplitInlineCard : Claim7 := { stood := { row := fnUnescapeAgreesWithSplitInlineRow, standIns := [], harness := (true, "2f54e572f29856fa29747fe2661fb4a2e61cf83743e11a4097933ed6f7f4b0e4"), looks := true }, kinds := [], alts := [], laidByText := true, laidKinds := [.data, .data, .data, .sentinel, .sentinel], laidTests := true, laidLooks := .later }
def FnUnescapeAgreesWithSplitInlineCardSaid : Prop := Claim7.holds Tryd.pinned (.plain (OpenSpec.ofChange fnUnescapeAgreesWithSplitInlineSpec)) fnUnescapeAgreesWithSplitInlineCard
end Rows
end Go.Proofs.Qxb6601335aDoor
