/-
  DERIVED. GIVEN WITH THE SEED: THE CARDS: each row of Qxb6604802aDoorRows.lean that lists a variable, with what it lists TIED to the program's text (the seventh form; the later family's looks); each row that meets fmt, with fmt's text TOLD by the authors' own Lean function (tested against real Go, not proved from fmt's source: count such statements apart). THE CARD IS WHAT COUNTS. Prove the row's statement (the work); the ties are given (Qxb6604802aDoorTie.lean); close each card by the builder's one call (the guide's Derived/Test/ToyasCard.lean, 'card_holds'). Laid BY PROGRAM, IN A SANDBOX (cutbox-door.mjs). By AI agents, Wed Nov 11 2026. No macro, syntax, notation, axiom, sorry.
-/
import Derived.Test.Qxb6604802aDoorRows
import GoSem.ClaimSeven
namespace Go.Proofs.Qxb6604802aDoor
namespace Rows

/-- THE TIED CARD OF 'zzlaws_internal_userlist_b1.FnQuotedMatchesRunModel'. -/
def fnQuotedMatchesRunModelCard : Claim7 := { stood := { row := fnQuotedMatchesRunModelRow, standIns := [], harness := (true, "675909ed9816637c71b146867c313dcabc8206a6c9c3b01d14adcfea74516878"), looks := false }, kinds := [], alts := [], laidByText := true, laidKinds := [.data, .pinned], laidTests := true, laidLooks := .later }
def FnQuotedMatchesRunModelCardSaid : Prop := Claim7.holds Tryd.pinned (.plain (OpenSpec.ofChange fnQuotedMatchesRunModelSpec)) fnQuotedMatchesRunModelCard

/-- THE TIED CARD OF 'zzlaws_internal_userlist_b1.FnQuotedReadsItsOwnEncoding'. -/
def fnQuotedReadsItsOwnEncodingCard : Claim7 := { stood := { row := fnQuotedReadsItsOwnEncodingRow, standIns := [], harness := (true, "675909ed9816637c71b146867c313dcabc8206a6c9c3b01d14adcfea74516878"), looks := false }, kinds := [], alts := [], laidByText := true, laidKinds := [.data, .pinned], laidTests := true, laidLooks := .later }
def FnQuotedReadsItsOwnEncodingCardSaid : Prop := Claim7.holds Tryd.pinned (.plain (OpenSpec.ofChange fnQuotedReadsItsOwnEncodingSpec)) fnQuotedReadsItsOwnEncodingCard
end Rows
end Go.Proofs.Qxb6604802aDoor
