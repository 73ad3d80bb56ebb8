/-
  DERIVED. GIVEN WITH THE SEED: THE CARDS: each row of Qxb6603964aDoorRows.lean that lists a variable, with what it lists TIED to the program's text (the seventh form; the later family's looks); each row that meets fmt, with fmt's text TOLD by the authors' own Lean function (tested against real Go, not proved from fmt's source: count such statements apart). THE CARD IS WHAT COUNTS. Prove the row's statement (the work); the ties are given (Qxb6603964aDoorTie.lean); close each card by the builder's one call (the guide's Derived/Test/ToyasCard.lean, 'card_holds'). Laid BY PROGRAM, IN A SANDBOX (cutbox-door.mjs). By AI agents, Wed Nov 11 2026. No macro, syntax, notation, axiom, sorry.
-/
import Derived.Test.Qxb6603964aDoorRows
import GoSem.ClaimSeven
namespace Go.Proofs.Qxb6603964aDoor
namespace Rows

/-- THE TIED CARD OF 'zzlaws_otvalue_b1.FnWithFirstReadsBackFirst'. -/
def fnWithFirstReadsBackFirstCard : Claim7 := { stood := { row := fnWithFirstReadsBackFirstRow, standIns := [], harness := (true, "92a7b328436fe0d88120ea392b6381852eeab15838bd5c3c940137f53989b7a4"), looks := false }, kinds := [], alts := [], laidByText := true, laidKinds := [.data, .pinned], laidTests := true, laidLooks := .later }
def FnWithFirstReadsBackFirstCardSaid : Prop := Claim7.holds Tryd.pinned (.plain (OpenSpec.ofChange fnWithFirstReadsBackFirstSpec)) fnWithFirstReadsBackFirstCard
end Rows
end Go.Proofs.Qxb6603964aDoor
