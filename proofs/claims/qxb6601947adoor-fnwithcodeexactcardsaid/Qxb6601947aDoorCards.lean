/-
  DERIVED. GIVEN WITH THE SEED: THE CARDS: each row of Qxb6601947aDoorRows.lean that lists a variable, with what it lists TIED to the program's text (the seventh form; the later family's looks); each row that meets fmt, with fmt's text TOLD by the authors' own Lean function (tested against real Go, not proved from fmt's source: count such statements apart). THE CARD IS WHAT COUNTS. Prove the row's statement (the work); the ties are given (Qxb6601947aDoorTie.lean); close each card by the builder's one call (the guide's Derived/Test/ToyasCard.lean, 'card_holds'). Laid BY PROGRAM, IN A SANDBOX (cutbox-door.mjs). By AI agents, Wed Nov 11 2026. No macro, syntax, notation, axiom, sorry.
-/
import Derived.Test.Qxb6601947aDoorRows
import GoSem.ClaimSeven
namespace Go.Proofs.Qxb6601947aDoor
namespace Rows

/-- THE TIED CARD OF 'zzlaws_internal_oauth_b1.FnWithCodeExact'. -/
def fnWithCodeExactCard : Claim7 := { stood := { row := fnWithCodeExactRow, standIns := [], harness := (true, "ba818ad4fa13b4449ea32c61f8333bf3698f57a79573a41dfdc0223023ea558d"), looks := false }, kinds := [], alts := [], laidByText := true, laidKinds := [.data, .pinned, .pinned, .pinned, .pinned, .pinned, .pinned], laidTests := true, laidLooks := .later }
def FnWithCodeExactCardSaid : Prop := Claim7.holds Tryd.pinned (.plain (OpenSpec.ofChange fnWithCodeExactSpec)) fnWithCodeExactCard

/-- THE TIED CARD OF 'zzlaws_internal_oauth_b1.FnWithCodeInjective'. -/
def fnWithCodeInjectiveCard : Claim7 := { stood := { row := fnWithCodeInjectiveRow, standIns := [], harness := (true, "ba818ad4fa13b4449ea32c61f8333bf3698f57a79573a41dfdc0223023ea558d"), looks := false }, kinds := [], alts := [], laidByText := true, laidKinds := [.data, .pinned, .pinned, .pinned, .pinned, .pinned, .pinned], laidTests := true, laidLooks := .later }
def FnWithCodeInjectiveCardSaid : Prop := Claim7.holds Tryd.pinned (.plain (OpenSpec.ofChange fnWithCodeInjectiveSpec)) fnWithCodeInjectiveCard

/-- THE TIED CARD OF 'zzlaws_internal_oauth_b1.FnCanonicalTokenTypeExact'. -/
def fnCanonicalTokenTypeExactCard : Claim7 := { stood := { row := fnCanonicalTokenTypeExactRow, standIns := [], harness := (true, "ba818ad4fa13b4449ea32c61f8333bf3698f57a79573a41dfdc0223023ea558d"), looks := false }, kinds := [], alts := [], laidByText := true, laidKinds := [.data, .data, .data, .pinned, .pinned], laidTests := true, laidLooks := .later }
def FnCanonicalTokenTypeExactCardSaid : Prop := Claim7.holds Tryd.pinned (.plain (OpenSpec.ofChange fnCanonicalTokenTypeExactSpec)) fnCanonicalTokenTypeExactCard
end Rows
end Go.Proofs.Qxb6601947aDoor
