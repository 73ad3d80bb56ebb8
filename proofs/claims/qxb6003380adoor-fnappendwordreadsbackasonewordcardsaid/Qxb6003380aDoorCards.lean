/-
  DERIVED. GIVEN WITH THE SEED: THE CARDS: each row of Qxb6003380aDoorRows.lean that lists a variable, with what it lists TIED to the program's text (the seventh form; the later family's looks); each row that meets fmt, with fmt's text TOLD by the authors' own Lean function (tested against real Go, not proved from fmt's source: count such statements apart). THE CARD IS WHAT COUNTS. Prove the row's statement (the work); the ties are given (Qxb6003380aDoorTie.lean); close each card by the builder's one call (the guide's Derived/Test/ToyasCard.lean, 'card_holds'). Laid BY PROGRAM, IN A SANDBOX (cutbox-door.mjs). By AI agents, Wed Nov 11 2026. No macro, syntax, notation, axiom, sorry.
-/
import Derived.Test.Qxb6003380aDoorRows
import GoSem.ClaimSeven
namespace Go.Proofs.Qxb6003380aDoor
namespace Rows

/-- THE TIED CARD OF 'zzlaws_tdl_g1.FnAppendWordReadsBackAsOneWord'. -/
def fnAppendWordReadsBackAsOneWordCard : Claim7 := { stood := { row := fnAppendWordReadsBackAsOneWordRow, standIns := [], harness := (true, "c928f6e672e3390999d3307c7d9df3a3ee5e47945c7223f802b7775fd3f472ab"), looks := false }, kinds := [], alts := [], laidByText := true, laidKinds := [.data, .pinned], laidTests := true, laidLooks := .later }
def FnAppendWordReadsBackAsOneWordCardSaid : Prop := Claim7.holds Tryd.pinned (.plain (OpenSpec.ofChange fnAppendWordReadsBackAsOneWordSpec)) fnAppendWordReadsBackAsOneWordCard

/-- THE TIED CARD OF 'zzlaws_tdl_g1.FnAppendEscapedReadsBackAsOneWord'. -/
def fnAppendEscapedReadsBackAsOneWordCard : Claim7 := { stood := { row := fnAppendEscapedReadsBackAsOneWordRow, standIns := [], harness := (true, "c928f6e672e3390999d3307c7d9df3a3ee5e47945c7223f802b7775fd3f472ab"), looks := false }, kinds := [], alts := [], laidByText := true, laidKinds := [.data, .pinned], laidTests := true, laidLooks := .later }
def FnAppendEscapedReadsBackAsOneWordCardSaid : Prop := Claim7.holds Tryd.pinned (.plain (OpenSpec.ofChange fnAppendEscapedReadsBackAsOneWordSpec)) fnAppendEscapedReadsBackAsOneWordCard

/-- THE TIED CARD OF 'zzlaws_tdl_g1.FnBackslashReadsNumericEscapes'. -/
def fnBackslashReadsNumericEscapesCard : Claim7 := { stood := { row := fnBackslashReadsNumericEscapesRow, standIns := [], harness := (true, "c928f6e672e3390999d3307c7d9df3a3ee5e47945c7223f802b7775fd3f472ab"), looks := false }, kinds := [], alts := [], laidByText := true, laidKinds := [.data, .pinned], laidTests := true, laidLooks := .later }
def FnBackslashReadsNumericEscapesCardSaid : Prop := Claim7.holds Tryd.pinned (.plain (OpenSpec.ofChange fnBackslashReadsNumericEscapesSpec)) fnBackslashReadsNumericEscapesCard
end Rows
end Go.Proofs.Qxb6003380aDoor
