/-
  DERIVED. GIVEN WITH THE SEED: THE CARDS: each row of Qxb6001102aDoorRows.lean that lists a variable, with what it lists TIED to the program's text (the seventh form; the later family's looks); each row that meets fmt, with fmt's text TOLD by the authors' own Lean function (tested against real Go, not proved from fmt's source: count such statements apart). THE CARD IS WHAT COUNTS. Prove the row's statement (the work); the ties are given (Qxb6001102aDoorTie.lean); close each card by the builder's one call (the guide's Derived/Test/ToyasCard.lean, 'card_holds'). Laid BY PROGRAM, IN A SANDBOX (cutbox-door.mjs). By AI agents, Wed Nov 11 2026. No macro, syntax, notation, axiom, sorry.
-/
import Derived.Test.Qxb6001102aDoorRows
import GoSem.ClaimSeven
namespace Go.Proofs.Qxb6001102aDoor
namespace Rows

/-- THE TIED CARD OF 'zzlaws_root_b1.FnNumberValueMatchesGrammarModel'. -/
def fnNumberValueMatchesGrammarModelCard : Claim7 := { stood := { row := fnNumberValueMatchesGrammarModelRow, standIns := [], harness := (true, "0c55bf5245b226b5018231a51a178437568a81c2cefa37a606f459c04a7aa756"), looks := false }, kinds := [], alts := [], laidByText := true, laidKinds := [.data, .pinned], laidTests := true, laidLooks := .later }
def FnNumberValueMatchesGrammarModelCardSaid : Prop := Claim7.holds Tryd.pinned (.plain (OpenSpec.ofChange fnNumberValueMatchesGrammarModelSpec)) fnNumberValueMatchesGrammarModelCard

/-- THE TIED CARD OF 'zzlaws_root_b1.FnNumberValuePointShiftInvariant'. -/
def fnNumberValuePointShiftInvariantCard : Claim7 := { stood := { row := fnNumberValuePointShiftInvariantRow, standIns := [], harness := (true, "0c55bf5245b226b5018231a51a178437568a81c2cefa37a606f459c04a7aa756"), looks := false }, kinds := [], alts := [], laidByText := true, laidKinds := [.data, .pinned], laidTests := true, laidLooks := .later }
def FnNumberValuePointShiftInvariantCardSaid : Prop := Claim7.holds Tryd.pinned (.plain (OpenSpec.ofChange fnNumberValuePointShiftInvariantSpec)) fnNumberValuePointShiftInvariantCard

/-- THE TIED CARD OF 'zzlaws_root_b1.FnAppendNumberReadsBackByModel'. -/
def fnAppendNumberReadsBackByModelCard : Claim7 := { stood := { row := fnAppendNumberReadsBackByModelRow, standIns := [], harness := (true, "0c55bf5245b226b5018231a51a178437568a81c2cefa37a606f459c04a7aa756"), looks := false }, kinds := [], alts := [], laidByText := true, laidKinds := [.data, .data, .data], laidTests := true, laidLooks := .later }
def FnAppendNumberReadsBackByModelCardSaid : Prop := Claim7.holds Tryd.pinned (.plain (OpenSpec.ofChange fnAppendNumberReadsBackByModelSpec)) fnAppendNumberReadsBackByModelCard

/-- THE TIED CARD OF 'zzlaws_root_b1.FnAppendNumberRereadByNumberValue'. -/
def fnAppendNumberRereadByNumberValueCard : Claim7 := { stood := { row := fnAppendNumberRereadByNumberValueRow, standIns := [], harness := (true, "0c55bf5245b226b5018231a51a178437568a81c2cefa37a606f459c04a7aa756"), looks := false }, kinds := [], alts := [], laidByText := true, laidKinds := [.data, .data, .data, .data, .pinned], laidTests := true, laidLooks := .later }
def FnAppendNumberRereadByNumberValueCardSaid : Prop := Claim7.holds Tryd.pinned (.plain (OpenSpec.ofChange fnAppendNumberRereadByNumberValueSpec)) fnAppendNumberRereadByNumberValueCard
end Rows
end Go.Proofs.Qxb6001102aDoor
