/-
  DERIVED. GIVEN WITH THE SEED: THE CARDS: each row of YtenogdjlaojedaaDoorRows.lean that lists a variable, with what it lists TIED to the program's text (the seventh form; the later family's looks); each row that meets fmt, with fmt's text TOLD by the authors' own Lean function (tested against real Go, not proved from fmt's source: count such statements apart). THE CARD IS WHAT COUNTS. Prove the row's statement (the work); the ties are given (YtenogdjlaojedaaDoorTie.lean); close each card by the builder's one call (the guide's Derived/Test/ToyasCard.lean, 'card_holds'). Laid BY PROGRAM, IN A SANDBOX (cutbox-door.mjs). By AI agents, Wed Nov 11 2026. No macro, syntax, notation, axiom, sorry.
-/
import Derived.Test.YtenogdjlaojedaaDoorRows
import GoSem.ClaimSeven
namespace Go.Proofs.YtenogdjlaojedaaDoor
namespace Rows

/-- THE TIED CARD OF 'laws.FnArmorBack'. -/
def fnArmorBackCard : Claim7 := { stood := { row := fnArmorBackRow, standIns := [], harness := (true, "e0eac73999477ca6ac66efe7437aa00a732ec513f6e31a4be7802fd9783c206a"), looks := true }, kinds := [], alts := [], laidByText := true, laidKinds := [.data, .sentinel, .sentinel, .sentinel, .sentinel, .sentinel, .pinned], laidTests := true, laidLooks := .later }
def FnArmorBackCardSaid : Prop := Claim7.holds Tryd.pinned (.plain (OpenSpec.ofChange fnArmorBackSpec)) fnArmorBackCard

/-- THE TIED CARD OF 'laws.FnClearNone'. -/
def fnClearNoneCard : Claim7 := { stood := { row := fnClearNoneRow, standIns := [], harness := (true, "e0eac73999477ca6ac66efe7437aa00a732ec513f6e31a4be7802fd9783c206a"), looks := true }, kinds := [], alts := [], laidByText := true, laidKinds := [.data, .sentinel, .sentinel, .sentinel, .sentinel, .sentinel, .pinned], laidTests := true, laidLooks := .later }
def FnClearNoneCardSaid : Prop := Claim7.holds Tryd.pinned (.plain (OpenSpec.ofChange fnClearNoneSpec)) fnClearNoneCard

/-- THE SECOND FORM's CARD OF 'laws.FnArmorBack'. -/
def fnArmorBackUptoCard : Claim7 := { stood := { row := fnArmorBackUptoRow, standIns := [], harness := (true, "e0eac73999477ca6ac66efe7437aa00a732ec513f6e31a4be7802fd9783c206a"), looks := true }, kinds := [], alts := [], laidByText := true, laidKinds := [.data, .sentinel, .sentinel, .sentinel, .sentinel, .sentinel, .pinned], laidTests := true, laidLooks := .later }
def FnArmorBackUptoCardSaid : Prop := Claim7.holds Tryd.pinned (.plain (OpenSpec.upto fnArmorBackSpec)) fnArmorBackUptoCard

/-- THE SECOND FORM's CARD OF 'laws.FnClearNone'. -/
def fnClearNoneUptoCard : Claim7 := { stood := { row := fnClearNoneUptoRow, standIns := [], harness := (true, "e0eac73999477ca6ac66efe7437aa00a732ec513f6e31a4be7802fd9783c206a"), looks := true }, kinds := [], alts := [], laidByText := true, laidKinds := [.data, .sentinel, .sentinel, .sentinel, .sentinel, .sentinel, .pinned], laidTests := true, laidLooks := .later }
def FnClearNoneUptoCardSaid : Prop := Claim7.holds Tryd.pinned (.plain (OpenSpec.upto fnClearNoneSpec)) fnClearNoneUptoCard
end Rows
end Go.Proofs.YtenogdjlaojedaaDoor
