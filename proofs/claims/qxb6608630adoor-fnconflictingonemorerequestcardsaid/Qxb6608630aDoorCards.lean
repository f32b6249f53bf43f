/-
  DERIVED. GIVEN WITH THE SEED: THE CARDS: each row of Qxb6608630aDoorRows.lean that lists a variable, with what it lists TIED to the program's text (the seventh form; the later family's looks); each row that meets fmt, with fmt's text TOLD by the authors' own Lean function (tested against real Go, not proved from fmt's source: count such statements apart). THE CARD IS WHAT COUNTS. Prove the row's statement (the work); the ties are given (Qxb6608630aDoorTie.lean); close each card by the builder's one call (the guide's Derived/Test/ToyasCard.lean, 'card_holds'). Laid BY PROGRAM, IN A SANDBOX (cutbox-door.mjs). By AI agents, Wed Nov 11 2026. No macro, syntax, notation, axiom, sorry.
-/
import Derived.Test.Qxb6608630aDoorRows
import GoSem.ClaimSeven
namespace Go.Proofs.Qxb6608630aDoor
namespace Rows

/-- THE TIED CARD OF 'zzlaws_root_b1.FnCompatibleNextKeyIsKeyAndGap'. -/
def fnCompatibleNextKeyIsKeyAndGapCard : Claim7 := { stood := { row := fnCompatibleNextKeyIsKeyAndGapRow, standIns := [], harness := (true, "0d8c959aabb512fccceba814a2935d1a6de8118f8fd9c61352b288ca4774bb75"), looks := false }, kinds := [], alts := [], laidByText := true, laidKinds := [.called], laidTests := true, laidLooks := .later }
def FnCompatibleNextKeyIsKeyAndGapCardSaid : Prop := Claim7.holds Tryd.pinned (.plain (OpenSpec.ofChange fnCompatibleNextKeyIsKeyAndGapSpec)) fnCompatibleNextKeyIsKeyAndGapCard

/-- THE TIED CARD OF 'zzlaws_root_b1.FnCompatibleByLockParts'. -/
def fnCompatibleByLockPartsCard : Claim7 := { stood := { row := fnCompatibleByLockPartsRow, standIns := [], harness := (true, "0d8c959aabb512fccceba814a2935d1a6de8118f8fd9c61352b288ca4774bb75"), looks := false }, kinds := [], alts := [], laidByText := true, laidKinds := [.called], laidTests := true, laidLooks := .later }
def FnCompatibleByLockPartsCardSaid : Prop := Claim7.holds Tryd.pinned (.plain (OpenSpec.ofChange fnCompatibleByLockPartsSpec)) fnCompatibleByLockPartsCard

/-- THE TIED CARD OF 'zzlaws_root_b1.FnQuoteTextReadsBack'. -/
def fnQuoteTextReadsBackCard : Claim7 := { stood := { row := fnQuoteTextReadsBackRow, standIns := [], harness := (true, "0d8c959aabb512fccceba814a2935d1a6de8118f8fd9c61352b288ca4774bb75"), looks := false }, kinds := [], alts := [], laidByText := true, laidKinds := [.data, .data, .data, .data, .pinned, .pinned, .pinned, .pinned, .pinned, .pinned], laidTests := true, laidLooks := .later }
def FnQuoteTextReadsBackCardSaid : Prop := Claim7.holds Tryd.pinned (.plain (OpenSpec.ofChange fnQuoteTextReadsBackSpec)) fnQuoteTextReadsBackCard

/-- THE TIED CARD OF 'zzlaws_root_b1.FnQuoteTextTellsTextsApart'. -/
def fnQuoteTextTellsTextsApartCard : Claim7 := { stood := { row := fnQuoteTextTellsTextsApartRow, standIns := [], harness := (true, "0d8c959aabb512fccceba814a2935d1a6de8118f8fd9c61352b288ca4774bb75"), looks := false }, kinds := [], alts := [], laidByText := true, laidKinds := [.data, .data, .data, .data, .pinned, .pinned, .pinned, .pinned, .pinned, .pinned], laidTests := true, laidLooks := .later }
def FnQuoteTextTellsTextsApartCardSaid : Prop := Claim7.holds Tryd.pinned (.plain (OpenSpec.ofChange fnQuoteTextTellsTextsApartSpec)) fnQuoteTextTellsTextsApartCard

/-- THE TIED CARD OF 'zzlaws_root_b1.FnConflictingSameAtAnyCut'. -/
def fnConflictingSameAtAnyCutCard : Claim7 := { stood := { row := fnConflictingSameAtAnyCutRow, standIns := [], harness := (true, "0d8c959aabb512fccceba814a2935d1a6de8118f8fd9c61352b288ca4774bb75"), looks := false }, kinds := [], alts := [], laidByText := true, laidKinds := [.called], laidTests := true, laidLooks := .later }
def FnConflictingSameAtAnyCutCardSaid : Prop := Claim7.holds Tryd.pinned (.plain (OpenSpec.ofChange fnConflictingSameAtAnyCutSpec)) fnConflictingSameAtAnyCutCard

/-- THE TIED CARD OF 'zzlaws_root_b1.FnConflictingOneMoreRequest'. -/
def fnConflictingOneMoreRequestCard : Claim7 := { stood := { row := fnConflictingOneMoreRequestRow, standIns := [], harness := (true, "0d8c959aabb512fccceba814a2935d1a6de8118f8fd9c61352b288ca4774bb75"), looks := false }, kinds := [], alts := [], laidByText := true, laidKinds := [.called], laidTests := true, laidLooks := .later }
def FnConflictingOneMoreRequestCardSaid : Prop := Claim7.holds Tryd.pinned (.plain (OpenSpec.ofChange fnConflictingOneMoreRequestSpec)) fnConflictingOneMoreRequestCard
end Rows
end Go.Proofs.Qxb6608630aDoor
