/-
  DERIVED. GIVEN WITH THE SEED: THE CARDS: each row of YoefswDoorRows.lean that lists a variable, with what it lists TIED to the program's text (the seventh form; the later family's looks); each row that meets fmt, with fmt's text TOLD by the authors' own Lean function (tested against real Go, not proved from fmt's source: count such statements apart). THE CARD IS WHAT COUNTS. Prove the row's statement (the work); the ties are given (YoefswDoorTie.lean); close each card by the builder's one call (the guide's Derived/Test/ToyasCard.lean, 'card_holds'). Laid BY PROGRAM, IN A SANDBOX (cutbox-door.mjs). By AI agents, Wed Nov 11 2026. No macro, syntax, notation, axiom, sorry.
-/
import Derived.Test.YoefswDoorRows
import GoSem.ClaimSeven
namespace Go.Proofs.YoefswDoor
namespace Rows

/-- THE TIED CARD OF 'zzlaws_root_b1.FnFmtSxMatchesHexModel'. -/
def fnFmtSxMatchesHexModelCard : Claim7 := { stood := { row := fnFmtSxMatchesHexModelRow, standIns := [], harness := (true, "ae7ba54e47974b603e3e7543807faaceec2fb17de876f8734a255a13861ee89e"), looks := false }, kinds := [], alts := [], laidByText := true, laidKinds := [.called, .data], laidTests := true, laidLooks := .later }
def FnFmtSxMatchesHexModelCardSaid : Prop := Claim7.holds Efsg.pinned (.plain (OpenSpec.ofChange fnFmtSxMatchesHexModelSpec)) fnFmtSxMatchesHexModelCard

/-- THE TIED CARD OF 'zzlaws_root_b1.FnFmtSxPrecisionIsACut'. -/
def fnFmtSxPrecisionIsACutCard : Claim7 := { stood := { row := fnFmtSxPrecisionIsACutRow, standIns := [], harness := (true, "ae7ba54e47974b603e3e7543807faaceec2fb17de876f8734a255a13861ee89e"), looks := false }, kinds := [], alts := [], laidByText := true, laidKinds := [.called, .data], laidTests := true, laidLooks := .later }
def FnFmtSxPrecisionIsACutCardSaid : Prop := Claim7.holds Efsg.pinned (.plain (OpenSpec.ofChange fnFmtSxPrecisionIsACutSpec)) fnFmtSxPrecisionIsACutCard

/-- THE TIED CARD OF 'zzlaws_root_b1.FnFmtBxMatchesHexModel'. -/
def fnFmtBxMatchesHexModelCard : Claim7 := { stood := { row := fnFmtBxMatchesHexModelRow, standIns := [], harness := (true, "ae7ba54e47974b603e3e7543807faaceec2fb17de876f8734a255a13861ee89e"), looks := false }, kinds := [], alts := [], laidByText := true, laidKinds := [.called, .data], laidTests := true, laidLooks := .later }
def FnFmtBxMatchesHexModelCardSaid : Prop := Claim7.holds Efsg.pinned (.plain (OpenSpec.ofChange fnFmtBxMatchesHexModelSpec)) fnFmtBxMatchesHexModelCard

/-- THE TIED CARD OF 'zzlaws_root_b1.FnFmtBxAgreesWithFmtSx'. -/
def fnFmtBxAgreesWithFmtSxCard : Claim7 := { stood := { row := fnFmtBxAgreesWithFmtSxRow, standIns := [], harness := (true, "ae7ba54e47974b603e3e7543807faaceec2fb17de876f8734a255a13861ee89e"), looks := false }, kinds := [], alts := [], laidByText := true, laidKinds := [.called, .data], laidTests := true, laidLooks := .later }
def FnFmtBxAgreesWithFmtSxCardSaid : Prop := Claim7.holds Efsg.pinned (.plain (OpenSpec.ofChange fnFmtBxAgreesWithFmtSxSpec)) fnFmtBxAgreesWithFmtSxCard

/-- THE TIED CARD OF 'zzlaws_root_b1.FnFmtQASCIIMatchesQuoteModel'. -/
def fnFmtQASCIIMatchesQuoteModelCard : Claim7 := { stood := { row := fnFmtQASCIIMatchesQuoteModelRow, standIns := [], harness := (true, "ae7ba54e47974b603e3e7543807faaceec2fb17de876f8734a255a13861ee89e"), looks := false }, kinds := [], alts := [], laidByText := true, laidKinds := [.data, .called, .data, .pinned, .pinned, .pinned, .pinned, .pinned, .pinned], laidTests := true, laidLooks := .later }
def FnFmtQASCIIMatchesQuoteModelCardSaid : Prop := Claim7.holds Efsg.pinned (.plain (OpenSpec.ofChange fnFmtQASCIIMatchesQuoteModelSpec)) fnFmtQASCIIMatchesQuoteModelCard

/-- THE TIED CARD OF 'zzlaws_root_b1.FnFmtQPlusIsPrintableASCII'. -/
def fnFmtQPlusIsPrintableASCIICard : Claim7 := { stood := { row := fnFmtQPlusIsPrintableASCIIRow, standIns := [], harness := (true, "ae7ba54e47974b603e3e7543807faaceec2fb17de876f8734a255a13861ee89e"), looks := false }, kinds := [], alts := [], laidByText := true, laidKinds := [.data, .called, .data, .pinned, .pinned, .pinned, .pinned, .pinned, .pinned], laidTests := true, laidLooks := .later }
def FnFmtQPlusIsPrintableASCIICardSaid : Prop := Claim7.holds Efsg.pinned (.plain (OpenSpec.ofChange fnFmtQPlusIsPrintableASCIISpec)) fnFmtQPlusIsPrintableASCIICard

/-- THE TIED CARD OF 'zzlaws_root_b1.FnFmtCMatchesUTF8Model'. -/
def fnFmtCMatchesUTF8ModelCard : Claim7 := { stood := { row := fnFmtCMatchesUTF8ModelRow, standIns := [], harness := (true, "ae7ba54e47974b603e3e7543807faaceec2fb17de876f8734a255a13861ee89e"), looks := false }, kinds := [], alts := [], laidByText := true, laidKinds := [.called, .data], laidTests := true, laidLooks := .later }
def FnFmtCMatchesUTF8ModelCardSaid : Prop := Claim7.holds Efsg.pinned (.plain (OpenSpec.ofChange fnFmtCMatchesUTF8ModelSpec)) fnFmtCMatchesUTF8ModelCard

/-- THE TIED CARD OF 'zzlaws_root_b1.FnFmtCInjectiveOnScalars'. -/
def fnFmtCInjectiveOnScalarsCard : Claim7 := { stood := { row := fnFmtCInjectiveOnScalarsRow, standIns := [], harness := (true, "ae7ba54e47974b603e3e7543807faaceec2fb17de876f8734a255a13861ee89e"), looks := false }, kinds := [], alts := [], laidByText := true, laidKinds := [.called, .data], laidTests := true, laidLooks := .later }
def FnFmtCInjectiveOnScalarsCardSaid : Prop := Claim7.holds Efsg.pinned (.plain (OpenSpec.ofChange fnFmtCInjectiveOnScalarsSpec)) fnFmtCInjectiveOnScalarsCard
end Rows
end Go.Proofs.YoefswDoor
