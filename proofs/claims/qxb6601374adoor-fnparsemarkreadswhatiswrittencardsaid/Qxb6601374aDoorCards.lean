/-
  DERIVED. GIVEN WITH THE SEED: THE CARDS: each row of Qxb6601374aDoorRows.lean that lists a variable, with what it lists TIED to the program's text (the seventh form; the later family's looks); each row that meets fmt, with fmt's text TOLD by the authors' own Lean function (tested against real Go, not proved from fmt's source: count such statements apart). THE CARD IS WHAT COUNTS. Prove the row's statement (the work); the ties are given (Qxb6601374aDoorTie.lean); close each card by the builder's one call (the guide's Derived/Test/ToyasCard.lean, 'card_holds'). Laid BY PROGRAM, IN A SANDBOX (cutbox-door.mjs). By AI agents, Wed Nov 11 2026. No macro, syntax, notation, axiom, sorry.
-/
import Derived.Test.Qxb6601374aDoorRows
import GoSem.ClaimSeven
namespace Go.Proofs.Qxb6601374aDoor
namespace Rows

/-- THE TIED CARD OF 'zzlaws_admin_b1.FnParseMarkReadsWhatIsWritten'. -/
def fnParseMarkReadsWhatIsWrittenCard : Claim7 := { stood := { row := fnParseMarkReadsWhatIsWrittenRow, standIns := [], harness := (true, "28e0e3c3dcbfc65b5bf45dc735022be774cdeceed6629814c8c9d8f596ead259"), looks := true }, kinds := [], alts := [], laidByText := true, laidKinds := [.data, .data, .data, .sentinel, .sentinel], laidTests := true, laidLooks := .later }
def FnParseMarkReadsWhatIsWrittenCardSaid : Prop := Claim7.holds Tryd.pinned (.plain (OpenSpec.ofChange fnParseMarkReadsWhatIsWrittenSpec)) fnParseMarkReadsWhatIsWrittenCard

/-- THE TIED CARD OF 'zzlaws_admin_b1.FnParseNodeLineIgnoresSurroundingSpace'. -/
def fnParseNodeLineIgnoresSurroundingSpaceCard : Claim7 := { stood := { row := fnParseNodeLineIgnoresSurroundingSpaceRow, standIns := [], harness := (true, "28e0e3c3dcbfc65b5bf45dc735022be774cdeceed6629814c8c9d8f596ead259"), looks := true }, kinds := [], alts := [], laidByText := true, laidKinds := [.data, .data, .data, .data, .sentinel, .sentinel, .listed, .data, .pinned], laidTests := true, laidLooks := .later }
def FnParseNodeLineIgnoresSurroundingSpaceCardSaid : Prop := Claim7.holds Tryd.pinned (.plain (OpenSpec.ofChange fnParseNodeLineIgnoresSurroundingSpaceSpec)) fnParseNodeLineIgnoresSurroundingSpaceCard

/-- THE TIED CARD OF 'zzlaws_admin_b1.FnParseNodeLineRangesInBounds'. -/
def fnParseNodeLineRangesInBoundsCard : Claim7 := { stood := { row := fnParseNodeLineRangesInBoundsRow, standIns := [], harness := (true, "28e0e3c3dcbfc65b5bf45dc735022be774cdeceed6629814c8c9d8f596ead259"), looks := true }, kinds := [], alts := [], laidByText := true, laidKinds := [.data, .data, .data, .data, .sentinel, .sentinel, .listed, .data, .pinned], laidTests := true, laidLooks := .later }
def FnParseNodeLineRangesInBoundsCardSaid : Prop := Claim7.holds Tryd.pinned (.plain (OpenSpec.ofChange fnParseNodeLineRangesInBoundsSpec)) fnParseNodeLineRangesInBoundsCard

/-- THE TIED CARD OF 'zzlaws_admin_b1.FnParseMarkMatchesGrammar'. -/
def fnParseMarkMatchesGrammarCard : Claim7 := { stood := { row := fnParseMarkMatchesGrammarRow, standIns := [], harness := (true, "28e0e3c3dcbfc65b5bf45dc735022be774cdeceed6629814c8c9d8f596ead259"), looks := true }, kinds := [], alts := [], laidByText := true, laidKinds := [.data, .data, .data, .sentinel, .sentinel], laidTests := true, laidLooks := .later }
def FnParseMarkMatchesGrammarCardSaid : Prop := Claim7.holds Tryd.pinned (.plain (OpenSpec.ofChange fnParseMarkMatchesGrammarSpec)) fnParseMarkMatchesGrammarCard
end Rows
end Go.Proofs.Qxb6601374aDoor
