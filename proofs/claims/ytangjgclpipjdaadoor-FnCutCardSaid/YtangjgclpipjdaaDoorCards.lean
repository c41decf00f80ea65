/-
  DERIVED. GIVEN WITH THE SEED: THE CARDS: each row of YtangjgclpipjdaaDoorRows.lean that lists a variable, with what it lists TIED to the program's text (the seventh form; the later family's looks); each row that meets fmt, with fmt's text TOLD by the authors' own Lean function (tested against real Go, not proved from fmt's source: count such statements apart). THE CARD IS WHAT COUNTS. Prove the row's statement (the work); the ties are given (YtangjgclpipjdaaDoorTie.lean); close each card by the builder's one call (the guide's Derived/Test/ToyasCard.lean, 'card_holds'). Laid BY PROGRAM, IN A SANDBOX (cutbox-door.mjs). By AI agents, Wed Nov 11 2026. No macro, syntax, notation, axiom, sorry.
-/
import Derived.Test.YtangjgclpipjdaaDoorRows
import GoSem.ClaimSeven
namespace Go.Proofs.YtangjgclpipjdaaDoor
namespace Rows

/-- THE TIED CARD OF 'laws.FnValue'. -/
def fnValueCard : Claim7 := { stood := { row := fnValueRow, standIns := [], harness := (true, "d4f6ea03bc9d38cd540cbee4e24fad1890cbd5cb11bd099a91ac13946ffc23cb"), looks := true }, kinds := [], alts := [], laidByText := true, laidKinds := [.sentinel, .called, .called, .zero], laidTests := true, laidLooks := .later }
def FnValueCardSaid : Prop := Claim7.holds Tryd.pinned (.plain (OpenSpec.ofChange fnValueSpec)) fnValueCard

/-- THE TIED CARD OF 'laws.FnReadValue'. -/
def fnReadValueCard : Claim7 := { stood := { row := fnReadValueRow, standIns := [], harness := (true, "d4f6ea03bc9d38cd540cbee4e24fad1890cbd5cb11bd099a91ac13946ffc23cb"), looks := true }, kinds := [], alts := [], laidByText := true, laidKinds := [.data, .data, .data, .called, .called, .data, .data, .data, .data, .sentinel, .sentinel, .sentinel, .sentinel, .sentinel, .sentinel, .sentinel, .sentinel, .zero], laidTests := true, laidLooks := .later }
def FnReadValueCardSaid : Prop := Claim7.holds Tryd.pinned (.plain (OpenSpec.ofChange fnReadValueSpec)) fnReadValueCard

/-- THE TIED CARD OF 'laws.FnEncode'. -/
def fnEncodeCard : Claim7 := { stood := { row := fnEncodeRow, standIns := [], harness := (true, "d4f6ea03bc9d38cd540cbee4e24fad1890cbd5cb11bd099a91ac13946ffc23cb"), looks := true }, kinds := [], alts := [], laidByText := true, laidKinds := [.sentinel, .sentinel, .called, .called, .zero], laidTests := true, laidLooks := .later }
def FnEncodeCardSaid : Prop := Claim7.holds Tryd.pinned (.plain (OpenSpec.ofChange fnEncodeSpec)) fnEncodeCard

/-- THE TIED CARD OF 'laws.FnCut'. -/
def fnCutCard : Claim7 := { stood := { row := fnCutRow, standIns := [], harness := (true, "d4f6ea03bc9d38cd540cbee4e24fad1890cbd5cb11bd099a91ac13946ffc23cb"), looks := true }, kinds := [], alts := [], laidByText := true, laidKinds := [.data, .data, .data, .called, .called, .data, .data, .data, .data, .sentinel, .sentinel, .sentinel, .sentinel, .sentinel, .sentinel, .sentinel, .sentinel, .zero], laidTests := true, laidLooks := .later }
def FnCutCardSaid : Prop := Claim7.holds Tryd.pinned (.plain (OpenSpec.ofChange fnCutSpec)) fnCutCard

/-- THE TIED CARD OF 'laws.FnDecode'. -/
def fnDecodeCard : Claim7 := { stood := { row := fnDecodeRow, standIns := [], harness := (true, "d4f6ea03bc9d38cd540cbee4e24fad1890cbd5cb11bd099a91ac13946ffc23cb"), looks := true }, kinds := [], alts := [], laidByText := true, laidKinds := [.data, .data, .data, .called, .called, .data, .data, .data, .data, .sentinel, .sentinel, .sentinel, .sentinel, .sentinel, .sentinel, .sentinel, .sentinel, .zero], laidTests := true, laidLooks := .later }
def FnDecodeCardSaid : Prop := Claim7.holds Tryd.pinned (.plain (OpenSpec.ofChange fnDecodeSpec)) fnDecodeCard

/-- THE TIED CARD OF 'laws.FnRead'. -/
def fnReadCard : Claim7 := { stood := { row := fnReadRow, standIns := [], harness := (true, "d4f6ea03bc9d38cd540cbee4e24fad1890cbd5cb11bd099a91ac13946ffc23cb"), looks := true }, kinds := [], alts := [], laidByText := true, laidKinds := [.data, .data, .data, .called, .called, .data, .data, .data, .data, .sentinel, .sentinel, .sentinel, .sentinel, .sentinel, .sentinel, .sentinel, .sentinel, .zero], laidTests := true, laidLooks := .later }
def FnReadCardSaid : Prop := Claim7.holds Tryd.pinned (.plain (OpenSpec.ofChange fnReadSpec)) fnReadCard

/-- THE SECOND FORM's CARD OF 'laws.FnValue'. -/
def fnValueUptoCard : Claim7 := { stood := { row := fnValueUptoRow, standIns := [], harness := (true, "d4f6ea03bc9d38cd540cbee4e24fad1890cbd5cb11bd099a91ac13946ffc23cb"), looks := true }, kinds := [], alts := [], laidByText := true, laidKinds := [.sentinel, .called, .called, .zero], laidTests := true, laidLooks := .later }
def FnValueUptoCardSaid : Prop := Claim7.holds Tryd.pinned (.plain (OpenSpec.upto fnValueSpec)) fnValueUptoCard

/-- THE SECOND FORM's CARD OF 'laws.FnReadValue'. -/
def fnReadValueUptoCard : Claim7 := { stood := { row := fnReadValueUptoRow, standIns := [], harness := (true, "d4f6ea03bc9d38cd540cbee4e24fad1890cbd5cb11bd099a91ac13946ffc23cb"), looks := true }, kinds := [], alts := [], laidByText := true, laidKinds := [.data, .data, .data, .called, .called, .data, .data, .data, .data, .sentinel, .sentinel, .sentinel, .sentinel, .sentinel, .sentinel, .sentinel, .sentinel, .zero], laidTests := true, laidLooks := .later }
def FnReadValueUptoCardSaid : Prop := Claim7.holds Tryd.pinned (.plain (OpenSpec.upto fnReadValueSpec)) fnReadValueUptoCard

/-- THE SECOND FORM's CARD OF 'laws.FnEncode'. -/
def fnEncodeUptoCard : Claim7 := { stood := { row := fnEncodeUptoRow, standIns := [], harness := (true, "d4f6ea03bc9d38cd540cbee4e24fad1890cbd5cb11bd099a91ac13946ffc23cb"), looks := true }, kinds := [], alts := [], laidByText := true, laidKinds := [.sentinel, .sentinel, .called, .called, .zero], laidTests := true, laidLooks := .later }
def FnEncodeUptoCardSaid : Prop := Claim7.holds Tryd.pinned (.plain (OpenSpec.upto fnEncodeSpec)) fnEncodeUptoCard

/-- THE SECOND FORM's CARD OF 'laws.FnCut'. -/
def fnCutUptoCard : Claim7 := { stood := { row := fnCutUptoRow, standIns := [], harness := (true, "d4f6ea03bc9d38cd540cbee4e24fad1890cbd5cb11bd099a91ac13946ffc23cb"), looks := true }, kinds := [], alts := [], laidByText := true, laidKinds := [.data, .data, .data, .called, .called, .data, .data, .data, .data, .sentinel, .sentinel, .sentinel, .sentinel, .sentinel, .sentinel, .sentinel, .sentinel, .zero], laidTests := true, laidLooks := .later }
def FnCutUptoCardSaid : Prop := Claim7.holds Tryd.pinned (.plain (OpenSpec.upto fnCutSpec)) fnCutUptoCard

/-- THE SECOND FORM's CARD OF 'laws.FnDecode'. -/
def fnDecodeUptoCard : Claim7 := { stood := { row := fnDecodeUptoRow, standIns := [], harness := (true, "d4f6ea03bc9d38cd540cbee4e24fad1890cbd5cb11bd099a91ac13946ffc23cb"), looks := true }, kinds := [], alts := [], laidByText := true, laidKinds := [.data, .data, .data, .called, .called, .data, .data, .data, .data, .sentinel, .sentinel, .sentinel, .sentinel, .sentinel, .sentinel, .sentinel, .sentinel, .zero], laidTests := true, laidLooks := .later }
def FnDecodeUptoCardSaid : Prop := Claim7.holds Tryd.pinned (.plain (OpenSpec.upto fnDecodeSpec)) fnDecodeUptoCard

/-- THE SECOND FORM's CARD OF 'laws.FnRead'. -/
def fnReadUptoCard : Claim7 := { stood := { row := fnReadUptoRow, standIns := [], harness := (true, "d4f6ea03bc9d38cd540cbee4e24fad1890cbd5cb11bd099a91ac13946ffc23cb"), looks := true }, kinds := [], alts := [], laidByText := true, laidKinds := [.data, .data, .data, .called, .called, .data, .data, .data, .data, .sentinel, .sentinel, .sentinel, .sentinel, .sentinel, .sentinel, .sentinel, .sentinel, .zero], laidTests := true, laidLooks := .later }
def FnReadUptoCardSaid : Prop := Claim7.holds Tryd.pinned (.plain (OpenSpec.upto fnReadSpec)) fnReadUptoCard
end Rows
end Go.Proofs.YtangjgclpipjdaaDoor
