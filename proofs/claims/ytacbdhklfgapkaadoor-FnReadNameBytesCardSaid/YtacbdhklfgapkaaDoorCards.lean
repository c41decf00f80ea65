/-
  DERIVED. GIVEN WITH THE SEED: THE CARDS: each row of YtacbdhklfgapkaaDoorRows.lean that lists a variable, with what it lists TIED to the program's text (the seventh form; the later family's looks); each row that meets fmt, with fmt's text TOLD by the authors' own Lean function (tested against real Go, not proved from fmt's source: count such statements apart). THE CARD IS WHAT COUNTS. Prove the row's statement (the work); the ties are given (YtacbdhklfgapkaaDoorTie.lean); close each card by the builder's one call (the guide's Derived/Test/ToyasCard.lean, 'card_holds'). Laid BY PROGRAM, IN A SANDBOX (cutbox-door.mjs). By AI agents, Wed Nov 11 2026. No macro, syntax, notation, axiom, sorry.
-/
import Derived.Test.YtacbdhklfgapkaaDoorRows
import GoSem.ClaimSeven
namespace Go.Proofs.YtacbdhklfgapkaaDoor
namespace Rows

/-- THE TIED CARD OF 'laws.FnReadLength'. -/
def fnReadLengthCard : Claim7 := { stood := { row := fnReadLengthRow, standIns := [], harness := (true, "f596c23b150755acb4f3fcad6bbd4c9017fbbb329bdb5159374432f99e1cbe9f"), looks := false }, kinds := [], alts := [], laidByText := true, laidKinds := [.sentinel], laidTests := true, laidLooks := .later }
def FnReadLengthCardSaid : Prop := Claim7.holds Tryd.pinned (.plain (OpenSpec.ofChange fnReadLengthSpec)) fnReadLengthCard

/-- THE TIED CARD OF 'laws.FnReadUint'. -/
def fnReadUintCard : Claim7 := { stood := { row := fnReadUintRow, standIns := [], harness := (true, "f596c23b150755acb4f3fcad6bbd4c9017fbbb329bdb5159374432f99e1cbe9f"), looks := false }, kinds := [], alts := [], laidByText := true, laidKinds := [.sentinel], laidTests := true, laidLooks := .later }
def FnReadUintCardSaid : Prop := Claim7.holds Tryd.pinned (.plain (OpenSpec.ofChange fnReadUintSpec)) fnReadUintCard

/-- THE TIED CARD OF 'laws.FnReadInt'. -/
def fnReadIntCard : Claim7 := { stood := { row := fnReadIntRow, standIns := [], harness := (true, "f596c23b150755acb4f3fcad6bbd4c9017fbbb329bdb5159374432f99e1cbe9f"), looks := false }, kinds := [], alts := [], laidByText := true, laidKinds := [.sentinel, .sentinel], laidTests := true, laidLooks := .later }
def FnReadIntCardSaid : Prop := Claim7.holds Tryd.pinned (.plain (OpenSpec.ofChange fnReadIntSpec)) fnReadIntCard

/-- THE TIED CARD OF 'laws.FnReadName'. -/
def fnReadNameCard : Claim7 := { stood := { row := fnReadNameRow, standIns := [], harness := (true, "f596c23b150755acb4f3fcad6bbd4c9017fbbb329bdb5159374432f99e1cbe9f"), looks := false }, kinds := [], alts := [], laidByText := true, laidKinds := [.data, .data, .data, .sentinel, .sentinel], laidTests := true, laidLooks := .later }
def FnReadNameCardSaid : Prop := Claim7.holds Tryd.pinned (.plain (OpenSpec.ofChange fnReadNameSpec)) fnReadNameCard

/-- THE TIED CARD OF 'laws.FnReadNameBytes'. -/
def fnReadNameBytesCard : Claim7 := { stood := { row := fnReadNameBytesRow, standIns := [], harness := (true, "f596c23b150755acb4f3fcad6bbd4c9017fbbb329bdb5159374432f99e1cbe9f"), looks := false }, kinds := [], alts := [], laidByText := true, laidKinds := [.data, .data, .data, .sentinel, .sentinel], laidTests := true, laidLooks := .later }
def FnReadNameBytesCardSaid : Prop := Claim7.holds Tryd.pinned (.plain (OpenSpec.ofChange fnReadNameBytesSpec)) fnReadNameBytesCard

/-- THE SECOND FORM's CARD OF 'laws.FnReadLength'. -/
def fnReadLengthUptoCard : Claim7 := { stood := { row := fnReadLengthUptoRow, standIns := [], harness := (true, "f596c23b150755acb4f3fcad6bbd4c9017fbbb329bdb5159374432f99e1cbe9f"), looks := false }, kinds := [], alts := [], laidByText := true, laidKinds := [.sentinel], laidTests := true, laidLooks := .later }
def FnReadLengthUptoCardSaid : Prop := Claim7.holds Tryd.pinned (.plain (OpenSpec.upto fnReadLengthSpec)) fnReadLengthUptoCard

/-- THE SECOND FORM's CARD OF 'laws.FnReadUint'. -/
def fnReadUintUptoCard : Claim7 := { stood := { row := fnReadUintUptoRow, standIns := [], harness := (true, "f596c23b150755acb4f3fcad6bbd4c9017fbbb329bdb5159374432f99e1cbe9f"), looks := false }, kinds := [], alts := [], laidByText := true, laidKinds := [.sentinel], laidTests := true, laidLooks := .later }
def FnReadUintUptoCardSaid : Prop := Claim7.holds Tryd.pinned (.plain (OpenSpec.upto fnReadUintSpec)) fnReadUintUptoCard

/-- THE SECOND FORM's CARD OF 'laws.FnReadInt'. -/
def fnReadIntUptoCard : Claim7 := { stood := { row := fnReadIntUptoRow, standIns := [], harness := (true, "f596c23b150755acb4f3fcad6bbd4c9017fbbb329bdb5159374432f99e1cbe9f"), looks := false }, kinds := [], alts := [], laidByText := true, laidKinds := [.sentinel, .sentinel], laidTests := true, laidLooks := .later }
def FnReadIntUptoCardSaid : Prop := Claim7.holds Tryd.pinned (.plain (OpenSpec.upto fnReadIntSpec)) fnReadIntUptoCard

/-- THE SECOND FORM's CARD OF 'laws.FnReadName'. -/
def fnReadNameUptoCard : Claim7 := { stood := { row := fnReadNameUptoRow, standIns := [], harness := (true, "f596c23b150755acb4f3fcad6bbd4c9017fbbb329bdb5159374432f99e1cbe9f"), looks := false }, kinds := [], alts := [], laidByText := true, laidKinds := [.data, .data, .data, .sentinel, .sentinel], laidTests := true, laidLooks := .later }
def FnReadNameUptoCardSaid : Prop := Claim7.holds Tryd.pinned (.plain (OpenSpec.upto fnReadNameSpec)) fnReadNameUptoCard

/-- THE SECOND FORM's CARD OF 'laws.FnReadNameBytes'. -/
def fnReadNameBytesUptoCard : Claim7 := { stood := { row := fnReadNameBytesUptoRow, standIns := [], harness := (true, "f596c23b150755acb4f3fcad6bbd4c9017fbbb329bdb5159374432f99e1cbe9f"), looks := false }, kinds := [], alts := [], laidByText := true, laidKinds := [.data, .data, .data, .sentinel, .sentinel], laidTests := true, laidLooks := .later }
def FnReadNameBytesUptoCardSaid : Prop := Claim7.holds Tryd.pinned (.plain (OpenSpec.upto fnReadNameBytesSpec)) fnReadNameBytesUptoCard
end Rows
end Go.Proofs.YtacbdhklfgapkaaDoor
