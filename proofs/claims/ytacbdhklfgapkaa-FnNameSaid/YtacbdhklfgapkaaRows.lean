/-
  No cell of these rows narrows 'for every input' (looked for: loops, veiled, ifaces, maps, wideKeys, modest, calm, conditions, laid).
  DERIVED. THE GIVEN ROWS OF THIS SEAT. 4 by the template 'for every input the law returns true; each argument reads behind the call as it read before'; 0 by the template 'total and deterministic' (their statements: YtacbdhklfgapkaaTotals.lean).
  GIVEN WITH THE SEED: the statements are not yours to turn. If you find one false, say at which input.
  Laid BY PROGRAM, IN A SANDBOX (cutbox-rows.mjs): the forced cells as the released guide's own fill.sh prints them over the translation edfd43ecf23f2951… (all of the seat's roots in one cut). By AI agents, Wed Nov 11 2026. No macro, syntax, notation, axiom, sorry.
-/
import Derived.Test.YtacbdhklfgapkaaChecked
import GoSem.Claim
import GoSem.ClaimJoined
import GoSem.ClaimMapViews
import Derived.JoinedTies
import Derived.KernelRfl
namespace Go.Proofs.Ytacbdhklfgapkaa
/- THE CELL 'sum', in the pinned program and in every row, IS THE sha256 OF THE DUMP (.gsa) THAT YtacbdhklfgapkaaProg.lean LOADS. Nothing in Lean hashes anything: it is a label: what it is worth is what the hold of that sum in a sandbox is worth. -/
noncomputable def Try.pinned : Pinned := { name := "ytacbdhklfgapkaa", sum := "edfd43ecf23f295157cc3655661eea1960d3a7520a3e4b2977c22305207ff72c", checked := Try.checked }
namespace Rows
def none {H : Type} : Left H := { results := [], args := [] }

/-- 'laws.FnInt': WHATEVER THE INPUT: true; the input reads as it did. -/
def fnIntSpec : ChangeSpec := { name := "fnInt", fn := fun _ => fun
  | [d] => { results := [.lit (.bool true)], args := [d] }
  | _ => none }
def fnIntRow : OpenClaim := { program := "ytacbdhklfgapkaa", sum := "edfd43ecf23f295157cc3655661eea1960d3a7520a3e4b2977c22305207ff72c", func := "loop.example/pub-g03261/laws.FnInt", spec := "fnInt", apart := false }
def FnIntSaid : Prop := fnIntRow.holds Try.pinned (OpenSpec.ofChange fnIntSpec)

/-- ITS FALSE NEIGHBOUR: 'it returns false'. Refute it at one input. -/
def fnIntWrong : ChangeSpec := { name := "fnInt", fn := fun _ => fun
  | [d] => { results := [.lit (.bool false)], args := [d] }
  | _ => none }
def FnIntWrongFalsely : Prop := fnIntRow.holds Try.pinned (OpenSpec.ofChange fnIntWrong)

/-- 'laws.FnLength': WHATEVER THE INPUT: true; the input reads as it did. -/
def fnLengthSpec : ChangeSpec := { name := "fnLength", fn := fun _ => fun
  | [d] => { results := [.lit (.bool true)], args := [d] }
  | _ => none }
def fnLengthRow : OpenClaim := { program := "ytacbdhklfgapkaa", sum := "edfd43ecf23f295157cc3655661eea1960d3a7520a3e4b2977c22305207ff72c", func := "loop.example/pub-g03261/laws.FnLength", spec := "fnLength", named := ["encoding/binary.BigEndian"], apart := false }
def FnLengthSaid : Prop := fnLengthRow.holds Try.pinned (OpenSpec.ofChange fnLengthSpec)

/-- ITS FALSE NEIGHBOUR: 'it returns false'. Refute it at one input. -/
def fnLengthWrong : ChangeSpec := { name := "fnLength", fn := fun _ => fun
  | [d] => { results := [.lit (.bool false)], args := [d] }
  | _ => none }
def FnLengthWrongFalsely : Prop := fnLengthRow.holds Try.pinned (OpenSpec.ofChange fnLengthWrong)

/-- 'laws.FnName': WHATEVER THE INPUT: true; the input reads as it did. -/
def fnNameSpec : ChangeSpec := { name := "fnName", fn := fun _ => fun
  | [d] => { results := [.lit (.bool true)], args := [d] }
  | _ => none }
def fnNameRow : OpenClaim := { program := "ytacbdhklfgapkaa", sum := "edfd43ecf23f295157cc3655661eea1960d3a7520a3e4b2977c22305207ff72c", func := "loop.example/pub-g03261/laws.FnName", spec := "fnName", apart := false }
def FnNameSaid : Prop := fnNameRow.holds Try.pinned (OpenSpec.ofChange fnNameSpec)

/-- ITS FALSE NEIGHBOUR: 'it returns false'. Refute it at one input. -/
def fnNameWrong : ChangeSpec := { name := "fnName", fn := fun _ => fun
  | [d] => { results := [.lit (.bool false)], args := [d] }
  | _ => none }
def FnNameWrongFalsely : Prop := fnNameRow.holds Try.pinned (OpenSpec.ofChange fnNameWrong)

/-- 'laws.FnUint': WHATEVER THE INPUT: true; the input reads as it did. -/
def fnUintSpec : ChangeSpec := { name := "fnUint", fn := fun _ => fun
  | [d] => { results := [.lit (.bool true)], args := [d] }
  | _ => none }
def fnUintRow : OpenClaim := { program := "ytacbdhklfgapkaa", sum := "edfd43ecf23f295157cc3655661eea1960d3a7520a3e4b2977c22305207ff72c", func := "loop.example/pub-g03261/laws.FnUint", spec := "fnUint", named := ["encoding/binary.BigEndian"], apart := false }
def FnUintSaid : Prop := fnUintRow.holds Try.pinned (OpenSpec.ofChange fnUintSpec)

/-- ITS FALSE NEIGHBOUR: 'it returns false'. Refute it at one input. -/
def fnUintWrong : ChangeSpec := { name := "fnUint", fn := fun _ => fun
  | [d] => { results := [.lit (.bool false)], args := [d] }
  | _ => none }
def FnUintWrongFalsely : Prop := fnUintRow.holds Try.pinned (OpenSpec.ofChange fnUintWrong)

/- THE SECOND FORM. 'bulk': how many values and letters a reading holds, each counted each time it is reached (what is shared counts as often as it is met; a slice's spare places count too). A statement '..UptoSaid' is the law's where the arguments, and the package variables that the reading takes, are together of bulk at most 1048576: NARROWER than '..Said'. Prove '..Said' where nothing that the law and all that it calls make is longer than what came in: it says more and counts as full. Else prove '..UptoSaid'. A law counts once. -/
mutual
def uptoBulk {H : Type} : DataW H → Nat
  | .lit (.string bytes) => bytes.length + 1
  | .lit _ => 1
  | .nil => 1
  | .ptr d => uptoBulk d + 1
  | .slice elems spare => uptoBulkAll elems + uptoBulkAll spare + 1
  | .agg parts => uptoBulkAll parts + 1
  | .iface _ d => uptoBulk d + 1
  | .map entries => uptoBulkEntries entries + 1
  | .held _ => 1
def uptoBulkAll {H : Type} : List (DataW H) → Nat
  | [] => 0
  | d :: r => uptoBulk d + uptoBulkAll r
def uptoBulkEntries {H : Type} : List (Lit × DataW H) → Nat
  | [] => 0
  | x :: r => uptoBulkEntry x + uptoBulkEntries r
def uptoBulkEntry {H : Type} : Lit × DataW H → Nat
  | (.string bytes, d) => bytes.length + uptoBulk d + 1
  | (_, d) => uptoBulk d + 1
 end
def uptoSmall : (H : Type) → List (DataW H) → Bool := fun _ ds => decide (uptoBulkAll ds ≤ 1048576)
def OpenSpec.upto (s : _root_.Go.ChangeSpec) : _root_.Go.OpenSpec := { _root_.Go.OpenSpec.ofChange s with cond := some uptoSmall }

/-- 'laws.FnInt', WHERE WHAT IT READS IS OF BULK AT MOST 1048576: true; the input reads as it did. -/
def fnIntUptoRow : OpenClaim := { program := "ytacbdhklfgapkaa", sum := "edfd43ecf23f295157cc3655661eea1960d3a7520a3e4b2977c22305207ff72c", func := "loop.example/pub-g03261/laws.FnInt", spec := "fnInt", apart := false, narrowed := true }
def FnIntUptoSaid : Prop := fnIntUptoRow.holds Try.pinned (OpenSpec.upto fnIntSpec)

/-- 'laws.FnLength', WHERE WHAT IT READS IS OF BULK AT MOST 1048576: true; the input reads as it did. -/
def fnLengthUptoRow : OpenClaim := { program := "ytacbdhklfgapkaa", sum := "edfd43ecf23f295157cc3655661eea1960d3a7520a3e4b2977c22305207ff72c", func := "loop.example/pub-g03261/laws.FnLength", spec := "fnLength", named := ["encoding/binary.BigEndian"], apart := false, narrowed := true }
def FnLengthUptoSaid : Prop := fnLengthUptoRow.holds Try.pinned (OpenSpec.upto fnLengthSpec)

/-- 'laws.FnName', WHERE WHAT IT READS IS OF BULK AT MOST 1048576: true; the input reads as it did. -/
def fnNameUptoRow : OpenClaim := { program := "ytacbdhklfgapkaa", sum := "edfd43ecf23f295157cc3655661eea1960d3a7520a3e4b2977c22305207ff72c", func := "loop.example/pub-g03261/laws.FnName", spec := "fnName", apart := false, narrowed := true }
def FnNameUptoSaid : Prop := fnNameUptoRow.holds Try.pinned (OpenSpec.upto fnNameSpec)

/-- 'laws.FnUint', WHERE WHAT IT READS IS OF BULK AT MOST 1048576: true; the input reads as it did. -/
def fnUintUptoRow : OpenClaim := { program := "ytacbdhklfgapkaa", sum := "edfd43ecf23f295157cc3655661eea1960d3a7520a3e4b2977c22305207ff72c", func := "loop.example/pub-g03261/laws.FnUint", spec := "fnUint", named := ["encoding/binary.BigEndian"], apart := false, narrowed := true }
def FnUintUptoSaid : Prop := fnUintUptoRow.holds Try.pinned (OpenSpec.upto fnUintSpec)

end Rows
end Go.Proofs.Ytacbdhklfgapkaa
