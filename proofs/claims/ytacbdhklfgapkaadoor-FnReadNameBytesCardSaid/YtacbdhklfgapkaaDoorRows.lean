/-
  NARROWER THAN 'FOR EVERY INPUT', by the rows' own cells (each row's printed sentence says how): FnReadLength: ifaces, laid · FnReadUint: ifaces, laid · FnReadInt: ifaces, laid · FnReadName: ifaces, laid · FnReadNameBytes: ifaces, laid.
  DERIVED. THE GIVEN ROWS OF THIS SEAT. 5 by the template 'for every input the law returns true; each argument reads behind the call as it read before'; 0 by the template 'total and deterministic' (their statements: YtacbdhklfgapkaaDoorTotals.lean).
  GIVEN WITH THE SEED: the statements are not yours to turn. If you find one false, say at which input.
  Laid BY PROGRAM, IN A SANDBOX (cutbox-rows.mjs): the forced cells as the released guide's own fill.sh prints them over the translation ef1c24ef4040e14c… (all of the seat's roots in one cut). By AI agents, Wed Nov 11 2026. No macro, syntax, notation, axiom, sorry.
-/
import Derived.Test.YtacbdhklfgapkaaDoorChecked
import GoSem.Claim
import GoSem.ClaimJoined
import GoSem.ClaimMapViews
import Derived.JoinedTies
import Derived.KernelRfl
namespace Go.Proofs.YtacbdhklfgapkaaDoor
/- THE CELL 'sum', in the pinned program and in every row, IS THE sha256 OF THE DUMP (.gsa) THAT YtacbdhklfgapkaaDoorProg.lean LOADS. Nothing in Lean hashes anything: it is a label: what it is worth is what the hold of that sum in a sandbox is worth. -/
noncomputable def Tryd.pinned : Pinned := { name := "ytacbdhklfgapkaadoor", sum := "ef1c24ef4040e14c02b909a40f478d6de5195f1c9e10ab8604e10ede01439b45", checked := Tryd.checked }
namespace Rows
def none {H : Type} : Left H := { results := [], args := [] }

/- WHAT THE LISTED PACKAGE-LEVEL VARIABLES READ AS WHEN THE CALL BEGINS. Each datum BY PROGRAM (the guide's laid-datum.mjs) off the statement by which the dump's own 'gosem.cut.vars' lays the variable. In a bare row this is a premise. The card (YtacbdhklfgapkaaDoorCards.lean) ties it to the program's text. -/
def laid_loop_example_pub_g03261_pub_snmp_ErrInvalidPacketLength {H : Type} : DataW H := .iface "*errors.errorString" (.ptr (.agg [.lit (.string [105, 110, 118, 97, 108, 105, 100, 32, 112, 97, 99, 107, 101, 116, 32, 108, 101, 110, 103, 116, 104])]))
def laid_loop_example_pub_g03261_pub_snmp_ErrIntegerTooLarge {H : Type} : DataW H := .iface "*errors.errorString" (.ptr (.agg [.lit (.string [105, 110, 116, 101, 103, 101, 114, 32, 116, 111, 111, 32, 108, 97, 114, 103, 101])]))
def laid_loop_example_pub_g03261_pub_snmp_ErrZeroLenInteger {H : Type} : DataW H := .iface "*errors.errorString" (.ptr (.agg [.lit (.string [122, 101, 114, 111, 32, 108, 101, 110, 103, 116, 104, 32, 105, 110, 116, 101, 103, 101, 114])]))
def laid_math_bits_deBruijn32tab {H : Type} : DataW H := .agg [.lit (.int .u8 0), .lit (.int .u8 1), .lit (.int .u8 28), .lit (.int .u8 2), .lit (.int .u8 29), .lit (.int .u8 14), .lit (.int .u8 24), .lit (.int .u8 3), .lit (.int .u8 30), .lit (.int .u8 22), .lit (.int .u8 20), .lit (.int .u8 15), .lit (.int .u8 25), .lit (.int .u8 17), .lit (.int .u8 4), .lit (.int .u8 8), .lit (.int .u8 31), .lit (.int .u8 27), .lit (.int .u8 13), .lit (.int .u8 23), .lit (.int .u8 21), .lit (.int .u8 19), .lit (.int .u8 16), .lit (.int .u8 7), .lit (.int .u8 26), .lit (.int .u8 12), .lit (.int .u8 18), .lit (.int .u8 6), .lit (.int .u8 11), .lit (.int .u8 5), .lit (.int .u8 10), .lit (.int .u8 9)]
def laid_math_bits_deBruijn64tab {H : Type} : DataW H := .agg [.lit (.int .u8 0), .lit (.int .u8 1), .lit (.int .u8 56), .lit (.int .u8 2), .lit (.int .u8 57), .lit (.int .u8 49), .lit (.int .u8 28), .lit (.int .u8 3), .lit (.int .u8 61), .lit (.int .u8 58), .lit (.int .u8 42), .lit (.int .u8 50), .lit (.int .u8 38), .lit (.int .u8 29), .lit (.int .u8 17), .lit (.int .u8 4), .lit (.int .u8 62), .lit (.int .u8 47), .lit (.int .u8 59), .lit (.int .u8 36), .lit (.int .u8 45), .lit (.int .u8 43), .lit (.int .u8 51), .lit (.int .u8 22), .lit (.int .u8 53), .lit (.int .u8 39), .lit (.int .u8 33), .lit (.int .u8 30), .lit (.int .u8 24), .lit (.int .u8 18), .lit (.int .u8 12), .lit (.int .u8 5), .lit (.int .u8 63), .lit (.int .u8 55), .lit (.int .u8 48), .lit (.int .u8 27), .lit (.int .u8 60), .lit (.int .u8 41), .lit (.int .u8 37), .lit (.int .u8 16), .lit (.int .u8 46), .lit (.int .u8 35), .lit (.int .u8 44), .lit (.int .u8 21), .lit (.int .u8 52), .lit (.int .u8 32), .lit (.int .u8 23), .lit (.int .u8 11), .lit (.int .u8 54), .lit (.int .u8 26), .lit (.int .u8 40), .lit (.int .u8 15), .lit (.int .u8 34), .lit (.int .u8 20), .lit (.int .u8 31), .lit (.int .u8 10), .lit (.int .u8 25), .lit (.int .u8 14), .lit (.int .u8 19), .lit (.int .u8 9), .lit (.int .u8 13), .lit (.int .u8 8), .lit (.int .u8 7), .lit (.int .u8 6)]
def laid_internal_strconv_uint64pow10 {H : Type} : DataW H := .agg [.lit (.int .u64 1), .lit (.int .u64 10), .lit (.int .u64 100), .lit (.int .u64 1000), .lit (.int .u64 10000), .lit (.int .u64 100000), .lit (.int .u64 1000000), .lit (.int .u64 10000000), .lit (.int .u64 100000000), .lit (.int .u64 1000000000), .lit (.int .u64 10000000000), .lit (.int .u64 100000000000), .lit (.int .u64 1000000000000), .lit (.int .u64 10000000000000), .lit (.int .u64 100000000000000), .lit (.int .u64 1000000000000000), .lit (.int .u64 10000000000000000), .lit (.int .u64 100000000000000000), .lit (.int .u64 1000000000000000000), .lit (.int .u64 10000000000000000000)]
def laid_loop_example_pub_g03261_pub_snmp_ErrBase128IntegerTooLarge {H : Type} : DataW H := .iface "*errors.errorString" (.ptr (.agg [.lit (.string [98, 97, 115, 101, 32, 49, 50, 56, 32, 105, 110, 116, 101, 103, 101, 114, 32, 116, 111, 111, 32, 108, 97, 114, 103, 101])]))
def laid_loop_example_pub_g03261_pub_snmp_ErrBase128IntegerTruncated {H : Type} : DataW H := .iface "*errors.errorString" (.ptr (.agg [.lit (.string [98, 97, 115, 101, 32, 49, 50, 56, 32, 105, 110, 116, 101, 103, 101, 114, 32, 116, 114, 117, 110, 99, 97, 116, 101, 100])]))

/-- 'laws.FnReadLength': WHATEVER THE INPUT: true; the input reads as it did. -/
def fnReadLengthSpec : ChangeSpec := { name := "fnReadLength", vars := ["loop.example/pub-g03261/pub/snmp.ErrInvalidPacketLength"], fn := fun _ => fun
  | [d1, d2, d3, g1] => { results := [.lit (.bool true)], args := [d1, d2, d3], vars := [g1] }
  | _ => none }
def fnReadLengthRow : OpenClaim := { program := "ytacbdhklfgapkaadoor", sum := "ef1c24ef4040e14c02b909a40f478d6de5195f1c9e10ab8604e10ede01439b45", func := "loop.example/pub-g03261/laws.FnReadLength", spec := "fnReadLength", named := ["loop.example/pub-g03261/pub/snmp.ErrInvalidPacketLength"], ifaces := true, apart := false, laid := [("loop.example/pub-g03261/pub/snmp.ErrInvalidPacketLength", laid_loop_example_pub_g03261_pub_snmp_ErrInvalidPacketLength)] }
def FnReadLengthSaid : Prop := fnReadLengthRow.holds Tryd.pinned (OpenSpec.ofChange fnReadLengthSpec)

/-- ITS FALSE NEIGHBOUR: 'it returns false'. Refute it at one input. -/
def fnReadLengthWrong : ChangeSpec := { name := "fnReadLength", vars := ["loop.example/pub-g03261/pub/snmp.ErrInvalidPacketLength"], fn := fun _ => fun
  | [d1, d2, d3, g1] => { results := [.lit (.bool false)], args := [d1, d2, d3], vars := [g1] }
  | _ => none }
def FnReadLengthWrongFalsely : Prop := fnReadLengthRow.holds Tryd.pinned (OpenSpec.ofChange fnReadLengthWrong)

/-- 'laws.FnReadUint': WHATEVER THE INPUT: true; the input reads as it did. -/
def fnReadUintSpec : ChangeSpec := { name := "fnReadUint", vars := ["loop.example/pub-g03261/pub/snmp.ErrIntegerTooLarge"], fn := fun _ => fun
  | [d, g1] => { results := [.lit (.bool true)], args := [d], vars := [g1] }
  | _ => none }
def fnReadUintRow : OpenClaim := { program := "ytacbdhklfgapkaadoor", sum := "ef1c24ef4040e14c02b909a40f478d6de5195f1c9e10ab8604e10ede01439b45", func := "loop.example/pub-g03261/laws.FnReadUint", spec := "fnReadUint", named := ["loop.example/pub-g03261/pub/snmp.ErrIntegerTooLarge"], ifaces := true, apart := false, laid := [("loop.example/pub-g03261/pub/snmp.ErrIntegerTooLarge", laid_loop_example_pub_g03261_pub_snmp_ErrIntegerTooLarge)] }
def FnReadUintSaid : Prop := fnReadUintRow.holds Tryd.pinned (OpenSpec.ofChange fnReadUintSpec)

/-- ITS FALSE NEIGHBOUR: 'it returns false'. Refute it at one input. -/
def fnReadUintWrong : ChangeSpec := { name := "fnReadUint", vars := ["loop.example/pub-g03261/pub/snmp.ErrIntegerTooLarge"], fn := fun _ => fun
  | [d, g1] => { results := [.lit (.bool false)], args := [d], vars := [g1] }
  | _ => none }
def FnReadUintWrongFalsely : Prop := fnReadUintRow.holds Tryd.pinned (OpenSpec.ofChange fnReadUintWrong)

/-- 'laws.FnReadInt': WHATEVER THE INPUT: true; the input reads as it did. -/
def fnReadIntSpec : ChangeSpec := { name := "fnReadInt", vars := ["loop.example/pub-g03261/pub/snmp.ErrZeroLenInteger", "loop.example/pub-g03261/pub/snmp.ErrIntegerTooLarge"], fn := fun _ => fun
  | [d, g1, g2] => { results := [.lit (.bool true)], args := [d], vars := [g1, g2] }
  | _ => none }
def fnReadIntRow : OpenClaim := { program := "ytacbdhklfgapkaadoor", sum := "ef1c24ef4040e14c02b909a40f478d6de5195f1c9e10ab8604e10ede01439b45", func := "loop.example/pub-g03261/laws.FnReadInt", spec := "fnReadInt", named := ["loop.example/pub-g03261/pub/snmp.ErrZeroLenInteger", "loop.example/pub-g03261/pub/snmp.ErrIntegerTooLarge"], ifaces := true, apart := false, laid := [("loop.example/pub-g03261/pub/snmp.ErrIntegerTooLarge", laid_loop_example_pub_g03261_pub_snmp_ErrIntegerTooLarge), ("loop.example/pub-g03261/pub/snmp.ErrZeroLenInteger", laid_loop_example_pub_g03261_pub_snmp_ErrZeroLenInteger)] }
def FnReadIntSaid : Prop := fnReadIntRow.holds Tryd.pinned (OpenSpec.ofChange fnReadIntSpec)

/-- ITS FALSE NEIGHBOUR: 'it returns false'. Refute it at one input. -/
def fnReadIntWrong : ChangeSpec := { name := "fnReadInt", vars := ["loop.example/pub-g03261/pub/snmp.ErrZeroLenInteger", "loop.example/pub-g03261/pub/snmp.ErrIntegerTooLarge"], fn := fun _ => fun
  | [d, g1, g2] => { results := [.lit (.bool false)], args := [d], vars := [g1, g2] }
  | _ => none }
def FnReadIntWrongFalsely : Prop := fnReadIntRow.holds Tryd.pinned (OpenSpec.ofChange fnReadIntWrong)

/-- 'laws.FnReadName': WHATEVER THE INPUT: true; the input reads as it did. -/
def fnReadNameSpec : ChangeSpec := { name := "fnReadName", vars := ["loop.example/pub-g03261/pub/snmp.ErrBase128IntegerTooLarge", "loop.example/pub-g03261/pub/snmp.ErrBase128IntegerTruncated"], fn := fun _ => fun
  | [d, g1, g2] => { results := [.lit (.bool true)], args := [d], vars := [g1, g2] }
  | _ => none }
def fnReadNameRow : OpenClaim := { program := "ytacbdhklfgapkaadoor", sum := "ef1c24ef4040e14c02b909a40f478d6de5195f1c9e10ab8604e10ede01439b45", func := "loop.example/pub-g03261/laws.FnReadName", spec := "fnReadName", named := ["loop.example/pub-g03261/pub/snmp.ErrBase128IntegerTooLarge", "loop.example/pub-g03261/pub/snmp.ErrBase128IntegerTruncated", "internal/strconv.uint64pow10", "math/bits.deBruijn32tab", "math/bits.deBruijn64tab"], ifaces := true, apart := false, laid := [("math/bits.deBruijn32tab", laid_math_bits_deBruijn32tab), ("math/bits.deBruijn64tab", laid_math_bits_deBruijn64tab), ("internal/strconv.uint64pow10", laid_internal_strconv_uint64pow10), ("loop.example/pub-g03261/pub/snmp.ErrBase128IntegerTooLarge", laid_loop_example_pub_g03261_pub_snmp_ErrBase128IntegerTooLarge), ("loop.example/pub-g03261/pub/snmp.ErrBase128IntegerTruncated", laid_loop_example_pub_g03261_pub_snmp_ErrBase128IntegerTruncated)] }
def FnReadNameSaid : Prop := fnReadNameRow.holds Tryd.pinned (OpenSpec.ofChange fnReadNameSpec)

/-- ITS FALSE NEIGHBOUR: 'it returns false'. Refute it at one input. -/
def fnReadNameWrong : ChangeSpec := { name := "fnReadName", vars := ["loop.example/pub-g03261/pub/snmp.ErrBase128IntegerTooLarge", "loop.example/pub-g03261/pub/snmp.ErrBase128IntegerTruncated"], fn := fun _ => fun
  | [d, g1, g2] => { results := [.lit (.bool false)], args := [d], vars := [g1, g2] }
  | _ => none }
def FnReadNameWrongFalsely : Prop := fnReadNameRow.holds Tryd.pinned (OpenSpec.ofChange fnReadNameWrong)

/-- 'laws.FnReadNameBytes': WHATEVER THE INPUT: true; the input reads as it did. -/
def fnReadNameBytesSpec : ChangeSpec := { name := "fnReadNameBytes", vars := ["loop.example/pub-g03261/pub/snmp.ErrBase128IntegerTooLarge", "loop.example/pub-g03261/pub/snmp.ErrBase128IntegerTruncated"], fn := fun _ => fun
  | [d, g1, g2] => { results := [.lit (.bool true)], args := [d], vars := [g1, g2] }
  | _ => none }
def fnReadNameBytesRow : OpenClaim := { program := "ytacbdhklfgapkaadoor", sum := "ef1c24ef4040e14c02b909a40f478d6de5195f1c9e10ab8604e10ede01439b45", func := "loop.example/pub-g03261/laws.FnReadNameBytes", spec := "fnReadNameBytes", named := ["loop.example/pub-g03261/pub/snmp.ErrBase128IntegerTooLarge", "loop.example/pub-g03261/pub/snmp.ErrBase128IntegerTruncated", "internal/strconv.uint64pow10", "math/bits.deBruijn32tab", "math/bits.deBruijn64tab"], ifaces := true, apart := false, laid := [("math/bits.deBruijn32tab", laid_math_bits_deBruijn32tab), ("math/bits.deBruijn64tab", laid_math_bits_deBruijn64tab), ("internal/strconv.uint64pow10", laid_internal_strconv_uint64pow10), ("loop.example/pub-g03261/pub/snmp.ErrBase128IntegerTooLarge", laid_loop_example_pub_g03261_pub_snmp_ErrBase128IntegerTooLarge), ("loop.example/pub-g03261/pub/snmp.ErrBase128IntegerTruncated", laid_loop_example_pub_g03261_pub_snmp_ErrBase128IntegerTruncated)] }
def FnReadNameBytesSaid : Prop := fnReadNameBytesRow.holds Tryd.pinned (OpenSpec.ofChange fnReadNameBytesSpec)

/-- ITS FALSE NEIGHBOUR: 'it returns false'. Refute it at one input. -/
def fnReadNameBytesWrong : ChangeSpec := { name := "fnReadNameBytes", vars := ["loop.example/pub-g03261/pub/snmp.ErrBase128IntegerTooLarge", "loop.example/pub-g03261/pub/snmp.ErrBase128IntegerTruncated"], fn := fun _ => fun
  | [d, g1, g2] => { results := [.lit (.bool false)], args := [d], vars := [g1, g2] }
  | _ => none }
def FnReadNameBytesWrongFalsely : Prop := fnReadNameBytesRow.holds Tryd.pinned (OpenSpec.ofChange fnReadNameBytesWrong)

/- THE SECOND FORM. 'bulk': how many values and letters a reading holds, each counted each time it is reached (what is shared counts as often as it is met; a slice's spare places count too). A statement '..UptoSaid' is the law's where the arguments, and the package variables that the reading takes, are together of bulk at most 1048576: NARROWER than '..Said'. Prove '..Said' where nothing that the law and all that it calls make is longer than what came in: it says more and counts as full. Else prove '..UptoSaid'. A law counts once. -/
mutual
def uptoBulk {H : Type} : DataW H → Nat
  | .lit (.string bytes) => bytes.length + 1
  | .lit _ => 1
  | .nil => 1
  | .ptr d => uptoBulk d + 1
  | .slice elems spare => uptoBulkAll elems + uptoBulkAll spare + 1
  | .agg parts => uptoBulkAll parts + 1
  | .iface _ d => uptoBulk d + 1
  | .map entries => uptoBulkEntries entries + 1
  | .held _ => 1
def uptoBulkAll {H : Type} : List (DataW H) → Nat
  | [] => 0
  | d :: r => uptoBulk d + uptoBulkAll r
def uptoBulkEntries {H : Type} : List (Lit × DataW H) → Nat
  | [] => 0
  | x :: r => uptoBulkEntry x + uptoBulkEntries r
def uptoBulkEntry {H : Type} : Lit × DataW H → Nat
  | (.string bytes, d) => bytes.length + uptoBulk d + 1
  | (_, d) => uptoBulk d + 1
 end
def uptoSmall : (H : Type) → List (DataW H) → Bool := fun _ ds => decide (uptoBulkAll ds ≤ 1048576)
def OpenSpec.upto (s : _root_.Go.ChangeSpec) : _root_.Go.OpenSpec := { _root_.Go.OpenSpec.ofChange s with cond := some uptoSmall }

/-- 'laws.FnReadLength', WHERE WHAT IT READS IS OF BULK AT MOST 1048576: true; the input reads as it did. -/
def fnReadLengthUptoRow : OpenClaim := { program := "ytacbdhklfgapkaadoor", sum := "ef1c24ef4040e14c02b909a40f478d6de5195f1c9e10ab8604e10ede01439b45", func := "loop.example/pub-g03261/laws.FnReadLength", spec := "fnReadLength", named := ["loop.example/pub-g03261/pub/snmp.ErrInvalidPacketLength"], ifaces := true, apart := false, laid := [("loop.example/pub-g03261/pub/snmp.ErrInvalidPacketLength", laid_loop_example_pub_g03261_pub_snmp_ErrInvalidPacketLength)], narrowed := true }
def FnReadLengthUptoSaid : Prop := fnReadLengthUptoRow.holds Tryd.pinned (OpenSpec.upto fnReadLengthSpec)

/-- 'laws.FnReadUint', WHERE WHAT IT READS IS OF BULK AT MOST 1048576: true; the input reads as it did. -/
def fnReadUintUptoRow : OpenClaim := { program := "ytacbdhklfgapkaadoor", sum := "ef1c24ef4040e14c02b909a40f478d6de5195f1c9e10ab8604e10ede01439b45", func := "loop.example/pub-g03261/laws.FnReadUint", spec := "fnReadUint", named := ["loop.example/pub-g03261/pub/snmp.ErrIntegerTooLarge"], ifaces := true, apart := false, laid := [("loop.example/pub-g03261/pub/snmp.ErrIntegerTooLarge", laid_loop_example_pub_g03261_pub_snmp_ErrIntegerTooLarge)], narrowed := true }
def FnReadUintUptoSaid : Prop := fnReadUintUptoRow.holds Tryd.pinned (OpenSpec.upto fnReadUintSpec)

/-- 'laws.FnReadInt', WHERE WHAT IT READS IS OF BULK AT MOST 1048576: true; the input reads as it did. -/
def fnReadIntUptoRow : OpenClaim := { program := "ytacbdhklfgapkaadoor", sum := "ef1c24ef4040e14c02b909a40f478d6de5195f1c9e10ab8604e10ede01439b45", func := "loop.example/pub-g03261/laws.FnReadInt", spec := "fnReadInt", named := ["loop.example/pub-g03261/pub/snmp.ErrZeroLenInteger", "loop.example/pub-g03261/pub/snmp.ErrIntegerTooLarge"], ifaces := true, apart := false, laid := [("loop.example/pub-g03261/pub/snmp.ErrIntegerTooLarge", laid_loop_example_pub_g03261_pub_snmp_ErrIntegerTooLarge), ("loop.example/pub-g03261/pub/snmp.ErrZeroLenInteger", laid_loop_example_pub_g03261_pub_snmp_ErrZeroLenInteger)], narrowed := true }
def FnReadIntUptoSaid : Prop := fnReadIntUptoRow.holds Tryd.pinned (OpenSpec.upto fnReadIntSpec)

/-- 'laws.FnReadName', WHERE WHAT IT READS IS OF BULK AT MOST 1048576: true; the input reads as it did. -/
def fnReadNameUptoRow : OpenClaim := { program := "ytacbdhklfgapkaadoor", sum := "ef1c24ef4040e14c02b909a40f478d6de5195f1c9e10ab8604e10ede01439b45", func := "loop.example/pub-g03261/laws.FnReadName", spec := "fnReadName", named := ["loop.example/pub-g03261/pub/snmp.ErrBase128IntegerTooLarge", "loop.example/pub-g03261/pub/snmp.ErrBase128IntegerTruncated", "internal/strconv.uint64pow10", "math/bits.deBruijn32tab", "math/bits.deBruijn64tab"], ifaces := true, apart := false, laid := [("math/bits.deBruijn32tab", laid_math_bits_deBruijn32tab), ("math/bits.deBruijn64tab", laid_math_bits_deBruijn64tab), ("internal/strconv.uint64pow10", laid_internal_strconv_uint64pow10), ("loop.example/pub-g03261/pub/snmp.ErrBase128IntegerTooLarge", laid_loop_example_pub_g03261_pub_snmp_ErrBase128IntegerTooLarge), ("loop.example/pub-g03261/pub/snmp.ErrBase128IntegerTruncated", laid_loop_example_pub_g03261_pub_snmp_ErrBase128IntegerTruncated)], narrowed := true }
def FnReadNameUptoSaid : Prop := fnReadNameUptoRow.holds Tryd.pinned (OpenSpec.upto fnReadNameSpec)

/-- 'laws.FnReadNameBytes', WHERE WHAT IT READS IS OF BULK AT MOST 1048576: true; the input reads as it did. -/
def fnReadNameBytesUptoRow : OpenClaim := { program := "ytacbdhklfgapkaadoor", sum := "ef1c24ef4040e14c02b909a40f478d6de5195f1c9e10ab8604e10ede01439b45", func := "loop.example/pub-g03261/laws.FnReadNameBytes", spec := "fnReadNameBytes", named := ["loop.example/pub-g03261/pub/snmp.ErrBase128IntegerTooLarge", "loop.example/pub-g03261/pub/snmp.ErrBase128IntegerTruncated", "internal/strconv.uint64pow10", "math/bits.deBruijn32tab", "math/bits.deBruijn64tab"], ifaces := true, apart := false, laid := [("math/bits.deBruijn32tab", laid_math_bits_deBruijn32tab), ("math/bits.deBruijn64tab", laid_math_bits_deBruijn64tab), ("internal/strconv.uint64pow10", laid_internal_strconv_uint64pow10), ("loop.example/pub-g03261/pub/snmp.ErrBase128IntegerTooLarge", laid_loop_example_pub_g03261_pub_snmp_ErrBase128IntegerTooLarge), ("loop.example/pub-g03261/pub/snmp.ErrBase128IntegerTruncated", laid_loop_example_pub_g03261_pub_snmp_ErrBase128IntegerTruncated)], narrowed := true }
def FnReadNameBytesUptoSaid : Prop := fnReadNameBytesUptoRow.holds Tryd.pinned (OpenSpec.upto fnReadNameBytesSpec)

end Rows
end Go.Proofs.YtacbdhklfgapkaaDoor
