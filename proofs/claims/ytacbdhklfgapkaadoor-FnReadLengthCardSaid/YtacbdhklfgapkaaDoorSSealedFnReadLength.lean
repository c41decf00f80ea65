/- spec.Sealed's printed function. -/
import Derived.Test.YtacbdhklfgapkaaDoorSLenFnReadLength
set_option linter.unusedVariables false
namespace Go.Proofs.YtacbdhklfgapkaaDoor
open Go.RowKit Go.Proofs.YtacbdhklfgapkaaDoorW.PrintWords Go.Proofs.YtacbdhklfgapkaaDoorW.PrintLast Go.Proofs.YtacbdhklfgapkaaDoorW.PrintMore

theorem sSealed_eq (tag : Int) (c : List Int) (wide : Nat) (hw : wide ≤ 5) (h : c.length ≤ 4294967295) : PFnReadLength.spec_Sealed.f 21 tag c wide = some (sSealed tag c wide) := by
  unfold PFnReadLength.spec_Sealed.f sSealed
  have hl := sLen_len c.length wide
  rw [sLen_eq c.length wide hw (by omega) (by omega)]
  simp only [Option.bind_some, List.length_cons, List.length_nil]
  rw [if_pos (by omega)]
  simp only [List.length_append, List.length_cons, List.length_nil]
  rw [if_pos (by omega)]
  simp
end Go.Proofs.YtacbdhklfgapkaaDoor
