/- laws.alive: the walk. -/
import Derived.Test.YtacbdhklfgapkaaDoorNameIFnReadInt
set_option linter.unusedVariables false
namespace Go.Proofs.YtacbdhklfgapkaaDoor
open Go.RowKit Go.Proofs.YtacbdhklfgapkaaDoorW.PrintWords Go.Proofs.YtacbdhklfgapkaaDoorW.PrintLast Go.Proofs.YtacbdhklfgapkaaDoorW.PrintMore

theorem alive_any (w : World) : Calls Tryd.prog 12 #[] w fun e w' => e = .returned (.bool true) ∧ Below w.heap.size w w' := by
  have h : sArcs (bs (ByteArray.mk #[46, 49, 46, 51, 46, 54])) = ([1, 3, 6], true) := by decide
  have HH := Lib.hid h
  clear h
  go_enter Tryd.func12, Tryd.ntmps12
  go_wp2_with fail
  refine (implName_any _ [1, 3, 6] (by decide) HH.out _).mono ?_
  rintro e w1 ⟨v, rfl, ho, hb⟩
  have hc := ho.string (P := Tryd.prog) Tryd.underlying23 Tryd.underlying5 Tryd.underlying9
  have hc' := (OwnB.drew ho).string (P := Tryd.prog) Tryd.underlying23 Tryd.underlying5 Tryd.underlying9
  have e1 : strOfNums (sName [1, 3, 6]) = ByteArray.mk #[43, 6] := by decide
  rw [e1] at hc hc'
  have HB := Lib.hid hb
  clear ho hb e1
  go_wp2
  go_ret
  exact ⟨rfl, HB.out⟩
end Go.Proofs.YtacbdhklfgapkaaDoor
