/- ZZName, impl.Name: the walks. -/
import Derived.Test.YtacbdhklfgapkaaDoorOidWFnReadInt
set_option linter.unusedVariables false
namespace Go.Proofs.YtacbdhklfgapkaaDoor
open Go.RowKit Go.Proofs.YtacbdhklfgapkaaDoorW.PrintWords Go.Proofs.YtacbdhklfgapkaaDoorW.PrintLast Go.Proofs.YtacbdhklfgapkaaDoorW.PrintMore

theorem ZZName_any (s : ByteArray) (arcs : List Int) (hs : s.size ≤ 600) (h : sArcs (bs s) = (arcs, true)) (w : World) :
    Calls Tryd.prog 29 #[.string s] w fun e w' => GotE w w' (sName arcs) e := by
  have H := Lib.hid h
  clear h
  go_enter Tryd.func29, Tryd.ntmps29
  go_wp2_with fail
  refine (marshalOid_any s arcs hs H.out _).mono ?_
  rintro e w' ⟨v, rfl, ho, hb⟩
  go_wp2
  go_ret2
  exact ⟨v, rfl, ho, hb⟩
theorem implName_any (s : ByteArray) (arcs : List Int) (hs : s.size ≤ 600) (h : sArcs (bs s) = (arcs, true)) (w : World) :
    Calls Tryd.prog 23 #[.string s] w fun e w' => GotT w w' (sName arcs) e := by
  have hl : (sName arcs).length ≤ 100 := (sArcs_text _ _ h).2.1
  have H := Lib.hid h
  clear h
  go_enter Tryd.func23, Tryd.ntmps23
  go_wp2_with fail
  refine (ZZName_any s arcs hs H.out _).mono ?_
  rintro e w1 ⟨v, rfl, ho, hb⟩
  go_wp2_with fail
  refine (Clone_any v (sName arcs) _ _ (OwnB.new ho) (by omega)).mono ?_
  rintro e w2 ⟨v2, rfl, ho2, hb2⟩
  go_wp2
  go_ret2
  exact ⟨_, rfl, Kd.R_lower ho2 hb.size, below_step hb hb2⟩
end Go.Proofs.YtacbdhklfgapkaaDoor
