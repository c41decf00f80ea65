/- The lemmas and walks that FnDecode and FnCut and FnRead rests on, part 24: Told2. -/
import Derived.Test.YtangjgclpipjdaaDoorQM10
set_option linter.unusedVariables false
namespace Go.Proofs.YtangjgclpipjdaaDoor
open Go.RowKit Go.Proofs.YtangjgclpipjdaaDoorW.PrintWords Go.Proofs.YtangjgclpipjdaaDoorW.PrintLast Go.Proofs.YtangjgclpipjdaaDoorW.PrintMore
set_option maxRecDepth 100000 in
set_option maxHeartbeats 8000000 in
theorem told2_no (m : MsgT) (A : Option Addr) (c : Nat) (vs : List VarT) (i0 : 0 ≤ m.id) (w : World) (hno : ¬ MsgOk m vs.length) :
    Calls Tryd.prog 15 #[.agg (m.arr (.slice A vs.length c))] w fun e w' => Below w.heap.size w w' ∧ e = .returned (.tuple #[.agg (zeroM.arr (.slice none 0 0)), .bool false]) := by
  by_cases v0 : m.ver < 0
  · clear hno
    go_enter Tryd.func15, Tryd.ntmps15
    go_wp2
    all_goals exact msg_no rfl rfl rfl rfl
  by_cases v1 : 1 < m.ver
  · clear hno
    go_enter Tryd.func15, Tryd.ntmps15
    go_wp2
    all_goals exact msg_no rfl rfl rfl rfl
  by_cases com : (127 : Int) < m.com.size
  · clear hno
    go_enter Tryd.func15, Tryd.ntmps15
    go_wp2
    all_goals exact msg_no rfl rfl rfl rfl
  by_cases k0 : m.kind < 160
  · clear hno
    go_enter Tryd.func15, Tryd.ntmps15
    go_wp2
    all_goals exact msg_no rfl rfl rfl rfl
  by_cases k1 : 168 < m.kind
  · clear hno
    go_enter Tryd.func15, Tryd.ntmps15
    go_wp2
    all_goals exact msg_no rfl rfl rfl rfl
  by_cases k4 : m.kind = 164
  · clear hno
    go_enter Tryd.func15, Tryd.ntmps15
    go_wp2
    all_goals exact msg_no rfl rfl rfl rfl
  have k4' : (m.kind == 164) = false := beq_eq_false_iff_ne.2 k4
  by_cases s0 : m.st < 0
  · clear hno
    go_enter Tryd.func15, Tryd.ntmps15
    go_wp2
    all_goals exact msg_no rfl rfl rfl rfl
  by_cases s1 : 127 < m.st
  · clear hno
    go_enter Tryd.func15, Tryd.ntmps15
    go_wp2
    all_goals exact msg_no rfl rfl rfl rfl
  by_cases x0 : m.ix < 0
  · clear hno
    go_enter Tryd.func15, Tryd.ntmps15
    go_wp2
    all_goals exact msg_no rfl rfl rfl rfl
  by_cases x1 : 127 < m.ix
  · clear hno
    go_enter Tryd.func15, Tryd.ntmps15
    go_wp2
    all_goals exact msg_no rfl rfl rfl rfl
  by_cases n20 : (20 : Int) < vs.length
  · clear hno
    go_enter Tryd.func15, Tryd.ntmps15
    go_wp2
    all_goals exact msg_no rfl rfl rfl rfl
  by_cases i1 : 2147483648 ≤ m.id
  · clear hno
    go_enter Tryd.func15, Tryd.ntmps15
    go_wp2
    all_goals exact msg_no rfl rfl rfl rfl
  by_cases ent : ¬ m.ent.toList = []
  · clear hno
    go_enter Tryd.func15, Tryd.ntmps15
    go_wp2
    all_goals exact msg_no rfl rfl rfl rfl
  by_cases ag : ¬ m.ag.toList = []
  · clear hno
    go_enter Tryd.func15, Tryd.ntmps15
    go_wp2
    all_goals exact msg_no rfl rfl rfl rfl
  by_cases gen : m.gen = 0
  case neg =>
    have genb : (m.gen != 0) = true := by simpa using gen
    clear hno
    go_enter Tryd.func15, Tryd.ntmps15
    go_wp2
    all_goals exact msg_no rfl rfl rfl rfl
  by_cases spc : m.spc = 0
  case neg =>
    have spcb : (m.spc != 0) = true := by simpa using spc
    clear hno
    go_enter Tryd.func15, Tryd.ntmps15
    go_wp2
    all_goals exact msg_no rfl rfl rfl rfl
  by_cases tm : m.tm = 0
  case neg =>
    have tmb : (m.tm != 0) = true := by simpa using tm
    clear hno
    go_enter Tryd.func15, Tryd.ntmps15
    go_wp2
    all_goals exact msg_no rfl rfl rfl rfl
  exact absurd (MsgOk.mk (by omega) (by omega) (by omega) (by omega) (by omega) k4 (by omega) (by omega) (by omega) (by omega) (by omega) (by omega) (toList_nil (Classical.not_not.1 ent)) (toList_nil (Classical.not_not.1 ag)) gen spc tm) hno
end Go.Proofs.YtangjgclpipjdaaDoor
