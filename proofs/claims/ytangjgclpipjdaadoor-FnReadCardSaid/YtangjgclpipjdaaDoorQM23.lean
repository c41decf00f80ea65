/- The lemmas and walks that FnDecode and FnCut and FnRead rests on, part 23: Same. -/
import Derived.Test.YtangjgclpipjdaaDoorQM10
set_option linter.unusedVariables false
namespace Go.Proofs.YtangjgclpipjdaaDoor
open Go.RowKit Go.Proofs.YtangjgclpipjdaaDoorW.PrintWords Go.Proofs.YtangjgclpipjdaaDoorW.PrintLast Go.Proofs.YtangjgclpipjdaaDoorW.PrintMore
set_option maxRecDepth 100000 in
set_option maxHeartbeats 4000000 in
theorem same_eq (m : MsgT) (A1 : Option Addr) (c1 : Nat) (A2 : Option Addr) (c2 : Nat) (vs : List VarT) (w : World) (h1 : Kd.C kVar w A1 vs.length vs) (h2 : Kd.C kVar w A2 vs.length vs) :
    Calls Tryd.prog 18 #[.agg (m.arr (.slice A1 vs.length c1)), .agg (m.arr (.slice A2 vs.length c2))] w fun e w' => e = .returned (.bool true) ∧ Below w.heap.size w w' := by
  have b2 := ((Below.refl w.heap.size w).alloc (Nat.le_refl _) (msgO m (.slice A1 vs.length c1))).alloc (by simp) (msgO m (.slice A2 vs.length c2))
  have e1 := blk_alloc (blk_new w (msgO m (.slice A1 vs.length c1))) (msgO m (.slice A2 vs.length c2))
  have e2 := blk_new (w.alloc (msgO m (.slice A1 vs.length c1))) (msgO m (.slice A2 vs.length c2))
  rw [show (w.alloc (msgO m (.slice A1 vs.length c1))).heap.size = w.heap.size + 1 by simp] at e2
  have HH := Lib.hid (And.intro b2 (And.intro (Kd.C_below h1 b2) (And.intro (Kd.C_below h2 b2) (And.intro e1 e2))))
  have hmx := Kd.C_max h1
  clear b2 h1 h2 e1 e2
  go_enter Tryd.func18, Tryd.ntmps18
  go_wp2_with fail
  go_loopg [5, 93] vs.length (fun k v5 v93 wr => ∃ j : Nat, v93 = .int .i64 j ∧ Hid (j ≤ vs.length ∧ k = vs.length - j ∧ Below w.heap.size w wr ∧ Kd.C kVar wr A1 vs.length vs ∧ Kd.C kVar wr A2 vs.length vs ∧ wr.heap[w.heap.size]? = some (msgO m (.slice A1 vs.length c1)) ∧ wr.heap[w.heap.size + 1]? = some (msgO m (.slice A2 vs.length c2))))
  case atStart => exact ⟨0, rfl, Lib.hid ⟨Nat.zero_le _, rfl, HH.out.1, HH.out.2.1, HH.out.2.2.1, HH.out.2.2.2.1, HH.out.2.2.2.2⟩⟩
  case round =>
    obtain ⟨j, rfl, HJ⟩ := hrel
    obtain ⟨hj, hk, hbw, hC1, hC2, hm1, hm2⟩ := HJ.out
    clear HJ HH
    have HK := Lib.hid (And.intro hk (And.intro hbw (And.intro hC1 (And.intro hC2 (And.intro hm1 hm2)))))
    by_cases hjl : j < vs.length
    · obtain ⟨ad1, rfl, q0, q1, q2, q3, q4⟩ := var_at hC1 j hjl
      obtain ⟨ad2, rfl, s0, s1, s2, s3, s4⟩ := var_at hC2 j hjl
      have m6 : wr.cell? ⟨w.heap.size, 6, none⟩ = some (.slice (some ad1) vs.length c1) := (blk_cell hm1 6).trans rfl
      have n6 : wr.cell? ⟨w.heap.size + 1, 6, none⟩ = some (.slice (some ad2) vs.length c2) := (blk_cell hm2 6).trans rfl
      clear hk hbw hC1 hC2 hm1 hm2
      generalize vs[j] = vj at *
      go_wp2_with fail
      go_quiet (fail)
      go_wp2
      go_roundg (vs.length - (j + 1))
      case measure =>
        have := HK.out.1
        omega
      case rel => exact ⟨j + 1, by go_num, Lib.hid ⟨by omega, rfl, pw_below_drewN HK.out.2.1 _, HK.out.2.2⟩⟩
    · obtain rfl : j = vs.length := by omega
      clear hk hbw hC1 hC2 hm1 hm2
      go_wp2
      go_ret
      exact ⟨rfl, HK.out.2.1⟩
end Go.Proofs.YtangjgclpipjdaaDoor
