/-
FnInt: for every int32 n, impl.Int answers the bytes of n that the reference answers. No condition.
-/
import Derived.Test.YtacbdhklfgapkaaRows
import Derived.ProofKit
import Derived.OpenShut
import Derived.Test.YtacbdhklfgapkaaFnIntA
set_option linter.unusedVariables false
namespace Go.Proofs.Ytacbdhklfgapkaa.fnInt
open Go.ChangeShapes Go.WideShapes Go.ChangeAt Go.RowKit Go.Proofs.YtacbdhklfgapkaaW.PrintWords Go.Proofs.YtacbdhklfgapkaaW.PrintLast Go.Proofs.YtacbdhklfgapkaaW.PrintMore

set_option maxHeartbeats 1000000 in
theorem walk (a0 : Int) (h0 : -2147483648 ≤ a0) (h1 : a0 ≤ 2147483647) (w : World) :
    Calls Try.prog 3 #[.int .i32 a0] w fun e w' => e = .returned (.bool true) ∧ Below w.heap.size w w' := by
  go_enter Try.func3, Try.ntmps3
  go_wp2_with fail
  refine (implInt_any a0 _ h0 h1).mono ?_
  rintro e w1 ⟨v, rfl, ho, hb⟩
  go_wp2
  have hc1 := (OwnB.drew ho).string (P := Try.prog) Try.underlying22 Try.underlying5 Try.underlying9
  have hw64 : IntKind.i64.wrap a0 = a0 := by rw [IntKind.wrap_i64]; omega
  go_region_with (first | (go_at_call 8; refine (PFnInt.spec_Int.calls 10 _ _ _ (sInt_eq a0 h0 h1)).mono ?_; rintro e w2 ⟨v2, rfl, ho2, hb2⟩; have hc2 := (OwnB.below (OwnB.drew ho) hb2).string (P := Try.prog) Try.underlying22 Try.underlying5 Try.underlying9; have hc3 := OwnB.string ho2 (P := Try.prog) Try.underlying22 Try.underlying5 Try.underlying9))
  all_goals
    go_wp2
    go_ret
    exact ⟨rfl, below_step (below_drew hb) hb2⟩

theorem own : ownKnob Try.prog.godebug = none := by kernel_rfl
set_option maxRecDepth 100000 in
theorem lifted (os : Os) (started : os.Started) (H : Type) (enc : TypeId × Value → H) :
    ReturnsInHanded {} Try.checked os 3 .any (Rows.fnIntSpec.pre6 enc Try.prog Try.f3 Rows.fnIntRow.domain false) (Rows.fnIntSpec.post enc Try.prog Try.f3 false true false false) := by
  refine returnsInHanded_of_change (C := Try.checked) own started (by kernel_rfl) Try.func3
    (ChangeSpec.witness6 (enc := enc) (C := Try.checked) false ⟨#[], #[.int .i32 0], []⟩ 8 (by kernel_rfl) (by kernel_rfl) (by kernel_rfl) (by kernel_rfl)) ?_
  intro W base args ds gs before hval0 hW hcnd _
  have hval : ∀ (j : Nat) t v, Try.f3.params[j]? = some t → args[j]? = some v → Value.okWide Try.prog W .any base t v := hval0
  have hW' := hW
  obtain ⟨p, q, hA0, hV, rfl, hfz, hnd⟩ := hW
  have hA : DataW.TrodAll enc Try.prog W 0 (fun _ => true) true Try.f3.params.toList args.toList ds p := hA0
  rw [Try.params3] at hA hval
  obtain ⟨v0, vs0, d0, ds0, p0, q0, hargs, rfl, rfl, h0, r0⟩ := trodAll_cons hA
  obtain ⟨rfl, rfl, rfl⟩ := trodAll_nil r0
  obtain rfl : args = #[v0] := by cases args; simp_all
  obtain ⟨rfl, rfl⟩ := trodVars_none hV
  obtain ⟨a0, rfl, rfl, rfl, w0⟩ := open_int Try.underlying21 (hval 0 21 v0 rfl rfl) h0
  clear hA0 hval0
  simp only [List.append_nil] at hW'
  have bd := bounds_i32 w0
  refine (walk a0 (by omega) (by omega) W).mono fun e W' ⟨he, bel⟩ => ?_
  subst he
  exact ⟨_, rfl, _, _, _, [], _, [], hW', trodAll_mk1 (shut_bool Try.underlying4 _), (trodAll_cons_mk (shut_int Try.underlying21 w0) trodAll_mk0), rfl, bel.frame _, fun h => by cases h⟩

theorem over : Rows.fnIntRow.holds Try.pinned (OpenSpec.ofChange Rows.fnIntSpec) :=
  OpenClaim.holds_of_wide 3 Try.f3 rfl rfl rfl rfl rfl rfl rfl ⟨rfl, rfl, rfl, rfl, rfl⟩ rfl rfl rfl rfl rfl (by kernel_rfl) Try.func3 (by kernel_rfl)
    (of_decide_eq_true (by kernel_rfl)) (by unfold Func.isWrapper; first | (rw [if_pos (by decide +kernel)]; kernel_rfl) | (rw [if_neg (by decide +kernel)]; exact ⟨rfl, rfl⟩))
    (fun os started H enc _ => lifted os started H enc)

theorem proved : Rows.FnIntSaid := over
#print axioms proved
end Go.Proofs.Ytacbdhklfgapkaa.fnInt
