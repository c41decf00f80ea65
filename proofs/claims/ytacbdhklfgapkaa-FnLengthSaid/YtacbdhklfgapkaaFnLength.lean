/-
FnLength: for every uint32 n, impl.Length of n without its highest bit answers the length's bytes that the reference answers. No condition.
-/
import Derived.Test.YtacbdhklfgapkaaRows
import Derived.ProofKit
import Derived.OpenShut
import Derived.Test.YtacbdhklfgapkaaSLenFnLength
import Derived.Test.YtacbdhklfgapkaaLen
set_option linter.unusedVariables false
namespace Go.Proofs.Ytacbdhklfgapkaa.fnLength
open Go.ChangeShapes Go.WideShapes Go.ChangeAt Go.RowKit Go.Proofs.YtacbdhklfgapkaaW.PrintWords Go.Proofs.YtacbdhklfgapkaaW.PrintLast Go.Proofs.YtacbdhklfgapkaaW.PrintMore

theorem ZZLength_any (n : Int) (w : World) (h0 : 0 ≤ n) (h1 : n ≤ 4294967295) :
    Calls Try.prog 18 #[.int .i64 n] w fun e w' => GotE w w' (mLen n) e := by
  go_enter Try.func18, Try.ntmps18
  go_wp2_with fail
  refine (marshalLength_any n _ h0 h1).mono ?_
  rintro e w' ⟨v, rfl, ho, hb⟩
  go_wp2
  go_ret2
  exact ⟨v, rfl, ho, hb⟩

theorem implLength_any (n : Int) (w : World) (h0 : 0 ≤ n) (h1 : n ≤ 4294967295) :
    Calls Try.prog 9 #[.int .i64 n] w fun e w' => GotT w w' (mLen n) e := by
  go_enter Try.func9, Try.ntmps9
  go_wp2_with fail
  refine (ZZLength_any n _ h0 h1).mono ?_
  rintro e w' ⟨v, rfl, ho, hb⟩
  go_wp2
  go_quiet (fail)
  go_wp2
  go_ret2
  exact ⟨v, rfl, Kd.R_drewN ho _, pw_below_drewN hb _⟩

theorem mLen_sLen (n : Int) (h0 : 0 ≤ n) (h1 : n ≤ 4294967295) : mLen n = sLen n 0 := by
  unfold mLen sLen lenBytes
  by_cases c0 : n ≤ 127
  · rw [if_pos c0, if_pos (by omega)]
  have e1 : ¬ (n < 128 ∧ 0 = 0) := by omega
  have e2 : ¬ n ≤ 0 := by omega
  rw [if_neg e1]
  simp only [if_neg c0, if_neg e2]
  by_cases c1 : n ≤ 255
  · simp only [if_pos c1]; rfl
  simp only [if_neg c1]
  by_cases c2 : n ≤ 65535
  · simp only [if_pos c2]; rfl
  simp only [if_neg c2]
  by_cases c3 : n ≤ 16777215
  · simp only [if_pos c3]; rfl
  simp only [if_neg c3]; rfl

theorem clear31 (n : Int) (h0 : 0 ≤ n) (h1 : n ≤ 4294967295) : bits .andNot .u32 n 2147483648 = n % 2147483648 := by
  rw [u32_andNot _ _ h0 (by omega) (by omega) (by omega)]
  rw [show 4294967295 - (2147483648 : Int).toNat = 2 ^ 31 - 1 from rfl, Nat.and_two_pow_sub_one_eq_mod]
  omega

set_option maxHeartbeats 1000000 in
theorem walk (a0 : Int) (h0 : 0 ≤ a0) (h1 : a0 ≤ 4294967295) (w : World) :
    Calls Try.prog 4 #[.int .u32 a0] w fun e w' => e = .returned (.bool true) ∧ Below w.heap.size w w' := by
  have hc := clear31 a0 h0 h1
  go_enter Try.func4, Try.ntmps4
  go_wp2_with fail
  have b0 : 0 ≤ a0 % 2147483648 := by omega
  have b1 : a0 % 2147483648 ≤ 2147483647 := by omega
  clear hc
  generalize a0 % 2147483648 = m at *
  refine (implLength_any m _ b0 (by omega)).mono ?_
  rintro e w1 ⟨v, rfl, ho, hb⟩
  go_wp2
  have hc1 := (OwnB.drew ho).string (P := Try.prog) Try.underlying22 Try.underlying5 Try.underlying9
  have hs := sLen_eq m 0 (by omega) b0 (by omega)
  rw [← mLen_sLen m b0 (by omega)] at hs
  go_region_with (first | (go_at_call 10; refine (PFnLength.spec_Length.calls 21 _ _ _ _ hs).mono ?_; rintro e w2 ⟨v2, rfl, ho2, hb2⟩; have hc2 := (OwnB.below (OwnB.drew ho) hb2).string (P := Try.prog) Try.underlying22 Try.underlying5 Try.underlying9; have hc3 := OwnB.string ho2 (P := Try.prog) Try.underlying22 Try.underlying5 Try.underlying9))
  all_goals
    go_wp2
    go_ret
    exact ⟨rfl, below_step (below_drew hb) hb2⟩

theorem own : ownKnob Try.prog.godebug = none := by kernel_rfl
set_option maxRecDepth 100000 in
theorem lifted (os : Os) (started : os.Started) (H : Type) (enc : TypeId × Value → H) :
    ReturnsInHanded {} Try.checked os 4 .any (Rows.fnLengthSpec.pre6 enc Try.prog Try.f4 Rows.fnLengthRow.domain false) (Rows.fnLengthSpec.post enc Try.prog Try.f4 false true false false) := by
  refine returnsInHanded_of_change (C := Try.checked) own started (by kernel_rfl) Try.func4
    (ChangeSpec.witness6 (enc := enc) (C := Try.checked) false ⟨#[], #[.int .u32 0], []⟩ 8 (by kernel_rfl) (by kernel_rfl) (by kernel_rfl) (by kernel_rfl)) ?_
  intro W base args ds gs before hval0 hW hcnd _
  have hval : ∀ (j : Nat) t v, Try.f4.params[j]? = some t → args[j]? = some v → Value.okWide Try.prog W .any base t v := hval0
  have hW' := hW
  obtain ⟨p, q, hA0, hV, rfl, hfz, hnd⟩ := hW
  have hA : DataW.TrodAll enc Try.prog W 0 (fun _ => true) true Try.f4.params.toList args.toList ds p := hA0
  rw [Try.params4] at hA hval
  obtain ⟨v0, vs0, d0, ds0, p0, q0, hargs, rfl, rfl, h0, r0⟩ := trodAll_cons hA
  obtain ⟨rfl, rfl, rfl⟩ := trodAll_nil r0
  obtain rfl : args = #[v0] := by cases args; simp_all
  obtain ⟨rfl, rfl⟩ := trodVars_none hV
  obtain ⟨a0, rfl, rfl, rfl, w0⟩ := open_int Try.underlying27 (hval 0 27 v0 rfl rfl) h0
  clear hA0 hval0
  simp only [List.append_nil] at hW'
  have bd0 := bounds_u32 w0
  refine (walk a0 (by omega) (by omega) W).mono fun e W' ⟨he, bel⟩ => ?_
  subst he
  exact ⟨_, rfl, _, _, _, [], _, [], hW', trodAll_mk1 (shut_bool Try.underlying4 _), (trodAll_cons_mk (shut_int Try.underlying27 w0) trodAll_mk0), rfl, bel.frame _, fun h => by cases h⟩
theorem over : Rows.fnLengthRow.holds Try.pinned (OpenSpec.ofChange Rows.fnLengthSpec) :=
  OpenClaim.holds_of_wide 4 Try.f4 rfl rfl rfl rfl rfl rfl rfl ⟨rfl, rfl, rfl, rfl, rfl⟩ rfl rfl rfl rfl rfl (by kernel_rfl) Try.func4 (by kernel_rfl)
    (of_decide_eq_true (by kernel_rfl)) (by unfold Func.isWrapper; first | (rw [if_pos (by decide +kernel)]; kernel_rfl) | (rw [if_neg (by decide +kernel)]; exact ⟨rfl, rfl⟩))
    (fun os started H enc _ => lifted os started H enc)
theorem proved : Rows.FnLengthSaid := over
#print axioms proved
end Go.Proofs.Ytacbdhklfgapkaa.fnLength
