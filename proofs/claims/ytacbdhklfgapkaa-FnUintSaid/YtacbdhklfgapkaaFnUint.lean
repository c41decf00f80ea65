/-
FnUint: for every uint64 n, impl.Uint of n and impl.Uint32 of its low 32 bits answer the bytes that the reference answers. No condition.
-/
import Derived.Test.YtacbdhklfgapkaaRows
import Derived.ProofKit
import Derived.OpenShut
import Derived.Test.YtacbdhklfgapkaaUintMFnUint
import Derived.Test.YtacbdhklfgapkaaSUintFnUint
set_option linter.unusedVariables false
namespace Go.Proofs.Ytacbdhklfgapkaa.fnUint
open Go.ChangeShapes Go.WideShapes Go.ChangeAt Go.RowKit Go.Proofs.YtacbdhklfgapkaaW.PrintWords Go.Proofs.YtacbdhklfgapkaaW.PrintLast Go.Proofs.YtacbdhklfgapkaaW.PrintMore

theorem sUint_len (n : Int) : (sUint n).length ≤ 9 := by
  have := uBytes_len n
  unfold sUint
  split
  · simp only [List.length_cons]; omega
  · omega

theorem ZZUint64_any (n : Int) (w : World) (h0 : 0 ≤ n) (h1 : n ≤ 18446744073709551615) :
    Calls Try.prog 21 #[.int .u64 n] w fun e w' => GotV w w' (sUint n) e := by
  go_enter Try.func21, Try.ntmps21
  go_wp2_with fail
  refine (marshalUint64_any n h0 h1 _).mono ?_
  rintro e w' ⟨v, rfl, ho, hb⟩
  go_wp2
  go_ret2
  exact ⟨v, rfl, ho, hb⟩
theorem ZZUint32_any (n : Int) (w : World) (h0 : 0 ≤ n) (h1 : n ≤ 4294967295) :
    Calls Try.prog 22 #[.int .u32 n] w fun e w' => GotV w w' (sUint n) e := by
  go_enter Try.func22, Try.ntmps22
  go_wp2_with fail
  refine (marshalUint32_any n h0 h1 _ (Or.inl rfl) _).mono ?_
  rintro e w' ⟨v, rfl, ho, hb⟩
  go_wp2
  go_ret2
  exact ⟨v, rfl, ho, hb⟩
theorem implUint_any (n : Int) (w : World) (h0 : 0 ≤ n) (h1 : n ≤ 18446744073709551615) :
    Calls Try.prog 14 #[.int .u64 n] w fun e w' => GotT w w' (sUint n) e := by
  go_enter Try.func14, Try.ntmps14
  go_wp2_with fail
  refine (ZZUint64_any n _ h0 h1).mono ?_
  rintro e w1 ⟨v, rfl, ho, hb⟩
  go_wp2_with fail
  refine (Clone_any v (sUint n) _ _ ho (by have := sUint_len n; omega)).mono ?_
  rintro e w2 ⟨v2, rfl, ho2, hb2⟩
  go_wp2
  go_ret2
  exact ⟨_, rfl, Kd.R_lower ho2 hb.size, below_step hb hb2⟩
theorem implUint32_any (n : Int) (w : World) (h0 : 0 ≤ n) (h1 : n ≤ 4294967295) :
    Calls Try.prog 15 #[.int .u64 n] w fun e w' => GotT w w' (sUint n) e := by
  go_enter Try.func15, Try.ntmps15
  go_wp2_with fail
  refine (ZZUint32_any n _ h0 h1).mono ?_
  rintro e w1 ⟨v, rfl, ho, hb⟩
  go_wp2_with fail
  refine (Clone_any v (sUint n) _ _ ho (by have := sUint_len n; omega)).mono ?_
  rintro e w2 ⟨v2, rfl, ho2, hb2⟩
  go_wp2
  go_ret2
  exact ⟨_, rfl, Kd.R_lower ho2 hb.size, below_step hb hb2⟩

theorem low32 (n : Int) (h0 : 0 ≤ n) (h1 : n ≤ 18446744073709551615) : bits .and .u64 n 4294967295 = n % 4294967296 := by
  rw [u64_and _ _ h0 (by omega) (by omega) (by omega)]
  rw [show (4294967295 : Int).toNat = 2 ^ 32 - 1 from rfl, Nat.and_two_pow_sub_one_eq_mod]
  omega

set_option maxHeartbeats 2000000 in
theorem walk (a0 : Int) (h0 : 0 ≤ a0) (h1 : a0 ≤ 18446744073709551615) (w : World) :
    Calls Try.prog 6 #[.int .u64 a0] w fun e w' => e = .returned (.bool true) ∧ Below w.heap.size w w' := by
  have hc := low32 a0 h0 h1
  have b0 : 0 ≤ a0 % 4294967296 := by omega
  have b1 : a0 % 4294967296 ≤ 4294967295 := by omega
  generalize a0 % 4294967296 = m at *
  go_enter Try.func6, Try.ntmps6
  go_wp2_with fail
  refine (implUint_any a0 _ h0 h1).mono ?_
  rintro e w1 ⟨v1, rfl, ho1, hb1⟩
  go_wp2_with fail
  refine (implUint32_any m _ b0 b1).mono ?_
  rintro e w2 ⟨v2, rfl, ho2, hb2⟩
  go_wp2
  have hq1 := Lib.hid (OwnB.drew (OwnB.below ho1 hb2))
  have hq2 := Lib.hid (OwnB.drew ho2)
  have hbb := below_drew (below_step hb1 hb2)
  clear ho1 ho2 hb1 hb2
  have hc1 := hq1.out.string (P := Try.prog) Try.underlying22 Try.underlying5 Try.underlying9
  have hc2 := hq2.out.string (P := Try.prog) Try.underlying22 Try.underlying5 Try.underlying9
  have hs1 := Lib.hid (sUint_eq a0 h0 h1)
  have hs2 := Lib.hid (sUint_eq m b0 (by omega))
  have HB := Lib.hid hbb
  clear hbb h0 h1 b0 b1
  go_region_held (fun _ => True) (exact trivial) (first | (go_at_call_of 16 (Value.int IntKind.u64 a0); refine (PFnUint.spec_Uint.calls 10 _ _ _ hs1.out).mono ?_; rintro e w4 ⟨v4, rfl, ho4, hb4⟩; have hc3 := (OwnB.below hq1.out hb4).string (P := Try.prog) Try.underlying22 Try.underlying5 Try.underlying9; have hq3 := Lib.hid (OwnB.below hq2.out hb4); have hc4 := hq3.out.string (P := Try.prog) Try.underlying22 Try.underlying5 Try.underlying9; have hc5 := OwnB.string ho4 (P := Try.prog) Try.underlying22 Try.underlying5 Try.underlying9; have HB4 := Lib.hid (below_step HB.out hb4); clear ho4 hb4) | (go_at_call_of 16 (Value.int IntKind.u64 m); refine (PFnUint.spec_Uint.calls 10 _ _ _ hs2.out).mono ?_; rintro e w5 ⟨v5, rfl, ho5, hb5⟩; have hc6 := (OwnB.below hq3.out hb5).string (P := Try.prog) Try.underlying22 Try.underlying5 Try.underlying9; have hc7 := OwnB.string ho5 (P := Try.prog) Try.underlying22 Try.underlying5 Try.underlying9; have HB5 := Lib.hid (below_step HB4.out hb5); clear ho5 hb5))
  all_goals
    go_wp2
    go_ret
    exact ⟨rfl, HB5.out⟩

theorem own : ownKnob Try.prog.godebug = none := by kernel_rfl
set_option maxRecDepth 100000 in
theorem lifted (os : Os) (started : os.Started) (H : Type) (enc : TypeId × Value → H) :
    ReturnsInHanded {} Try.checked os 6 .any (Rows.fnUintSpec.pre6 enc Try.prog Try.f6 Rows.fnUintRow.domain false) (Rows.fnUintSpec.post enc Try.prog Try.f6 false true false false) := by
  refine returnsInHanded_of_change (C := Try.checked) own started (by kernel_rfl) Try.func6
    (ChangeSpec.witness6 (enc := enc) (C := Try.checked) false ⟨#[], #[.int .u64 0], []⟩ 8 (by kernel_rfl) (by kernel_rfl) (by kernel_rfl) (by kernel_rfl)) ?_
  intro W base args ds gs before hval0 hW hcnd _
  have hval : ∀ (j : Nat) t v, Try.f6.params[j]? = some t → args[j]? = some v → Value.okWide Try.prog W .any base t v := hval0
  have hW' := hW
  obtain ⟨p, q, hA0, hV, rfl, hfz, hnd⟩ := hW
  have hA : DataW.TrodAll enc Try.prog W 0 (fun _ => true) true Try.f6.params.toList args.toList ds p := hA0
  rw [Try.params6] at hA hval
  obtain ⟨v0, vs0, d0, ds0, p0, q0, hargs, rfl, rfl, h0, r0⟩ := trodAll_cons hA
  obtain ⟨rfl, rfl, rfl⟩ := trodAll_nil r0
  obtain rfl : args = #[v0] := by cases args; simp_all
  obtain ⟨rfl, rfl⟩ := trodVars_none hV
  obtain ⟨a0, rfl, rfl, rfl, w0⟩ := open_int Try.underlying37 (hval 0 37 v0 rfl rfl) h0
  clear hA0 hval0
  simp only [List.append_nil] at hW'
  have bd0 := bounds_u64 w0
  refine (walk a0 (by omega) (by omega) W).mono fun e W' ⟨he, bel⟩ => ?_
  subst he
  exact ⟨_, rfl, _, _, _, [], _, [], hW', trodAll_mk1 (shut_bool Try.underlying4 _), (trodAll_cons_mk (shut_int Try.underlying37 w0) trodAll_mk0), rfl, bel.frame _, fun h => by cases h⟩
theorem over : Rows.fnUintRow.holds Try.pinned (OpenSpec.ofChange Rows.fnUintSpec) :=
  OpenClaim.holds_of_wide 6 Try.f6 rfl rfl rfl rfl rfl rfl rfl ⟨rfl, rfl, rfl, rfl, rfl⟩ rfl rfl rfl rfl rfl (by kernel_rfl) Try.func6 (by kernel_rfl)
    (of_decide_eq_true (by kernel_rfl)) (by unfold Func.isWrapper; first | (rw [if_pos (by decide +kernel)]; kernel_rfl) | (rw [if_neg (by decide +kernel)]; exact ⟨rfl, rfl⟩))
    (fun os started H enc _ => lifted os started H enc)
theorem proved : Rows.FnUintSaid := over
#print axioms proved
end Go.Proofs.Ytacbdhklfgapkaa.fnUint
