/- slices.Clone of bytes. -/
import Derived.Test.YtacbdhklfgapkaaDoorProg
import Derived.Test.YtacbdhklfgapkaaDoorLib
set_option linter.unusedVariables false
namespace Go.Proofs.YtacbdhklfgapkaaDoor
open Go.RowKit Go.Proofs.YtacbdhklfgapkaaDoorW.PrintWords Go.Proofs.YtacbdhklfgapkaaDoorW.PrintLast Go.Proofs.YtacbdhklfgapkaaDoorW.PrintMore

theorem infoB : (Tryd.prog.info? 5).map (fun i => (i.zero, i.size, i.bytes)) = some (some (.int .u8 0), 1, 1) := by kernel_rfl

theorem Clone_any (v : Value) (xs : List Int) (ok : Nat → Prop) (w : World) (h : ReadB w ok v xs) (hl : xs.length ≤ 140737488355328) :
    Calls Tryd.prog 30 #[v] w fun e w' => ∃ v', e = .returned v' ∧ OwnB w' w.heap.size v' xs ∧ Below w.heap.size w w' := by
  obtain ⟨A, c, rfl, hc, hC⟩ := h.reads
  have hn := fun w => Lib.run_eql_slice_nil (P := Tryd.prog) w 23 5 A xs.length c 0 0 Tryd.underlying23
  have hm := Kd.C_max hC
  have HC := Lib.hid hC
  clear hC h
  cases A with
  | none =>
    have h0 : xs = [] := by
      rcases Nat.eq_zero_or_pos xs.length with h | h
      · exact List.eq_nil_of_length_eq_zero h
      · obtain ⟨ad, e, _⟩ := Kd.at_int HC.out 0 (by omega) (by omega)
        cases e
    subst h0
    simp only [List.length_nil] at hn ⊢
    go_enter Tryd.func30, Tryd.ntmps30
    go_wp2
    go_ret
    exact ⟨_, rfl, Kd.R_nil _ _ _ _ _, Below.refl _ _⟩
  | some ad =>
    simp only [Option.isNone_some] at hn
    go_enter Tryd.func30, Tryd.ntmps30
    go_wp2_with (at_builtin; refine app_bytes rfl (.tmp 5) (.tmp 6) 23 rfl Tryd.underlying23 infoB w.heap.size (.slice (some ⟨w.heap.size, 0, none⟩) 0 0) [] xs (some ad) xs.length c rfl rfl (OwnB.lit w _ [] (Nat.le_refl _) (by simp) (by rfl)) (Kd.C_alloc HC.out _) (by simp) (by simpa using hl) ?_; intro v1 w1 ho hg hat)
    go_ret
    refine ⟨_, rfl, ho, ?_⟩
    exact ((Below.refl _ _).alloc (Nat.le_refl _) _).grown hg (by simp) (fun k hk => by simp [Value.ownBlock] at hk; omega)
end Go.Proofs.YtacbdhklfgapkaaDoor
