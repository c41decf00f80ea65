/-
FnName: for every string s, impl.Name of s, a name in dotted figures by the reference, answers the content that the reference answers. No condition.
-/
import Derived.Test.YtacbdhklfgapkaaRows
import Derived.ProofKit
import Derived.OpenShut
import Derived.ShutString
import Derived.Test.YtacbdhklfgapkaaNameIFnName
import Derived.Test.YtacbdhklfgapkaaWArcs
set_option linter.unusedVariables false
namespace Go.Proofs.Ytacbdhklfgapkaa.fnName
open Go.ChangeShapes Go.WideShapes Go.ChangeAt Go.RowKit Go.Proofs.YtacbdhklfgapkaaW.PrintWords Go.Proofs.YtacbdhklfgapkaaW.PrintLast Go.Proofs.YtacbdhklfgapkaaW.PrintMore
open Go.ChangeMaps (open_string shut_string)

set_option maxHeartbeats 2000000 in
theorem walk (a0 : ByteArray) (w0 : a0.size ≤ maxLen) (w : World) :
    Calls Try.prog 5 #[.string a0] w fun e w' => e = .returned (.bool true) ∧ Below w.heap.size w w' := by
  by_cases hz : (2147483647 : Int) < a0.size
  · go_enter Try.func5, Try.ntmps5
    go_wp2
    go_ret
    exact ⟨rfl, Below.refl _ _⟩
  · clear w0
    go_enter Try.func5, Try.ntmps5
    go_wp2_with fail
    refine (specArcs_any a0 (by omega) _).mono ?_
    rintro e w1 ⟨v, rfl, ho, hb⟩
    obtain ⟨A, c, rfl, hcc, hC⟩ := Kd.R_reads ho
    cases hok : (sArcs (bs a0)).2 with
    | false =>
      clear ho hC
      have HB := Lib.hid hb
      clear hb
      go_wp2
      go_ret
      exact ⟨rfl, HB.out⟩
    | true =>
      by_cases h600 : (600 : Int) < a0.size
      · clear ho hC
        have HB := Lib.hid hb
        clear hb
        go_wp2
        go_ret
        exact ⟨rfl, HB.out⟩
      · have hA : sArcs (bs a0) = ((sArcs (bs a0)).1, true) := by rw [← hok]
        have hbd := sArcs_bounds _ _ hA
        have hao := (sArcs_text _ _ hA).1
        generalize (sArcs (bs a0)).1 = arcs at *
        have H := Lib.hid (And.intro ho (And.intro hb (And.intro hA (And.intro hbd (And.intro hao hC)))))
        have hl2 : 2 ≤ arcs.length := hao.1
        have hl60 : arcs.length ≤ 60 := hao.2.1
        clear ho hb hA hbd hao hC
        go_wp2_with fail
        refine (implName_any a0 arcs (by omega) H.out.2.2.1 _).mono ?_
        rintro e w2 ⟨v2, rfl, ho2, hb2⟩
        have H2 := Lib.hid (And.intro (OwnB.drew ho2) (And.intro (below_drew (below_step H.out.2.1 hb2)) (below_drew hb2)))
        clear ho2 hb2
        go_wp2
        have hc1 := H2.out.1.string (P := Try.prog) Try.underlying22 Try.underlying5 Try.underlying9
        go_region_with (first | (go_at_call 13; refine (specName_any arcs hl2 hl60 H.out.2.2.2.1 A c hcc _ (Kd.C_below H.out.2.2.2.2.2 H2.out.2.2)).mono ?_; rintro e w3 ⟨v3, rfl, ho3, hb3⟩; have hc2 := (OwnB.below H2.out.1 hb3).string (P := Try.prog) Try.underlying22 Try.underlying5 Try.underlying9; have hc3 := OwnB.string ho3 (P := Try.prog) Try.underlying22 Try.underlying5 Try.underlying9; have H3 := Lib.hid (below_step H2.out.2.1 hb3); clear ho3 hb3))
        all_goals
          go_wp2
          go_ret
          exact ⟨rfl, H3.out⟩

theorem own : ownKnob Try.prog.godebug = none := by kernel_rfl
set_option maxRecDepth 100000 in
theorem lifted (os : Os) (started : os.Started) (H : Type) (enc : TypeId × Value → H) :
    ReturnsInHanded {} Try.checked os 5 .any (Rows.fnNameSpec.pre6 enc Try.prog Try.f5 Rows.fnNameRow.domain false) (Rows.fnNameSpec.post enc Try.prog Try.f5 false true false false) := by
  refine returnsInHanded_of_change (C := Try.checked) own started (by kernel_rfl) Try.func5
    (ChangeSpec.witness6 (enc := enc) (C := Try.checked) false ⟨#[], #[.string ByteArray.empty], []⟩ 8 (by kernel_rfl) (by kernel_rfl) (by kernel_rfl) (by kernel_rfl)) ?_
  intro W base args ds gs before hval0 hW hcnd _
  have hval : ∀ (j : Nat) t v, Try.f5.params[j]? = some t → args[j]? = some v → Value.okWide Try.prog W .any base t v := hval0
  have hW' := hW
  obtain ⟨p, q, hA0, hV, rfl, hfz, hnd⟩ := hW
  have hA : DataW.TrodAll enc Try.prog W 0 (fun _ => true) true Try.f5.params.toList args.toList ds p := hA0
  rw [Try.params5] at hA hval
  obtain ⟨v0, vs0, d0, ds0, p0, q0, hargs, rfl, rfl, h0, r0⟩ := trodAll_cons hA
  obtain ⟨rfl, rfl, rfl⟩ := trodAll_nil r0
  obtain rfl : args = #[v0] := by cases args; simp_all
  obtain ⟨rfl, rfl⟩ := trodVars_none hV
  obtain ⟨a0, rfl, rfl, rfl, w0⟩ := open_string Try.underlying9 (hval 0 9 v0 rfl rfl) h0
  clear hA0 hval0
  simp only [List.append_nil] at hW'
  refine (walk a0 w0 W).mono fun e W' ⟨he, bel⟩ => ?_
  subst he
  exact ⟨_, rfl, _, _, _, [], _, [], hW', trodAll_mk1 (shut_bool Try.underlying4 _), (trodAll_cons_mk (shut_string Try.underlying9 w0) trodAll_mk0), rfl, bel.frame _, fun h => by cases h⟩
theorem over : Rows.fnNameRow.holds Try.pinned (OpenSpec.ofChange Rows.fnNameSpec) :=
  OpenClaim.holds_of_wide 5 Try.f5 rfl rfl rfl rfl rfl rfl rfl ⟨rfl, rfl, rfl, rfl, rfl⟩ rfl rfl rfl rfl rfl (by kernel_rfl) Try.func5 (by kernel_rfl)
    (of_decide_eq_true (by kernel_rfl)) (by unfold Func.isWrapper; first | (rw [if_pos (by decide +kernel)]; kernel_rfl) | (rw [if_neg (by decide +kernel)]; exact ⟨rfl, rfl⟩))
    (fun os started H enc _ => lifted os started H enc)
theorem proved : Rows.FnNameSaid := over
#print axioms proved
end Go.Proofs.Ytacbdhklfgapkaa.fnName
