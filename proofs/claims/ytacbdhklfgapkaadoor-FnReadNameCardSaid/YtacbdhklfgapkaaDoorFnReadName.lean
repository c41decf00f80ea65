/-
FnReadName: the content of a name in dotted figures is read by impl.ReadName as that name with a point ahead.
-/
import Derived.Test.YtacbdhklfgapkaaDoorRows
import Derived.Test.YtacbdhklfgapkaaDoorTie
import Derived.Test.YtacbdhklfgapkaaDoorCards
import Derived.ProofKit
import Derived.OpenShut
import Derived.ShutString
import Derived.LaidMore
import Derived.LaidSub
import Derived.Lib.LaidTab
import Derived.OpenVars
import Derived.ChangeVars
import Derived.Stop.Joined
import Derived.SevenTiedAt
import Derived.Test.YtacbdhklfgapkaaDoorVars
import Derived.Test.YtacbdhklfgapkaaDoorWArcs
import Derived.Test.YtacbdhklfgapkaaDoorWDot
import Derived.Test.YtacbdhklfgapkaaDoorReadNm
set_option linter.unusedVariables false
namespace Go.Proofs.YtacbdhklfgapkaaDoor.fnReadName
open Go.ChangeShapes Go.WideShapes Go.ChangeAt Go.RowKit Go.Proofs.YtacbdhklfgapkaaDoorW.PrintWords Go.Proofs.YtacbdhklfgapkaaDoorW.PrintLast Go.Proofs.YtacbdhklfgapkaaDoorW.PrintMore
open Go.ChangeMaps (open_string shut_string)

theorem own : ownKnob Tryd.prog.godebug = none := by kernel_rfl
theorem laidOut : laidOutB Tryd.prog = true := by kernel_rfl
abbrev laidU : List (String × DataW Unit) := [("math/bits.deBruijn32tab", Rows.laid_math_bits_deBruijn32tab), ("math/bits.deBruijn64tab", Rows.laid_math_bits_deBruijn64tab), ("internal/strconv.uint64pow10", Rows.laid_internal_strconv_uint64pow10), ("loop.example/pub-g03261/pub/snmp.ErrBase128IntegerTooLarge", Rows.laid_loop_example_pub_g03261_pub_snmp_ErrBase128IntegerTooLarge), ("loop.example/pub-g03261/pub/snmp.ErrBase128IntegerTruncated", Rows.laid_loop_example_pub_g03261_pub_snmp_ErrBase128IntegerTruncated)]
theorem pow_of {W : World} (h : laidMetH Tryd.prog laidU W) : PowTab W := by
  have h2 := laidMetH.filter (fun x => x.1 == "internal/strconv.uint64pow10") h
  have e : laidU.filter (fun x => x.1 == "internal/strconv.uint64pow10") = [("internal/strconv.uint64pow10", Lib.tabData .u64 Lib.pow10Tab)] := by rfl
  rw [e] at h2
  exact Lib.tabIs_of_head (g := 5) (by kernel_rfl) (by kernel_rfl) Tryd.underlying79 Tryd.underlying28 (by kernel_rfl) (by kernel_rfl) h2

set_option maxRecDepth 100000 in
set_option maxHeartbeats 2000000 in
theorem walk (a0 : ByteArray) (w0 : a0.size ≤ maxLen) (w : World) (hL : laidMetH Tryd.prog laidU w) :
    Calls Tryd.prog 6 #[.string a0] w fun e w' => e = .returned (.bool true) ∧ Below w.heap.size w w' := by
  have ht := Lib.hid (pow_of hL)
  clear hL
  by_cases hz : (2147483647 : Int) < a0.size
  · go_enter Tryd.func6, Tryd.ntmps6
    go_wp2
    go_ret
    exact ⟨rfl, Below.refl _ _⟩
  · clear w0
    go_enter Tryd.func6, Tryd.ntmps6
    go_wp2_with fail
    refine (specArcs_any a0 (by omega) _).mono ?_
    rintro e w1 ⟨v, rfl, ho, hb⟩
    obtain ⟨A, c, rfl, hcc, hC⟩ := Kd.R_reads ho
    cases hok : (sArcs (bs a0)).2 with
    | false =>
      clear ho hC
      have HB := Lib.hid hb
      clear hb
      go_wp2
      go_ret
      exact ⟨rfl, HB.out⟩
    | true =>
      by_cases h600 : (600 : Int) < a0.size
      · clear ho hC
        have HB := Lib.hid hb
        clear hb
        go_wp2
        go_ret
        exact ⟨rfl, HB.out⟩
      · have hA : sArcs (bs a0) = ((sArcs (bs a0)).1, true) := by rw [← hok]
        have hbd := sArcs_bounds _ _ hA
        have hao := (sArcs_text _ _ hA).1
        generalize (sArcs (bs a0)).1 = arcs at *
        obtain ⟨x, y, l, rfl⟩ : ∃ x y l, arcs = x :: y :: l := by
          rcases arcs with _ | ⟨x, _ | ⟨y, l⟩⟩
          · have := hao.1; simp at this
          · have := hao.1; simp at this
          · exact ⟨x, y, l, rfl⟩
        have x0 := (hbd x (by simp)).1
        have y0 := (hbd y (by simp)).1
        have x2 : x ≤ 2 := hao.2.2.1
        have y2 : y < 40 := hao.2.2.2
        have hll : l.length ≤ 58 := by have := hao.2.1; simp at this; omega
        obtain ⟨arcs, harc⟩ : ∃ arcs, arcs = x :: y :: l := ⟨_, rfl⟩
        rw [← harc] at ho hC hbd hao hcc ⊢
        have H := Lib.hid (And.intro ho (And.intro hb (And.intro hbd (And.intro hao (And.intro hC harc)))))
        have hl2 : 2 ≤ arcs.length := hao.1
        have hl60 : arcs.length ≤ 60 := hao.2.1
        clear ho hb hA hbd hao hC harc
        go_wp2_with fail
        refine (specName_any arcs hl2 hl60 H.out.2.2.1 A c hcc _ H.out.2.2.2.2.1).mono ?_
        rintro e w2 ⟨v2, rfl, ho2, hb2⟩
        obtain ⟨A2, c2, rfl, hcc2, hC2⟩ := Kd.R_reads ho2
        have H2 := Lib.hid (And.intro hC2 (And.intro (below_step H.out.2.1 hb2) hb2))
        clear ho2 hb2 hC2
        go_wp2_with fail
        have hrd := implReadName_any A2 c2 x y l x0 x2 y0 y2 (fun z hz => H.out.2.2.1 z (by rw [H.out.2.2.2.2.2]; simp [hz])) (by omega) w2 (by rw [← H.out.2.2.2.2.2]; exact H2.out.1) (PowTab.on ht.out H2.out.2.1)
        rw [← H.out.2.2.2.2.2] at hrd
        refine hrd.mono ?_
        rintro e w3 ⟨rfl, hb3⟩
        have H3 := Lib.hid (And.intro (below_step H2.out.2.1 hb3) (Kd.C_below (Kd.C_below H.out.2.2.2.2.1 H2.out.2.2) hb3))
        clear hb3 hrd
        go_wp2_with fail
        refine (dotted_any arcs H.out.2.2.1 (by omega) A c _ H3.out.2).mono ?_
        rintro e w4 ⟨rfl, hb4⟩
        have H4 := Lib.hid (below_step H3.out.1 hb4)
        clear hb4
        go_wp2
        go_ret
        exact ⟨rfl, H4.out⟩

theorem door_met (os : Os) (args : Array Value) : laidMetH Tryd.prog laidU ((World.doorLaid Tryd.prog 400 os).forCall (fun _ _ => 0) ⟨#[], args, []⟩).memory :=
  laidMetH_of_parts3 (fuel := 8) (laidMet_of_run' 8 (by kernel_rfl) (by kernel_rfl)) (by kernel_rfl) (by kernel_rfl)
set_option maxRecDepth 100000 in
theorem lifted (os : Os) (started : os.Started) (H : Type) (enc : TypeId × Value → H) :
    ReturnsInHanded {} Tryd.checked os 6 .any (fun w args => (Rows.fnReadNameSpec.pre enc Tryd.prog Tryd.f6 [] false w args ∧ laidMetH Tryd.prog laidU w) ∧ sizedMet enc Tryd.prog Tryd.f6 (OpenSpec.ofChange Rows.fnReadNameSpec) false w args)
      (Rows.fnReadNameSpec.post enc Tryd.prog Tryd.f6 false true false false) := by
  refine returnsInHanded_of_change_and (C := Tryd.checked) (X := fun w _ => laidMetH Tryd.prog laidU w) (fun _ _ _ hh h => h.of_heap hh) own started (by kernel_rfl) Tryd.func6
    (ChangeSpec.witness_shaped (enc := enc) (C := Tryd.checked) (os := os) (X := fun w _ => laidMetH Tryd.prog laidU w) false (World.doorLaid Tryd.prog 400 os) #[.string ByteArray.empty] 8 rfl (World.shaped_of_RefB (by kernel_rfl) (by kernel_rfl)) (by kernel_rfl) (by kernel_rfl) (by kernel_rfl) (door_met os _)) ?_
  intro W base args ds gs before hval0 hW _ _ hL _
  have hval : ∀ (j : Nat) t v, Tryd.f6.params[j]? = some t → args[j]? = some v → Value.okWide Tryd.prog W .any base t v := hval0
  have hW' := hW
  obtain ⟨p, q, hA0, hV0, rfl, hfz, hnd⟩ := hW
  have hA : DataW.TrodAll enc Tryd.prog W 0 (fun _ => true) true Tryd.f6.params.toList args.toList ds p := hA0
  have hV : DataW.TrodVars enc Tryd.prog W (fun _ => true) ["loop.example/pub-g03261/pub/snmp.ErrBase128IntegerTooLarge", "loop.example/pub-g03261/pub/snmp.ErrBase128IntegerTruncated"] gs q := hV0
  rw [Tryd.params6] at hA hval
  obtain ⟨v0, vs0, d0, ds0, p0, q0, hargs, rfl, rfl, h0, r0⟩ := trodAll_cons hA
  obtain ⟨rfl, rfl, rfl⟩ := trodAll_nil r0
  obtain rfl : args = #[v0] := by cases args; simp_all
  obtain ⟨g1, g2, rfl⟩ : ∃ g1 g2, gs = [g1, g2] := by
    have hl := vars_length hV
    match gs, hl with
    | [g1, g2], _ => exact ⟨_, _, rfl⟩
  obtain ⟨a0, rfl, rfl, rfl, w0⟩ := open_string Tryd.underlying9 (hval 0 9 v0 rfl rfl) h0
  clear hA0 hval0
  simp only [List.append_nil] at hW'
  refine (walk a0 w0 W hL).mono fun e W' ⟨he, bel⟩ => ?_
  subst he
  exact ⟨_, rfl, _, _, _, [], _, _, hW', trodAll_mk1 (shut_bool Tryd.underlying4 _), (trodAll_cons_mk (shut_string Tryd.underlying9 w0) trodAll_mk0), Below.trodVars laidOut bel (by kernel_rfl) hV, bel.frame _, fun h => by cases h⟩
theorem over : Rows.fnReadNameRow.holds Tryd.pinned (OpenSpec.ofChange Rows.fnReadNameSpec) :=
  OpenClaim.holds_of_wide 6 Tryd.f6 rfl rfl rfl rfl rfl rfl rfl ⟨rfl, rfl, rfl, rfl, rfl⟩ rfl rfl rfl rfl rfl (by kernel_rfl) Tryd.func6 (by kernel_rfl)
    (of_decide_eq_true (by kernel_rfl)) (by unfold Func.isWrapper; first | (rw [if_pos (by decide +kernel)]; kernel_rfl) | (rw [if_neg (by decide +kernel)]; exact ⟨rfl, rfl⟩))
    (fun os started H enc _ => lifted os started H enc)
theorem proved : Rows.FnReadNameCardSaid :=
  Claim7.holds_tied_plain_at .later [] [.data, .data, .data, .sentinel, .sentinel] true (true, "f596c23b150755acb4f3fcad6bbd4c9017fbbb329bdb5159374432f99e1cbe9f") false
    over (fun _ h => by cases h) (by kernel_rfl) (fun _ h => by cases h) fnReadName_row_tie rfl ⟨rfl, rfl⟩ (by kernel_rfl) rfl
    (fun f fn hf hfn => by
      obtain rfl : f = 6 := Option.some.inj ((show Tryd.prog.funcNamed "loop.example/pub-g03261/laws.FnReadName" = some 6 by kernel_rfl).symm.trans hf) |>.symm
      obtain rfl : fn = Tryd.f6 := (Option.some.inj (Tryd.func6.symm.trans hfn)).symm
      exact ⟨by kernel_rfl, fun j t ht => by
        rw [Tryd.params6] at ht
        have h3 : t = 9 := by
          match j with
          | 0 => simp at ht; subst ht; simp
          | j + 1 => simp at ht
        rcases h3 with rfl
        exact (show Tryd.prog.wantsStandIn 9 = false by kernel_rfl)⟩)
    (by kernel_rfl)
#print axioms proved
end Go.Proofs.YtacbdhklfgapkaaDoor.fnReadName
