/-
FnReadNameBytes: content that the reference takes as a name is read by impl.ReadName as that name with a point ahead.
-/
import Derived.Test.YtacbdhklfgapkaaDoorRows
import Derived.Test.YtacbdhklfgapkaaDoorTie
import Derived.Test.YtacbdhklfgapkaaDoorCards
import Derived.ProofKit
import Derived.OpenShut
import Derived.ShutString
import Derived.LaidMore
import Derived.LaidSub
import Derived.Lib.LaidTab
import Derived.OpenVars
import Derived.ChangeVars
import Derived.Stop.Joined
import Derived.SevenTiedAt
import Derived.Test.YtacbdhklfgapkaaDoorVars
import Derived.Test.YtacbdhklfgapkaaDoorWOf
import Derived.Test.YtacbdhklfgapkaaDoorRow
import Derived.Test.YtacbdhklfgapkaaDoorWDot
import Derived.Test.YtacbdhklfgapkaaDoorReadNm
set_option linter.unusedVariables false
namespace Go.Proofs.YtacbdhklfgapkaaDoor.fnReadNameBytes
open Go.ChangeShapes Go.WideShapes Go.ChangeAt Go.RowKit Go.Proofs.YtacbdhklfgapkaaDoorW.PrintWords Go.Proofs.YtacbdhklfgapkaaDoorW.PrintLast Go.Proofs.YtacbdhklfgapkaaDoorW.PrintMore
open Go.ChangeMaps (open_string shut_string)

theorem own : ownKnob Tryd.prog.godebug = none := by kernel_rfl
theorem laidOut : laidOutB Tryd.prog = true := by kernel_rfl
abbrev laidU : List (String × DataW Unit) := [("math/bits.deBruijn32tab", Rows.laid_math_bits_deBruijn32tab), ("math/bits.deBruijn64tab", Rows.laid_math_bits_deBruijn64tab), ("internal/strconv.uint64pow10", Rows.laid_internal_strconv_uint64pow10), ("loop.example/pub-g03261/pub/snmp.ErrBase128IntegerTooLarge", Rows.laid_loop_example_pub_g03261_pub_snmp_ErrBase128IntegerTooLarge), ("loop.example/pub-g03261/pub/snmp.ErrBase128IntegerTruncated", Rows.laid_loop_example_pub_g03261_pub_snmp_ErrBase128IntegerTruncated)]
theorem pow_of {W : World} (h : laidMetH Tryd.prog laidU W) : PowTab W := by
  have h2 := laidMetH.filter (fun x => x.1 == "internal/strconv.uint64pow10") h
  have e : laidU.filter (fun x => x.1 == "internal/strconv.uint64pow10") = [("internal/strconv.uint64pow10", Lib.tabData .u64 Lib.pow10Tab)] := by rfl
  rw [e] at h2
  exact Lib.tabIs_of_head (g := 5) (by kernel_rfl) (by kernel_rfl) Tryd.underlying79 Tryd.underlying28 (by kernel_rfl) (by kernel_rfl) h2

set_option maxRecDepth 100000 in
set_option maxHeartbeats 2000000 in
theorem walk (A : Option Addr) (len c : Nat) (zs : List Int) {w : World} (hrow : IsRow .u8 w A len c zs) (_ : World) (hL : laidMetH Tryd.prog laidU w) :
    Calls Tryd.prog 7 #[.slice A len c] w fun e w' => e = .returned (.bool true) ∧ Below w.heap.size w w' := by
  have ht := Lib.hid (pow_of hL)
  clear hL
  obtain ⟨xs, rfl, hc, hm, hC, hb⟩ := hrow.bytes
  have HH := Lib.hid (And.intro hC hb)
  clear hC hb hrow
  by_cases hz : (2147483647 : Int) < xs.length
  · go_enter Tryd.func7, Tryd.ntmps7
    go_wp2
    go_ret
    exact ⟨rfl, Below.refl _ _⟩
  · go_enter Tryd.func7, Tryd.ntmps7
    go_wp2_with fail
    refine (specOfName_any A c xs hc HH.out.2 _ HH.out.1).mono ?_
    rintro e w1 ⟨v, rfl, ho, hb1⟩
    obtain ⟨A1, c1, rfl, hcc, hC1⟩ := Kd.R_reads ho
    cases hok : (sOf xs).2 with
    | false =>
      clear ho hC1
      have HB := Lib.hid hb1
      clear hb1
      go_wp2
      go_ret
      exact ⟨rfl, HB.out⟩
    | true =>
      by_cases h100 : (100 : Int) < xs.length
      · clear ho hC1
        have HB := Lib.hid hb1
        clear hb1
        go_wp2
        go_ret
        exact ⟨rfl, HB.out⟩
      · have hA : sOf xs = ((sOf xs).1, true) := by rw [← hok]
        generalize (sOf xs).1 = arcs at *
        obtain ⟨x, y, l, harc, hxs, x0, x2, y0, y2, hbd, hl60⟩ := sOf_text xs HH.out.2 arcs hA
        have hall : ∀ z ∈ arcs, 0 ≤ z ∧ z ≤ 4294967295 := by
          rw [harc]
          intro z hz
          rcases List.mem_cons.1 hz with rfl | hz
          · omega
          rcases List.mem_cons.1 hz with rfl | hz
          · omega
          exact hbd z hz
        have hll : l.length ≤ 58 := by rw [harc] at hl60; simp at hl60; omega
        have H := Lib.hid (And.intro hb1 (And.intro hall (And.intro hC1 (And.intro harc (And.intro hxs hbd)))))
        clear ho hA hall hC1 harc hxs hbd hb1
        go_wp2_with fail
        have hrd := implReadName_any A c x y l x0 x2 y0 y2 H.out.2.2.2.2.2 (by omega) w1 (by rw [← H.out.2.2.2.1, ← H.out.2.2.2.2.1]; exact Kd.C_below HH.out.1 H.out.1) (PowTab.on ht.out H.out.1)
        rw [← H.out.2.2.2.1, ← H.out.2.2.2.2.1] at hrd
        refine hrd.mono ?_
        rintro e w3 ⟨rfl, hb3⟩
        have H3 := Lib.hid (And.intro (below_step H.out.1 hb3) (Kd.C_below H.out.2.2.1 hb3))
        clear hb3 hrd
        go_wp2_with fail
        refine (dotted_any arcs H.out.2.1 (by omega) A1 c1 _ H3.out.2).mono ?_
        rintro e w4 ⟨rfl, hb4⟩
        have H4 := Lib.hid (below_step H3.out.1 hb4)
        clear hb4
        go_wp2
        go_ret
        exact ⟨rfl, H4.out⟩

theorem door_met (os : Os) (args : Array Value) : laidMetH Tryd.prog laidU ((World.doorLaid Tryd.prog 400 os).forCall (fun _ _ => 0) ⟨#[], args, []⟩).memory :=
  laidMetH_of_parts3 (fuel := 8) (laidMet_of_run' 8 (by kernel_rfl) (by kernel_rfl)) (by kernel_rfl) (by kernel_rfl)
set_option maxRecDepth 100000 in
theorem lifted (os : Os) (started : os.Started) (H : Type) (enc : TypeId × Value → H) :
    ReturnsInHanded {} Tryd.checked os 7 .any (fun w args => (Rows.fnReadNameBytesSpec.pre enc Tryd.prog Tryd.f7 [] false w args ∧ laidMetH Tryd.prog laidU w) ∧ sizedMet enc Tryd.prog Tryd.f7 (OpenSpec.ofChange Rows.fnReadNameBytesSpec) false w args)
      (Rows.fnReadNameBytesSpec.post enc Tryd.prog Tryd.f7 false true false false) := by
  refine returnsInHanded_of_change_and (C := Tryd.checked) (X := fun w _ => laidMetH Tryd.prog laidU w) (fun _ _ _ hh h => h.of_heap hh) own started (by kernel_rfl) Tryd.func7
    (ChangeSpec.witness_shaped (enc := enc) (C := Tryd.checked) (os := os) (X := fun w _ => laidMetH Tryd.prog laidU w) false (World.doorLaid Tryd.prog 400 os) #[.slice none 0 0] 8 rfl (World.shaped_of_RefB (by kernel_rfl) (by kernel_rfl)) (by kernel_rfl) (by kernel_rfl) (by kernel_rfl) (door_met os _)) ?_
  intro W base args ds gs before hval0 hW _ _ hL _
  have hval : ∀ (j : Nat) t v, Tryd.f7.params[j]? = some t → args[j]? = some v → Value.okWide Tryd.prog W .any base t v := hval0
  have hW' := hW
  obtain ⟨p, q, hA0, hV0, rfl, hfz, hnd⟩ := hW
  have hA : DataW.TrodAll enc Tryd.prog W 0 (fun _ => true) true Tryd.f7.params.toList args.toList ds p := hA0
  have hV : DataW.TrodVars enc Tryd.prog W (fun _ => true) ["loop.example/pub-g03261/pub/snmp.ErrBase128IntegerTooLarge", "loop.example/pub-g03261/pub/snmp.ErrBase128IntegerTruncated"] gs q := hV0
  rw [Tryd.params7] at hA hval
  obtain ⟨v0, vs0, d0, ds0, p0, q0, hargs, rfl, rfl, h0, r0⟩ := trodAll_cons hA
  obtain ⟨rfl, rfl, rfl⟩ := trodAll_nil r0
  obtain rfl : args = #[v0] := by cases args; simp_all
  obtain ⟨g1, g2, rfl⟩ : ∃ g1 g2, gs = [g1, g2] := by
    have hl := vars_length hV
    match gs, hl with
    | [g1, g2], _ => exact ⟨_, _, rfl⟩
  obtain ⟨A0, len0, cap0, rfl⟩ := okWide_slice Tryd.underlying23 (hval 0 23 v0 rfl rfl)
  have k0 := h0
  have lt0 : ∀ x ∈ p0, x.block < W.heap.size := by obtain ⟨m, hm⟩ := k0; exact DataW.trod_lt m _ _ _ hm
  obtain ⟨z0, w0⟩ : ∃ zs, IsRow .u8 W A0 len0 cap0 zs := by
    obtain ⟨fuel, hf⟩ := h0
    rcases open_ints Tryd.underlying23 Tryd.underlying5 (by kernel_rfl) hf with ⟨hcs, _⟩ | ⟨x, l, c, zs, hcs, _, hl, hm, hz, _, hcell, hwz⟩
    · simp [Value.cells] at hcs
      obtain ⟨rfl, rfl, rfl⟩ := hcs
      exact ⟨[], .inl ⟨rfl, rfl, rfl, rfl⟩⟩
    · simp [Value.cells] at hcs
      obtain ⟨rfl, rfl, rfl⟩ := hcs
      exact ⟨zs, .inr ⟨_, rfl, hl, hm, by simpa using hz, hcell, hwz⟩⟩
  clear hA0 hval0
  simp only [List.append_nil] at hW'
  refine (walk A0 len0 cap0 z0 w0 W hL).mono fun e W' ⟨he, bel⟩ => ?_
  subst he
  exact ⟨_, rfl, _, _, _, [], _, _, hW', trodAll_mk1 (shut_bool Tryd.underlying4 _), (trodAll_cons_mk (Below.trod laidOut (by kernel_rfl) (of_decide_eq_true (by kernel_rfl)) k0 bel lt0) trodAll_mk0), Below.trodVars laidOut bel (by kernel_rfl) hV, bel.frame _, fun h => by cases h⟩
theorem over : Rows.fnReadNameBytesRow.holds Tryd.pinned (OpenSpec.ofChange Rows.fnReadNameBytesSpec) :=
  OpenClaim.holds_of_wide 7 Tryd.f7 rfl rfl rfl rfl rfl rfl rfl ⟨rfl, rfl, rfl, rfl, rfl⟩ rfl rfl rfl rfl rfl (by kernel_rfl) Tryd.func7 (by kernel_rfl)
    (of_decide_eq_true (by kernel_rfl)) (by unfold Func.isWrapper; first | (rw [if_pos (by decide +kernel)]; kernel_rfl) | (rw [if_neg (by decide +kernel)]; exact ⟨rfl, rfl⟩))
    (fun os started H enc _ => lifted os started H enc)
theorem proved : Rows.FnReadNameBytesCardSaid :=
  Claim7.holds_tied_plain_at .later [] [.data, .data, .data, .sentinel, .sentinel] true (true, "f596c23b150755acb4f3fcad6bbd4c9017fbbb329bdb5159374432f99e1cbe9f") false
    over (fun _ h => by cases h) (by kernel_rfl) (fun _ h => by cases h) fnReadNameBytes_row_tie rfl ⟨rfl, rfl⟩ (by kernel_rfl) rfl
    (fun f fn hf hfn => by
      obtain rfl : f = 7 := Option.some.inj ((show Tryd.prog.funcNamed "loop.example/pub-g03261/laws.FnReadNameBytes" = some 7 by kernel_rfl).symm.trans hf) |>.symm
      obtain rfl : fn = Tryd.f7 := (Option.some.inj (Tryd.func7.symm.trans hfn)).symm
      exact ⟨by kernel_rfl, fun j t ht => by
        rw [Tryd.params7] at ht
        have h3 : t = 23 := by
          match j with
          | 0 => simp at ht; subst ht; simp
          | j + 1 => simp at ht
        rcases h3 with rfl
        exact (show Tryd.prog.wantsStandIn 23 = false by kernel_rfl)⟩)
    (by kernel_rfl)
#print axioms proved
end Go.Proofs.YtacbdhklfgapkaaDoor.fnReadNameBytes
