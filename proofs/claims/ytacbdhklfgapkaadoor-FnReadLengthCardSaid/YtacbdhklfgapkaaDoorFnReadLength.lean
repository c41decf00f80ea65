/-
FnReadLength: of a tag, a length and content of noughts (at most 3000, the length up to two bytes more than it takes) impl.ReadLength tells the length of all and where the content begins.
-/
import Derived.Test.YtacbdhklfgapkaaDoorRows
import Derived.Test.YtacbdhklfgapkaaDoorTie
import Derived.Test.YtacbdhklfgapkaaDoorCards
import Derived.ProofKit
import Derived.OpenShut
import Derived.LaidMore
import Derived.OpenVars
import Derived.ChangeVars
import Derived.Stop.Joined
import Derived.SevenTiedAt
import Derived.Test.YtacbdhklfgapkaaDoorVars
import Derived.Test.YtacbdhklfgapkaaDoorSSealedFnReadLength
import Derived.Test.YtacbdhklfgapkaaDoorSpecLen
set_option linter.unusedVariables false
namespace Go.Proofs.YtacbdhklfgapkaaDoor.fnReadLength
open Go.ChangeShapes Go.WideShapes Go.ChangeAt Go.RowKit Go.Proofs.YtacbdhklfgapkaaDoorW.PrintWords Go.Proofs.YtacbdhklfgapkaaDoorW.PrintLast Go.Proofs.YtacbdhklfgapkaaDoorW.PrintMore

theorem ZZReadLength_any (A : Option Addr) (c : Nat) (xs : List Int) (w : World) (hr : Kd.C (Kd.int .u8) w A xs.length xs) (hb : IsB xs) (h2 : 2 ≤ xs.length) (h : rd xs 1 ≠ 128) (h7 : rd xs 1 ≤ 135) (hn : 127 < rd xs 1 → 2 + (rd xs 1 - 128).toNat ≤ xs.length) :
    Calls Tryd.prog 21 #[.slice A xs.length c] w fun e w' => e = .returned (.tuple #[.int .i64 (pLen xs).1, .int .i64 (pLen xs).2, .nilIface]) ∧ w = w' := by
  go_enter Tryd.func21, Tryd.ntmps21
  go_wp2_with fail
  refine (parseLength_any A c xs _ hr hb h2 h h7 hn).mono ?_
  rintro e w' ⟨rfl, rfl⟩
  go_wp2
  go_ret3
  exact ⟨rfl, rfl⟩

theorem implReadLength_any (A : Option Addr) (c : Nat) (xs : List Int) (w : World) (hr : Kd.C (Kd.int .u8) w A xs.length xs) (hb : IsB xs) (h2 : 2 ≤ xs.length) (hl : xs.length ≤ 16384) (h : rd xs 1 ≠ 128) (h7 : rd xs 1 ≤ 135) (hn : 127 < rd xs 1 → 2 + (rd xs 1 - 128).toNat ≤ xs.length) :
    Calls Tryd.prog 9 #[.slice A xs.length c] w fun e w' => e = .returned (.tuple #[.int .i64 (pLen xs).1, .int .i64 (pLen xs).2, .bool true]) ∧ Below w.heap.size w w' := by
  have d1 : decide ((16384 : Int) < (xs.length : Int)) = false := by simp; omega
  have d2 : decide ((16384 : Nat) < xs.length) = false := by simp; omega
  have HH := Lib.hid (And.intro hr (And.intro hb (And.intro h2 (And.intro h (And.intro h7 hn)))))
  clear hr hb h2 h h7 hn
  go_enter Tryd.func9, Tryd.ntmps9
  go_wp2_with fail
  refine (ZZReadLength_any A c xs _ HH.out.1 HH.out.2.1 HH.out.2.2.1 HH.out.2.2.2.1 HH.out.2.2.2.2.1 HH.out.2.2.2.2.2).mono ?_
  rintro e w' ⟨rfl, rfl⟩
  go_wp2
  go_quiet (fail)
  go_wp2
  go_ret3
  exact ⟨rfl, pw_below_drewN (Below.refl _ _) _⟩

theorem infoB : (Tryd.prog.info? 5).map (fun i => (i.zero, i.size, i.bytes)) = some (some (.int .u8 0), 1, 1) := by kernel_rfl

set_option maxHeartbeats 1000000 in
theorem walk (a0 : Int) (h0 : 0 ≤ a0) (h0' : a0 ≤ 255) (a1 : Int) (h1 : 0 ≤ a1) (h1' : a1 ≤ 65535) (a2 : Int) (h2 : 0 ≤ a2) (h2' : a2 ≤ 255) (w : World) :
    Calls Tryd.prog 3 #[.int .u8 a0, .int .u16 a1, .int .u8 a2] w fun e w' => e = .returned (.bool true) ∧ Below w.heap.size w w' := by
  obtain ⟨n, hn⟩ : ∃ n : Nat, a1 % 3001 = n := ⟨(a1 % 3001).toNat, by omega⟩
  obtain ⟨wd, hwd⟩ : ∃ n : Nat, a2 % 3 = n := ⟨(a2 % 3).toNat, by omega⟩
  have hn3 : n ≤ 3000 := by omega
  have hwd2 : wd ≤ 2 := by omega
  go_enter Tryd.func3, Tryd.ntmps3
  go_wp2_with (at_make; go_loud (refine make_bytes rfl rfl 23 (.tmp 21) (.tmp 21) rfl n rfl rfl Tryd.underlying23 infoB (by omega) ?_); intro v1 w1 ho1 hb1)
  obtain ⟨A1, c1, rfl, hc1, hC1⟩ := Kd.R_reads ho1
  have hl : (List.replicate n (0 : Int)).length = n := List.length_replicate ..
  refine (PFnReadLength.spec_Sealed.calls 21 a0 A1 c1 (List.replicate n 0) wd _ _ hC1 hc1 (sSealed_eq a0 _ wd (by omega) (by omega))).mono ?_
  rintro e w2 ⟨v2, rfl, ho2, hb2⟩
  obtain ⟨A2, c2, rfl, hc2, hC2⟩ := Kd.R_reads ho2
  have hsr := sealed_read a0 (List.replicate n 0) [] wd (by omega) (by omega)
  have hib := sSealed_isB a0 (List.replicate n 0) wd (isB_zeros n) (by omega) (by omega)
  have hlen : (sSealed a0 (List.replicate n 0) wd).length ≤ 3100 := by
    have := sLen_len (List.replicate n (0 : Int)).length wd
    unfold sSealed
    simp only [List.length_cons, List.length_append]
    omega
  have hge : n ≤ (sSealed a0 (List.replicate n 0) wd).length := by
    unfold sSealed
    simp only [List.length_cons, List.length_append, hl]
    omega
  rw [List.append_nil, hl] at hsr
  generalize sSealed a0 (List.replicate n 0) wd = xs at *
  have HS := Lib.hid hsr
  have HL := Lib.hid hl
  clear hsr hl
  go_wp2_with fail
  refine (implReadLength_any A2 c2 xs _ hC2 hib HS.out.1.1 (by omega) HS.out.1.2.1 HS.out.1.2.2.1 HS.out.1.2.2.2).mono ?_
  rintro e w3 ⟨rfl, hb3⟩
  rw [HS.out.2]
  have d1 : ((xs.length : Int) == (xs.length : Int)) = true := by simp
  have d2 : ((xs.length : Int) - (n : Int) == (xs.length : Int) - (n : Int)) = true := by simp
  go_wp2
  go_ret
  exact ⟨rfl, below_step (below_step hb1 hb2) hb3⟩

theorem own : ownKnob Tryd.prog.godebug = none := by kernel_rfl
theorem laidOut : laidOutB Tryd.prog = true := by kernel_rfl
abbrev laidU : List (String × DataW Unit) := [("loop.example/pub-g03261/pub/snmp.ErrInvalidPacketLength", Rows.laid_loop_example_pub_g03261_pub_snmp_ErrInvalidPacketLength)]
theorem door_met (os : Os) (args : Array Value) : laidMetH Tryd.prog laidU ((World.doorLaid Tryd.prog 400 os).forCall (fun _ _ => 0) ⟨#[], args, []⟩).memory :=
  laidMetH_of_parts3 (fuel := 8) (laidMet_of_run' 8 (by kernel_rfl) (by kernel_rfl)) (by kernel_rfl) (by kernel_rfl)
set_option maxRecDepth 100000 in
theorem lifted (os : Os) (started : os.Started) (H : Type) (enc : TypeId × Value → H) :
    ReturnsInHanded {} Tryd.checked os 3 .any (fun w args => (Rows.fnReadLengthSpec.pre enc Tryd.prog Tryd.f3 [] false w args ∧ laidMetH Tryd.prog laidU w) ∧ sizedMet enc Tryd.prog Tryd.f3 (OpenSpec.ofChange Rows.fnReadLengthSpec) false w args)
      (Rows.fnReadLengthSpec.post enc Tryd.prog Tryd.f3 false true false false) := by
  refine returnsInHanded_of_change_and (C := Tryd.checked) (X := fun w _ => laidMetH Tryd.prog laidU w) (fun _ _ _ hh h => h.of_heap hh) own started (by kernel_rfl) Tryd.func3
    (ChangeSpec.witness_shaped (enc := enc) (C := Tryd.checked) (os := os) (X := fun w _ => laidMetH Tryd.prog laidU w) false (World.doorLaid Tryd.prog 400 os) #[.int .u8 0, .int .u16 0, .int .u8 0] 8 rfl (World.shaped_of_RefB (by kernel_rfl) (by kernel_rfl)) (by kernel_rfl) (by kernel_rfl) (by kernel_rfl) (door_met os _)) ?_
  intro W base args ds gs before hval0 hW _ _ hL _
  have hval : ∀ (j : Nat) t v, Tryd.f3.params[j]? = some t → args[j]? = some v → Value.okWide Tryd.prog W .any base t v := hval0
  have hW' := hW
  obtain ⟨p, q, hA0, hV0, rfl, hfz, hnd⟩ := hW
  have hA : DataW.TrodAll enc Tryd.prog W 0 (fun _ => true) true Tryd.f3.params.toList args.toList ds p := hA0
  have hV : DataW.TrodVars enc Tryd.prog W (fun _ => true) ["loop.example/pub-g03261/pub/snmp.ErrInvalidPacketLength"] gs q := hV0
  rw [Tryd.params3] at hA hval
  obtain ⟨v0, vs0, d0, ds0, p0, q0, hargs, rfl, rfl, h0, r0⟩ := trodAll_cons hA
  obtain ⟨v1, vs1, d1, ds1, p1, q1, rfl, rfl, rfl, h1, r1⟩ := trodAll_cons r0
  obtain ⟨v2, vs2, d2, ds2, p2, q2, rfl, rfl, rfl, h2, r2⟩ := trodAll_cons r1
  obtain ⟨rfl, rfl, rfl⟩ := trodAll_nil r2
  obtain rfl : args = #[v0, v1, v2] := by cases args; simp_all
  obtain ⟨g1, rfl⟩ : ∃ g1, gs = [g1] := by
    have hl := vars_length hV
    match gs, hl with
    | [g1], _ => exact ⟨_, rfl⟩
  obtain ⟨a0, rfl, rfl, rfl, w0⟩ := open_int Tryd.underlying5 (hval 0 5 v0 rfl rfl) h0
  have bd0 := bounds_u8 w0
  obtain ⟨a1, rfl, rfl, rfl, w1⟩ := open_int Tryd.underlying22 (hval 1 22 v1 rfl rfl) h1
  have bd1 := bounds_u16 w1
  obtain ⟨a2, rfl, rfl, rfl, w2⟩ := open_int Tryd.underlying5 (hval 2 5 v2 rfl rfl) h2
  have bd2 := bounds_u8 w2
  clear hA0 hval0
  simp only [List.append_nil] at hW'
  refine (walk a0 (by omega) (by omega) a1 (by omega) (by omega) a2 (by omega) (by omega) W).mono fun e W' ⟨he, bel⟩ => ?_
  subst he
  exact ⟨_, rfl, _, _, _, [], _, _, hW', trodAll_mk1 (shut_bool Tryd.underlying4 _), (trodAll_cons_mk (shut_int Tryd.underlying5 w0) (trodAll_cons_mk (shut_int Tryd.underlying22 w1) (trodAll_cons_mk (shut_int Tryd.underlying5 w2) trodAll_mk0))), Below.trodVars laidOut bel (by kernel_rfl) hV, bel.frame _, fun h => by cases h⟩
theorem over : Rows.fnReadLengthRow.holds Tryd.pinned (OpenSpec.ofChange Rows.fnReadLengthSpec) :=
  OpenClaim.holds_of_wide 3 Tryd.f3 rfl rfl rfl rfl rfl rfl rfl ⟨rfl, rfl, rfl, rfl, rfl⟩ rfl rfl rfl rfl rfl (by kernel_rfl) Tryd.func3 (by kernel_rfl)
    (of_decide_eq_true (by kernel_rfl)) (by unfold Func.isWrapper; first | (rw [if_pos (by decide +kernel)]; kernel_rfl) | (rw [if_neg (by decide +kernel)]; exact ⟨rfl, rfl⟩))
    (fun os started H enc _ => lifted os started H enc)
theorem proved : Rows.FnReadLengthCardSaid :=
  Claim7.holds_tied_plain_at .later [] [.sentinel] true (true, "f596c23b150755acb4f3fcad6bbd4c9017fbbb329bdb5159374432f99e1cbe9f") false
    over (fun _ h => by cases h) (by kernel_rfl) (fun _ h => by cases h) fnReadLength_row_tie rfl ⟨rfl, rfl⟩ (by kernel_rfl) rfl
    (fun f fn hf hfn => by
      obtain rfl : f = 3 := Option.some.inj ((show Tryd.prog.funcNamed "loop.example/pub-g03261/laws.FnReadLength" = some 3 by kernel_rfl).symm.trans hf) |>.symm
      obtain rfl : fn = Tryd.f3 := (Option.some.inj (Tryd.func3.symm.trans hfn)).symm
      exact ⟨by kernel_rfl, fun j t ht => by
        rw [Tryd.params3] at ht
        have h3 : t = 5 ∨ t = 22 ∨ t = 5 := by
          match j with
          | 0 => simp at ht; subst ht; simp
          | 1 => simp at ht; subst ht; simp
          | 2 => simp at ht; subst ht; simp
          | j + 3 => simp at ht
        rcases h3 with rfl | rfl | rfl
        · exact (show Tryd.prog.wantsStandIn 5 = false by kernel_rfl)
        · exact (show Tryd.prog.wantsStandIn 22 = false by kernel_rfl)
        · exact (show Tryd.prog.wantsStandIn 5 = false by kernel_rfl)⟩)
    (by kernel_rfl)
#print axioms proved
end Go.Proofs.YtacbdhklfgapkaaDoor.fnReadLength
