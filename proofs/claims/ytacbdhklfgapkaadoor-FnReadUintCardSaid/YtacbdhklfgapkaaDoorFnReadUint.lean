/-
FnReadUint: bytes that the reference reads as a number are read as that number by impl.ReadUint; and a name is encoded.
-/
import Derived.Test.YtacbdhklfgapkaaDoorRows
import Derived.Test.YtacbdhklfgapkaaDoorTie
import Derived.Test.YtacbdhklfgapkaaDoorCards
import Derived.ProofKit
import Derived.OpenShut
import Derived.LaidMore
import Derived.OpenVars
import Derived.ChangeVars
import Derived.Stop.Joined
import Derived.SevenTiedAt
import Derived.Test.YtacbdhklfgapkaaDoorVars
import Derived.Test.YtacbdhklfgapkaaDoorRow
import Derived.Test.YtacbdhklfgapkaaDoorAliveFnReadInt
import Derived.Test.YtacbdhklfgapkaaDoorSOfUintFnReadUint
set_option linter.unusedVariables false
namespace Go.Proofs.YtacbdhklfgapkaaDoor.fnReadUint
open Go.ChangeShapes Go.WideShapes Go.ChangeAt Go.RowKit Go.Proofs.YtacbdhklfgapkaaDoorW.PrintWords Go.Proofs.YtacbdhklfgapkaaDoorW.PrintLast Go.Proofs.YtacbdhklfgapkaaDoorW.PrintMore

theorem ZZRead_any (A : Option Addr) (c : Nat) (xs : List Int) (w : World) (hr : Kd.C (Kd.int .u8) w A xs.length xs) (hb : IsB xs) (h1 : 1 ≤ xs.length) (h9 : xs.length ≤ 8 ∨ (xs.length = 9 ∧ rd xs 0 = 0)) (hv : beVal xs 0 < 18446744073709551616) :
    Calls Tryd.prog 22 #[.slice A xs.length c] w fun e w' => e = .returned (.tuple #[.int .u64 (beVal xs 0), .nilIface]) ∧ w = w' := by
  go_enter Tryd.func22, Tryd.ntmps22
  go_wp2_with fail
  refine (parseUint64_any A c xs _ hr hb h1 h9 hv).mono ?_
  rintro e w' ⟨rfl, rfl⟩
  go_wp2
  go_ret2
  exact ⟨rfl, rfl⟩
theorem implRead_any (A : Option Addr) (c : Nat) (xs : List Int) (w : World) (hr : Kd.C (Kd.int .u8) w A xs.length xs) (hb : IsB xs) (h1 : 1 ≤ xs.length) (h9 : xs.length ≤ 8 ∨ (xs.length = 9 ∧ rd xs 0 = 0)) (hv : beVal xs 0 < 18446744073709551616) :
    Calls Tryd.prog 11 #[.slice A xs.length c] w fun e w' => e = .returned (.tuple #[.int .u64 (beVal xs 0), .bool true]) ∧ Below w.heap.size w w' := by
  have HH := Lib.hid (And.intro hr hb)
  clear hr hb
  go_enter Tryd.func11, Tryd.ntmps11
  go_wp2_with fail
  refine (ZZRead_any A c xs _ HH.out.1 HH.out.2 h1 h9 hv).mono ?_
  rintro e w' ⟨rfl, rfl⟩
  go_wp2
  go_quiet (fail)
  go_wp2
  go_ret2
  exact ⟨rfl, pw_below_drewN (Below.refl _ _) _⟩

theorem uPart_cases (xs : List Int) : (uPart xs = xs ∧ ¬ (xs.length = 9 ∧ rd xs 0 = 0)) ∨ ∃ l, xs = 0 :: l ∧ uPart xs = l ∧ l.length = 8 := by
  unfold uPart
  by_cases c : xs.length = 9 ∧ rd xs 0 = 0
  · right
    rw [if_pos c]
    obtain ⟨x, l, rfl⟩ : ∃ x l, xs = x :: l := List.exists_cons_of_length_eq_add_one c.1
    have hx : x = 0 := c.2
    subst hx
    exact ⟨l, rfl, rfl, by have := c.1; simp at this; exact this⟩
  · left; rw [if_neg c]; exact ⟨rfl, c⟩
theorem uPart_len (xs : List Int) (h : 1 ≤ (uPart xs).length ∧ (uPart xs).length ≤ 8) : 1 ≤ xs.length ∧ (xs.length ≤ 8 ∨ (xs.length = 9 ∧ rd xs 0 = 0)) := by
  rcases uPart_cases xs with ⟨e, _⟩ | ⟨l, rfl, e, hl⟩
  · rw [e] at h; exact ⟨h.1, .inl h.2⟩
  · exact ⟨by simp, .inr ⟨by simp [hl], rfl⟩⟩
theorem uPart_val (xs : List Int) (hb : IsB xs) (h : 1 ≤ (uPart xs).length ∧ (uPart xs).length ≤ 8) : beVal xs 0 < 18446744073709551616 ∧ beVal xs 0 = beVal (uPart xs) 0 := by
  have e : beVal xs 0 = beVal (uPart xs) 0 := by
    rcases uPart_cases xs with ⟨e, _⟩ | ⟨l, rfl, e, hl⟩
    · rw [e]
    · rw [e]; simp [beVal]
  refine ⟨?_, e⟩
  rw [e]
  have hbu : IsB (uPart xs) := by unfold uPart; split; exact isB_drop hb 1; exact hb
  have h' := beVal_bound _ hbu 0 (by omega)
  have : (256 : Int) ^ (uPart xs).length ≤ 256 ^ 8 := by
    have : (uPart xs).length = 1 ∨ (uPart xs).length = 2 ∨ (uPart xs).length = 3 ∨ (uPart xs).length = 4 ∨ (uPart xs).length = 5 ∨ (uPart xs).length = 6 ∨ (uPart xs).length = 7 ∨ (uPart xs).length = 8 := by omega
    rcases this with e | e | e | e | e | e | e | e <;> rw [e] <;> decide
  omega
set_option maxHeartbeats 1000000 in
theorem walk (A : Option Addr) (len c : Nat) (zs : List Int) {w : World} (hrow : IsRow .u8 w A len c zs) (_ : World) :
    Calls Tryd.prog 4 #[.slice A len c] w fun e w' => e = .returned (.bool true) ∧ Below w.heap.size w w' := by
  obtain ⟨xs, rfl, hc, hm, hC, hb⟩ := hrow.bytes
  have HH := Lib.hid (And.intro hC hb)
  clear hC hb hrow
  by_cases hz : (2147483647 : Int) < xs.length
  · go_enter Tryd.func4, Tryd.ntmps4
    go_wp2
    go_ret
    exact ⟨rfl, Below.refl _ _⟩
  · by_cases hok : 1 ≤ (uPart xs).length ∧ (uPart xs).length ≤ 8
    · have HO := Lib.hid hok
      clear hok
      go_enter Tryd.func4, Tryd.ntmps4
      go_wp2_with fail
      refine (PFnReadUint.spec_OfUint.calls 14 (fun k => k < w.heap.size) A c xs _ true w (readB_of hc HH.out.1) (ofUint_eq xs HH.out.2 HO.out.1 HO.out.2)).mono ?_
      rintro e w1 ⟨rfl, hb1⟩
      have HB := Lib.hid hb1
      clear hb1
      go_wp2_with fail
      refine (implRead_any A c xs _ (Kd.C_below HH.out.1 HB.out) HH.out.2 (uPart_len xs HO.out).1 (uPart_len xs HO.out).2 (uPart_val xs HH.out.2 HO.out).1).mono ?_
      rintro e w2 ⟨rfl, hb2⟩
      have HB2 := Lib.hid (below_step HB.out hb2)
      clear hb2
      rw [(uPart_val xs HH.out.2 HO.out).2]
      go_wp2_with fail
      refine (alive_any _).mono ?_
      rintro e w3 ⟨rfl, hb3⟩
      have HB3 := Lib.hid (below_step HB2.out hb3)
      clear hb3
      go_wp2
      go_ret
      exact ⟨rfl, HB3.out⟩
    · have HO := Lib.hid hok
      clear hok
      go_enter Tryd.func4, Tryd.ntmps4
      go_wp2_with fail
      refine (PFnReadUint.spec_OfUint.calls 14 (fun k => k < w.heap.size) A c xs 0 false w (readB_of hc HH.out.1) (ofUint_no xs HO.out)).mono ?_
      rintro e w1 ⟨rfl, hb1⟩
      have HB := Lib.hid hb1
      clear hb1
      go_wp2
      go_ret
      exact ⟨rfl, HB.out⟩

theorem own : ownKnob Tryd.prog.godebug = none := by kernel_rfl
theorem laidOut : laidOutB Tryd.prog = true := by kernel_rfl
abbrev laidU : List (String × DataW Unit) := [("loop.example/pub-g03261/pub/snmp.ErrIntegerTooLarge", Rows.laid_loop_example_pub_g03261_pub_snmp_ErrIntegerTooLarge)]
theorem door_met (os : Os) (args : Array Value) : laidMetH Tryd.prog laidU ((World.doorLaid Tryd.prog 400 os).forCall (fun _ _ => 0) ⟨#[], args, []⟩).memory :=
  laidMetH_of_parts3 (fuel := 8) (laidMet_of_run' 8 (by kernel_rfl) (by kernel_rfl)) (by kernel_rfl) (by kernel_rfl)
set_option maxRecDepth 100000 in
theorem lifted (os : Os) (started : os.Started) (H : Type) (enc : TypeId × Value → H) :
    ReturnsInHanded {} Tryd.checked os 4 .any (fun w args => (Rows.fnReadUintSpec.pre enc Tryd.prog Tryd.f4 [] false w args ∧ laidMetH Tryd.prog laidU w) ∧ sizedMet enc Tryd.prog Tryd.f4 (OpenSpec.ofChange Rows.fnReadUintSpec) false w args)
      (Rows.fnReadUintSpec.post enc Tryd.prog Tryd.f4 false true false false) := by
  refine returnsInHanded_of_change_and (C := Tryd.checked) (X := fun w _ => laidMetH Tryd.prog laidU w) (fun _ _ _ hh h => h.of_heap hh) own started (by kernel_rfl) Tryd.func4
    (ChangeSpec.witness_shaped (enc := enc) (C := Tryd.checked) (os := os) (X := fun w _ => laidMetH Tryd.prog laidU w) false (World.doorLaid Tryd.prog 400 os) #[.slice none 0 0] 8 rfl (World.shaped_of_RefB (by kernel_rfl) (by kernel_rfl)) (by kernel_rfl) (by kernel_rfl) (by kernel_rfl) (door_met os _)) ?_
  intro W base args ds gs before hval0 hW _ _ hL _
  have hval : ∀ (j : Nat) t v, Tryd.f4.params[j]? = some t → args[j]? = some v → Value.okWide Tryd.prog W .any base t v := hval0
  have hW' := hW
  obtain ⟨p, q, hA0, hV0, rfl, hfz, hnd⟩ := hW
  have hA : DataW.TrodAll enc Tryd.prog W 0 (fun _ => true) true Tryd.f4.params.toList args.toList ds p := hA0
  have hV : DataW.TrodVars enc Tryd.prog W (fun _ => true) ["loop.example/pub-g03261/pub/snmp.ErrIntegerTooLarge"] gs q := hV0
  rw [Tryd.params4] at hA hval
  obtain ⟨v0, vs0, d0, ds0, p0, q0, hargs, rfl, rfl, h0, r0⟩ := trodAll_cons hA
  obtain ⟨rfl, rfl, rfl⟩ := trodAll_nil r0
  obtain rfl : args = #[v0] := by cases args; simp_all
  obtain ⟨g1, rfl⟩ : ∃ g1, gs = [g1] := by
    have hl := vars_length hV
    match gs, hl with
    | [g1], _ => exact ⟨_, rfl⟩
  obtain ⟨A0, len0, cap0, rfl⟩ := okWide_slice Tryd.underlying23 (hval 0 23 v0 rfl rfl)
  have k0 := h0
  have lt0 : ∀ x ∈ p0, x.block < W.heap.size := by obtain ⟨m, hm⟩ := k0; exact DataW.trod_lt m _ _ _ hm
  obtain ⟨z0, w0⟩ : ∃ zs, IsRow .u8 W A0 len0 cap0 zs := by
    obtain ⟨fuel, hf⟩ := h0
    rcases open_ints Tryd.underlying23 Tryd.underlying5 (by kernel_rfl) hf with ⟨hcs, _⟩ | ⟨x, l, c, zs, hcs, _, hl, hm, hz, _, hcell, hwz⟩
    · simp [Value.cells] at hcs
      obtain ⟨rfl, rfl, rfl⟩ := hcs
      exact ⟨[], .inl ⟨rfl, rfl, rfl, rfl⟩⟩
    · simp [Value.cells] at hcs
      obtain ⟨rfl, rfl, rfl⟩ := hcs
      exact ⟨zs, .inr ⟨_, rfl, hl, hm, by simpa using hz, hcell, hwz⟩⟩
  clear hA0 hval0
  simp only [List.append_nil] at hW'
  refine (walk A0 len0 cap0 z0 w0 W).mono fun e W' ⟨he, bel⟩ => ?_
  subst he
  exact ⟨_, rfl, _, _, _, [], _, _, hW', trodAll_mk1 (shut_bool Tryd.underlying4 _), (trodAll_cons_mk (Below.trod laidOut (by kernel_rfl) (of_decide_eq_true (by kernel_rfl)) k0 bel lt0) trodAll_mk0), Below.trodVars laidOut bel (by kernel_rfl) hV, bel.frame _, fun h => by cases h⟩
theorem over : Rows.fnReadUintRow.holds Tryd.pinned (OpenSpec.ofChange Rows.fnReadUintSpec) :=
  OpenClaim.holds_of_wide 4 Tryd.f4 rfl rfl rfl rfl rfl rfl rfl ⟨rfl, rfl, rfl, rfl, rfl⟩ rfl rfl rfl rfl rfl (by kernel_rfl) Tryd.func4 (by kernel_rfl)
    (of_decide_eq_true (by kernel_rfl)) (by unfold Func.isWrapper; first | (rw [if_pos (by decide +kernel)]; kernel_rfl) | (rw [if_neg (by decide +kernel)]; exact ⟨rfl, rfl⟩))
    (fun os started H enc _ => lifted os started H enc)
theorem proved : Rows.FnReadUintCardSaid :=
  Claim7.holds_tied_plain_at .later [] [.sentinel] true (true, "f596c23b150755acb4f3fcad6bbd4c9017fbbb329bdb5159374432f99e1cbe9f") false
    over (fun _ h => by cases h) (by kernel_rfl) (fun _ h => by cases h) fnReadUint_row_tie rfl ⟨rfl, rfl⟩ (by kernel_rfl) rfl
    (fun f fn hf hfn => by
      obtain rfl : f = 4 := Option.some.inj ((show Tryd.prog.funcNamed "loop.example/pub-g03261/laws.FnReadUint" = some 4 by kernel_rfl).symm.trans hf) |>.symm
      obtain rfl : fn = Tryd.f4 := (Option.some.inj (Tryd.func4.symm.trans hfn)).symm
      exact ⟨by kernel_rfl, fun j t ht => by
        rw [Tryd.params4] at ht
        have h3 : t = 23 := by
          match j with
          | 0 => simp at ht; subst ht; simp
          | j + 1 => simp at ht
        rcases h3 with rfl
        exact (show Tryd.prog.wantsStandIn 23 = false by kernel_rfl)⟩)
    (by kernel_rfl)
#print axioms proved
end Go.Proofs.YtacbdhklfgapkaaDoor.fnReadUint
