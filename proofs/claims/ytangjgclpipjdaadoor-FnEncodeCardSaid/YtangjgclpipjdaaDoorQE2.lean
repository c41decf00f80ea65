/- The lemmas and walks that FnEncode rests on, part 2: PFnValuex0 PFnValuex8 PFnValuex3. -/
import Derived.Test.YtangjgclpipjdaaDoorProg
import Derived.Below
import Derived.Deep.Draws
import Derived.Deep.AppendLies
import Derived.Maps.AppendAt
import Derived.OwnWalk
import Derived.Laws.BytesArg
import Derived.Laws.MakeOwn
import Derived.Laws.OwnMore
import Derived.Deep.OwnRows
import Derived.Tactics
import Derived.Lib.ConvBytes
import Derived.Laws.Slices
import Derived.WalkKit
import Derived.KernelRfl
import Derived.RowKit3
import Derived.Deep.LoopGhost
import Derived.Deep.QuietTactic
import Derived.BigQuiet
import Derived.WideLaws
import Derived.Deep.DeepCutAuto
import Derived.Deep.CutBlock
import Derived.Deep.RegionHeld3
import Derived.Laws.Rows
import Derived.Lib.AppendStr
import Derived.ArgAppend
import Derived.Laws.IdiomCopy
import Derived.OrdersHeld
import Derived.Laws.BitsLemmas
import Derived.RowKit
import Derived.Laws.StructEq
import Derived.Test.YtangjgclpipjdaaDoorQE1
namespace Go.Proofs.YtangjgclpipjdaaDoor.PFnValue
open Go.RowKit Go.Proofs.YtangjgclpipjdaaDoorW.PrintWords Go.Proofs.YtangjgclpipjdaaDoorW.PrintLast Go.Proofs.YtangjgclpipjdaaDoorW.PrintMore
attribute [local go_sem] max2_int min2_int max_two min_two max_three min_three max_four min_four   -- for this text's walks alone
set_option linter.unusedVariables false
set_option linter.unusedSimpArgs false
def errW : Option Int → Value
  | none => .nilIface
  | some c => .iface 0 (.int .i64 c)
theorem errW_none : errW none = .nilIface := rfl
theorem errW_some (c : Int) : errW (some c) = .iface 0 (.int .i64 c) := rfl
theorem info5 : (Tryd.prog.info? 5).map (fun i => (i.zero, i.size, i.bytes)) = some (some (.int .u8 0), 1, 1) := by kernel_rfl
end Go.Proofs.YtangjgclpipjdaaDoor.PFnValue
namespace Go.Proofs.YtangjgclpipjdaaDoor.PFnValue
open Go.RowKit Go.Proofs.YtangjgclpipjdaaDoorW.PrintWords Go.Proofs.YtangjgclpipjdaaDoorW.PrintLast Go.Proofs.YtangjgclpipjdaaDoorW.PrintMore
attribute [local go_sem] max2_int min2_int max_two min_two max_three min_three max_four min_four   -- for this text's walks alone
set_option linter.unusedVariables false
set_option linter.unusedSimpArgs false
mutual
def spec_OfInt.j0 : Nat → List Int → Bool → Option (Int × Bool)
  | 0, _, _ => none
  | k + 1, x0, x14 => if x14 = true then (some (0, false)) else (if 0 < (x0.length : Int) then (if (rd x0 0) > 127 then (spec_OfInt.j1 k x0 (-1)) else (spec_OfInt.j1 k x0 0)) else (none))
def spec_OfInt.j1 : Nat → List Int → Int → Option (Int × Bool)
  | 0, _, _ => none
  | k + 1, x0, x4 => spec_OfInt.l0 k x4 x0 (x0.length : Int) 0
def spec_OfInt.l0 : Nat → Int → List Int → Int → Int → Option (Int × Bool)
  | 0, _, _, _, _ => none
  | k + 1, x4, x19, x20, x21 => if x21 < x20 then (if 0 ≤ x21 then (if x21 < (x19.length : Int) then (spec_OfInt.l0 k (Go.bits .or .i64 (wrap64 (x4 * 256)) (wrap64 (rd x19 x21))) x19 x20 (wrap64 (x21 + 1))) else (none)) else (none)) else (some (x4, true))
end
def spec_OfInt.f (k : Nat) (l0 : List Int) : Option (Int × Bool) := if (l0.length : Int) = 0 then (spec_OfInt.j0 k l0 true) else (spec_OfInt.j0 k l0 (decide ((l0.length : Int) > 8)))
theorem spec_OfInt.mono_l : ∀ k, (∀ y0 y1, LeO (spec_OfInt.j0 k y0 y1) (spec_OfInt.j0 (k + 1) y0 y1)) ∧ (∀ y0 y1, LeO (spec_OfInt.j1 k y0 y1) (spec_OfInt.j1 (k + 1) y0 y1)) ∧ (∀ y0 y1 y2 y3, LeO (spec_OfInt.l0 k y0 y1 y2 y3) (spec_OfInt.l0 (k + 1) y0 y1 y2 y3))
  | 0 => ⟨fun _ _ r h => by simp [spec_OfInt.j0] at h, fun _ _ r h => by simp [spec_OfInt.j1] at h, fun _ _ _ _ r h => by simp [spec_OfInt.l0] at h⟩
  | k + 1 => by
    obtain ⟨ih0, ih1, ih2⟩ := spec_OfInt.mono_l k
    refine ⟨?_, ?_, ?_⟩
    · intro y0 y1
      unfold spec_OfInt.j0
      repeat' first
      | (with_reducible exact ih0 _ _)
      | (with_reducible exact ih1 _ _)
      | (with_reducible exact ih2 _ _ _ _)
      | (with_reducible exact LeO.refl _)
      | (with_reducible exact LeO.none _)
      | (with_reducible refine LeO.ite ?_ ?_)
      | (with_reducible refine LeO.bind ?_ (fun _ => ?_))
      | exact ih0 _ _
      | exact ih1 _ _
      | exact ih2 _ _ _ _
      | exact LeO.none _
      | refine LeO.ite ?_ ?_
      | refine LeO.bind ?_ (fun _ => ?_)
    · intro y0 y1
      unfold spec_OfInt.j1
      repeat' first
      | (with_reducible exact ih0 _ _)
      | (with_reducible exact ih1 _ _)
      | (with_reducible exact ih2 _ _ _ _)
      | (with_reducible exact LeO.refl _)
      | (with_reducible exact LeO.none _)
      | (with_reducible refine LeO.ite ?_ ?_)
      | (with_reducible refine LeO.bind ?_ (fun _ => ?_))
      | exact ih0 _ _
      | exact ih1 _ _
      | exact ih2 _ _ _ _
      | exact LeO.none _
      | refine LeO.ite ?_ ?_
      | refine LeO.bind ?_ (fun _ => ?_)
    · intro y0 y1 y2 y3
      unfold spec_OfInt.l0
      repeat' first
      | (with_reducible exact ih0 _ _)
      | (with_reducible exact ih1 _ _)
      | (with_reducible exact ih2 _ _ _ _)
      | (with_reducible exact LeO.refl _)
      | (with_reducible exact LeO.none _)
      | (with_reducible refine LeO.ite ?_ ?_)
      | (with_reducible refine LeO.bind ?_ (fun _ => ?_))
      | exact ih0 _ _
      | exact ih1 _ _
      | exact ih2 _ _ _ _
      | exact LeO.none _
      | refine LeO.ite ?_ ?_
      | refine LeO.bind ?_ (fun _ => ?_)
theorem spec_OfInt.mono : ∀ a0 k, LeO (spec_OfInt.f k a0) (spec_OfInt.f (k + 1) a0) := by
  intro a0 k
  obtain ⟨ih0, ih1, ih2⟩ := spec_OfInt.mono_l k
  unfold spec_OfInt.f
  repeat' first
      | (with_reducible exact ih0 _ _)
      | (with_reducible exact ih1 _ _)
      | (with_reducible exact ih2 _ _ _ _)
      | (with_reducible exact LeO.refl _)
      | (with_reducible exact LeO.none _)
      | (with_reducible refine LeO.ite ?_ ?_)
      | (with_reducible refine LeO.bind ?_ (fun _ => ?_))
      | exact ih0 _ _
      | exact ih1 _ _
      | exact ih2 _ _ _ _
      | exact LeO.none _
      | refine LeO.ite ?_ ?_
      | refine LeO.bind ?_ (fun _ => ?_)
set_option maxHeartbeats 8000000 in
set_option maxRecDepth 100000 in
theorem spec_OfInt.calls (k : Nat) (A0 : Option Addr) (c0 : Nat) (l0 : List Int) (r1 : Int) (r2 : Bool) (w : World) (hr0 : Kd.C (Kd.int .u8) w A0 l0.length l0) (hc0 : l0.length ≤ c0) (h : spec_OfInt.f k l0 = some (r1, r2)) :
    Calls Tryd.prog 33 #[.slice A0 l0.length c0] w fun e w' => e = .returned (.tuple #[.int .i64 r1, .bool r2]) ∧ Drawn0 w w' := by
  have HR0 := Aside0.mk hr0
  have HC0 := Aside0.mk hc0
  clear hr0 hc0
  have H : (if (l0.length : Int) = 0 then (spec_OfInt.j0 k l0 true) else (spec_OfInt.j0 k l0 (decide ((l0.length : Int) > 8)))) = some (r1, r2) := h
  clear h
  have HC2 := Aside0.mk H
  clear H
  go_enter Tryd.func33, Tryd.ntmps33
  go_upto_region 1 with (fail)
  go_cut [14] (fun v14 wc => ∃ (kq : Nat) (x14_1 : Bool), v14 = .bool x14_1 ∧ Aside0 (spec_OfInt.j0 kq l0 x14_1 = some (r1, r2)) ∧ Aside0 (kq ≤ k) ∧ Drawn0 w wc)
  case first =>
    have H := HC2.out
    clear HC2
    by_cases c3 : (l0.length : Int) = 0
    · rw [if_pos c3] at H
      have c3b0 : ((l0.length : Int) == 0) = true := beq_iff_eq.mpr c3
      have c3b1 : ((l0.length : Int) != 0) = false := bne_eq_false_iff_eq.mpr c3
      clear c3
      (first | rw [c3b0] | (simp only [i64_w, i32_w]; rw [c3b0]) | skip)
      have H' := Aside0.mk H
      clear H
      go_wp2
      go_meet
      case rel => exact ⟨_, (true), (by first | rfl | (simp; done) | (simp [*]; done)), H', ⟨by first | omega | exact Nat.le_refl _⟩, by repeat (first | exact Drawn0.refl _ | apply Drawn0.step)⟩
    · rw [if_neg c3] at H
      have c3b0 : ((l0.length : Int) == 0) = false := beq_eq_false_iff_ne.mpr c3
      have c3b1 : ((l0.length : Int) != 0) = true := bne_iff_ne.mpr c3
      have c3b2 : ¬ (l0 = []) := fun h_ => c3 (by rw [h_]; rfl)
      (first | rw [c3b0] | (simp only [i64_w, i32_w]; rw [c3b0]) | skip)
      have H' := Aside0.mk H
      clear H
      go_wp2
      go_meet
      case rel => exact ⟨_, (decide ((l0.length : Int) > 8)), (by first | rfl | (simp; done) | (simp [*]; done)), H', ⟨by first | omega | exact Nat.le_refl _⟩, by repeat (first | exact Drawn0.refl _ | apply Drawn0.step)⟩
  case rest =>
    clear HC2
    try clear p2
    try clear c3
    try clear c3b0
    try clear c3b1
    try clear c3b2
    obtain ⟨kq, x14_1, rfl, HA, HJ1, ⟨mc1, rfl⟩⟩ := hcut
    cases kq with
    | zero => exact absurd HA.out (by simp [spec_OfInt.j0])
    | succ kj1 =>
      have H := HA.out
      clear HA
      simp only [spec_OfInt.j0] at H
      by_cases c4 : x14_1 = true
      · subst c4
        have H1 : (some (0, false)) = some (r1, r2) := by rw [if_pos rfl] at H; exact H
        clear H
        have H := H1
        clear H1
        simp only [Option.some.injEq, Prod.mk.injEq] at H
        obtain ⟨rfl, rfl⟩ := H
        go_wp2
        go_ret2
        exact ⟨by first | rfl | (simp; done) | (simp [*]; done), by repeat (first | exact Drawn0.refl _ | apply Drawn0.step)⟩
      · replace c4 := Bool.eq_false_iff.mpr c4
        subst c4
        have H1 : (if 0 < (l0.length : Int) then (if (rd l0 0) > 127 then (spec_OfInt.j1 kj1 l0 (-1)) else (spec_OfInt.j1 kj1 l0 0)) else (none)) = some (r1, r2) := by rw [if_neg (show ¬ (false = true) by decide)] at H; exact H
        clear H
        have H := H1
        clear H1
        by_cases c5 : 0 < (l0.length : Int)
        · rw [if_pos c5] at H
          have c5b0 : decide (0 < (l0.length : Int)) = true := decide_eq_true c5
          have c5b1 : decide (0 < l0.length) = true := decide_eq_true (by omega)
          clear c5
          have HC6 := Aside0.mk H
          clear H
          have p306 : 0 ≤ (0 : Int) := (by omega)
          have q306 : 0 < (l0.length : Int) := of_decide_eq_true (by first | (with_reducible assumption) | assumption)
          obtain ⟨ad306, e306, hx306_0⟩ := Kd.at_int HR0.out 0 p306 q306
          cases e306
          have qi306 : (0 < l0.length) = True := eq_true (by omega)
          (try rw [show ((0 : Int)).toNat = 0 from rfl] at hx306_0)
          (try rw [Addr.add_zero'] at hx306_0)
          replace p306 := eq_true p306
          replace q306 := eq_true q306
          go_upto_if 18 with (fail)
          go_cut [4] (fun v4 wc => ∃ (kq : Nat) (x4_5 : Int), v4 = .int .i64 x4_5 ∧ Aside0 (spec_OfInt.j1 kq l0 x4_5 = some (r1, r2)) ∧ Aside0 (kq ≤ kj1) ∧ Drawn0 w wc)
          case first =>
            have H := HC6.out
            clear HC6
            by_cases c7 : (rd l0 0) > 127
            · rw [if_pos c7] at H
              have c7b0 : decide (127 < (rd l0 0)) = true := decide_eq_true c7
              clear c7
              (first | rw [c7b0] | (simp only [i64_w, i32_w]; rw [c7b0]) | skip)
              have H' := Aside0.mk H
              clear H
              go_wp2
              go_meet
              case rel => exact ⟨_, ((-1)), (by first | rfl | (simp; done) | (simp [*]; done)), H', ⟨by have := HJ1.out; first | omega | exact Nat.le_refl _⟩, by repeat (first | exact Drawn0.refl _ | apply Drawn0.step)⟩
            · rw [if_neg c7] at H
              have c7b0 : decide (127 < (rd l0 0)) = false := decide_eq_false c7
              clear c7
              (first | rw [c7b0] | (simp only [i64_w, i32_w]; rw [c7b0]) | skip)
              have H' := Aside0.mk H
              clear H
              go_wp2
              go_meet
              case rel => exact ⟨_, (0), (by first | rfl | (simp; done) | (simp [*]; done)), H', ⟨by have := HJ1.out; first | omega | exact Nat.le_refl _⟩, by repeat (first | exact Drawn0.refl _ | apply Drawn0.step)⟩
          case rest =>
            clear HC6
            try clear c1
            try clear p2
            try clear c3
            try clear c3b0
            try clear c3b1
            try clear c3b2
            try clear p3
            try clear q3
            try clear hx3
            try clear qi3
            try clear c4
            try clear c5
            try clear c5b0
            try clear c5b1
            try clear c7
            try clear c7b0
            try clear hx306_0
            try clear p2
            try clear p306
            try clear q306
            obtain ⟨kq, x4_5, rfl, HA, HJ5, ⟨mc5, rfl⟩⟩ := hcut
            cases kq with
            | zero => exact absurd HA.out (by simp [spec_OfInt.j1])
            | succ kj5 =>
              have H := HA.out
              clear HA
              simp only [spec_OfInt.j1] at H
              have H' := Aside0.mk H
              clear H
              go_wp2
              go_loopg [4, 21] kj5 (fun kq v4 v21 w' => ∃ (x4_3 : Int) (x21_3 : Int), v4 = .int .i64 x4_3 ∧ v21 = .int .i64 x21_3 ∧ Aside0 (spec_OfInt.l0 kq x4_3 l0 (l0.length : Int) x21_3 = some (r1, r2)) ∧ Aside0 (kq ≤ kj5) ∧ Drawn0 w w')
              case atStart => exact ⟨(x4_5), (0), (by first | rfl | (simp; done) | (simp [*]; done)), (by first | rfl | (simp; done) | (simp [*]; done)), H', ⟨Nat.le_refl _⟩, by repeat (first | exact Drawn0.refl _ | apply Drawn0.step)⟩
              case round =>
                clear H'
                try clear c1
                try clear p2
                try clear c3
                try clear c3b0
                try clear c3b1
                try clear c3b2
                try clear p3
                try clear q3
                try clear hx3
                try clear qi3
                try clear c4
                try clear c5
                try clear c5b0
                try clear c5b1
                try clear c7
                try clear c7b0
                try clear hx306_0
                try clear p2
                try clear p3
                try clear p306
                try clear q3
                try clear q306
                obtain ⟨x4_3, x21_3, rfl, rfl, HA, HK3, ⟨m3, rfl⟩⟩ := hrel
                cases gk with
                | zero => exact absurd HA.out (by simp [spec_OfInt.l0])
                | succ k3 =>
                  have H := HA.out
                  clear HA
                  simp only [spec_OfInt.l0] at H
                  by_cases c8 : x21_3 < (l0.length : Int)
                  · rw [if_pos c8] at H
                    have c8b0 : decide (x21_3 < (l0.length : Int)) = true := decide_eq_true c8
                    clear c8
                    by_cases c9 : 0 ≤ x21_3
                    · rw [if_pos c9] at H
                      have c9b0 : decide (0 ≤ x21_3) = true := decide_eq_true c9
                      clear c9
                      by_cases c10 : x21_3 < (l0.length : Int)
                      · rw [if_pos c10] at H
                        have c10b0 : decide (x21_3 < (l0.length : Int)) = true := decide_eq_true c10
                        clear c10
                        have H' := Aside0.mk H
                        clear H
                        have p307 : 0 ≤ (x21_3 : Int) := of_decide_eq_true (by first | (with_reducible assumption) | assumption)
                        have q307 : x21_3 < (l0.length : Int) := of_decide_eq_true (by first | (with_reducible assumption) | assumption)
                        obtain ⟨ad307, e307, hx307_0⟩ := Kd.at_int HR0.out x21_3 p307 q307
                        obtain rfl : ad306 = ad307 := (by injection e307)
                        replace p307 := eq_true p307
                        replace q307 := eq_true q307
                        go_wp2
                        go_roundg k3
                        case measure => have := HJ1.out; have := HJ5.out; have := HK3.out; omega
                        case rel => exact ⟨(Go.bits .or .i64 (wrap64 (x4_3 * 256)) (wrap64 (rd l0 x21_3))), (wrap64 (x21_3 + 1)), (by first | rfl | (simp; done) | (simp [*]; done)), (by first | rfl | (simp; done) | (simp [*]; done)), H', ⟨by have := HJ1.out; have := HJ5.out; have := HK3.out; omega⟩, by repeat (first | exact Drawn0.refl _ | apply Drawn0.step)⟩
                      · rw [if_neg c10] at H
                        exact absurd H (by simp)
                    · rw [if_neg c9] at H
                      exact absurd H (by simp)
                  · rw [if_neg c8] at H
                    have c8b0 : decide (x21_3 < (l0.length : Int)) = false := decide_eq_false c8
                    clear c8
                    simp only [Option.some.injEq, Prod.mk.injEq] at H
                    obtain ⟨rfl, rfl⟩ := H
                    go_wp2
                    go_ret2
                    exact ⟨by first | rfl | (simp; done) | (simp [*]; done), by repeat (first | exact Drawn0.refl _ | apply Drawn0.step)⟩
        · rw [if_neg c5] at H
          exact absurd H (by simp)
mutual
def spec_OfUint.j0 : Nat → List Int → Bool → Option (Int × Bool)
  | 0, _, _ => none
  | k + 1, x0, x15 => if x15 = true then (if 1 ≤ (x0.length : Int) then (spec_OfUint.j1 k (x0.drop 1)) else (none)) else (spec_OfUint.j1 k x0)
def spec_OfUint.j1 : Nat → List Int → Option (Int × Bool)
  | 0, _ => none
  | k + 1, x0 => if (x0.length : Int) = 0 then (spec_OfUint.j2 k x0 true) else (spec_OfUint.j2 k x0 (decide ((x0.length : Int) > 8)))
def spec_OfUint.j2 : Nat → List Int → Bool → Option (Int × Bool)
  | 0, _, _ => none
  | k + 1, x0, x25 => if x25 = true then (some (0, false)) else (spec_OfUint.l0 k 0 x0 (x0.length : Int) 0)
def spec_OfUint.l0 : Nat → Int → List Int → Int → Int → Option (Int × Bool)
  | 0, _, _, _, _ => none
  | k + 1, x4, x26, x27, x28 => if x28 < x27 then (if 0 ≤ x28 then (if x28 < (x26.length : Int) then (spec_OfUint.l0 k (Go.bits .or .u64 (IntKind.u64.wrap (x4 * 256)) (IntKind.u64.wrap (rd x26 x28))) x26 x27 (wrap64 (x28 + 1))) else (none)) else (none)) else (some (x4, true))
end
def spec_OfUint.f (k : Nat) (l0 : List Int) : Option (Int × Bool) := if (l0.length : Int) = 9 then (if 0 < (l0.length : Int) then (spec_OfUint.j0 k l0 ((rd l0 0) == 0)) else (none)) else (spec_OfUint.j0 k l0 false)
theorem spec_OfUint.mono_l : ∀ k, (∀ y0 y1, LeO (spec_OfUint.j0 k y0 y1) (spec_OfUint.j0 (k + 1) y0 y1)) ∧ (∀ y0, LeO (spec_OfUint.j1 k y0) (spec_OfUint.j1 (k + 1) y0)) ∧ (∀ y0 y1, LeO (spec_OfUint.j2 k y0 y1) (spec_OfUint.j2 (k + 1) y0 y1)) ∧ (∀ y0 y1 y2 y3, LeO (spec_OfUint.l0 k y0 y1 y2 y3) (spec_OfUint.l0 (k + 1) y0 y1 y2 y3))
  | 0 => ⟨fun _ _ r h => by simp [spec_OfUint.j0] at h, fun _ r h => by simp [spec_OfUint.j1] at h, fun _ _ r h => by simp [spec_OfUint.j2] at h, fun _ _ _ _ r h => by simp [spec_OfUint.l0] at h⟩
  | k + 1 => by
    obtain ⟨ih0, ih1, ih2, ih3⟩ := spec_OfUint.mono_l k
    refine ⟨?_, ?_, ?_, ?_⟩
    · intro y0 y1
      unfold spec_OfUint.j0
      repeat' first
      | (with_reducible exact ih0 _ _)
      | (with_reducible exact ih1 _)
      | (with_reducible exact ih2 _ _)
      | (with_reducible exact ih3 _ _ _ _)
      | (with_reducible exact LeO.refl _)
      | (with_reducible exact LeO.none _)
      | (with_reducible refine LeO.ite ?_ ?_)
      | (with_reducible refine LeO.bind ?_ (fun _ => ?_))
      | exact ih0 _ _
      | exact ih1 _
      | exact ih2 _ _
      | exact ih3 _ _ _ _
      | exact LeO.none _
      | refine LeO.ite ?_ ?_
      | refine LeO.bind ?_ (fun _ => ?_)
    · intro y0
      unfold spec_OfUint.j1
      repeat' first
      | (with_reducible exact ih0 _ _)
      | (with_reducible exact ih1 _)
      | (with_reducible exact ih2 _ _)
      | (with_reducible exact ih3 _ _ _ _)
      | (with_reducible exact LeO.refl _)
      | (with_reducible exact LeO.none _)
      | (with_reducible refine LeO.ite ?_ ?_)
      | (with_reducible refine LeO.bind ?_ (fun _ => ?_))
      | exact ih0 _ _
      | exact ih1 _
      | exact ih2 _ _
      | exact ih3 _ _ _ _
      | exact LeO.none _
      | refine LeO.ite ?_ ?_
      | refine LeO.bind ?_ (fun _ => ?_)
    · intro y0 y1
      unfold spec_OfUint.j2
      repeat' first
      | (with_reducible exact ih0 _ _)
      | (with_reducible exact ih1 _)
      | (with_reducible exact ih2 _ _)
      | (with_reducible exact ih3 _ _ _ _)
      | (with_reducible exact LeO.refl _)
      | (with_reducible exact LeO.none _)
      | (with_reducible refine LeO.ite ?_ ?_)
      | (with_reducible refine LeO.bind ?_ (fun _ => ?_))
      | exact ih0 _ _
      | exact ih1 _
      | exact ih2 _ _
      | exact ih3 _ _ _ _
      | exact LeO.none _
      | refine LeO.ite ?_ ?_
      | refine LeO.bind ?_ (fun _ => ?_)
    · intro y0 y1 y2 y3
      unfold spec_OfUint.l0
      repeat' first
      | (with_reducible exact ih0 _ _)
      | (with_reducible exact ih1 _)
      | (with_reducible exact ih2 _ _)
      | (with_reducible exact ih3 _ _ _ _)
      | (with_reducible exact LeO.refl _)
      | (with_reducible exact LeO.none _)
      | (with_reducible refine LeO.ite ?_ ?_)
      | (with_reducible refine LeO.bind ?_ (fun _ => ?_))
      | exact ih0 _ _
      | exact ih1 _
      | exact ih2 _ _
      | exact ih3 _ _ _ _
      | exact LeO.none _
      | refine LeO.ite ?_ ?_
      | refine LeO.bind ?_ (fun _ => ?_)
theorem spec_OfUint.mono : ∀ a0 k, LeO (spec_OfUint.f k a0) (spec_OfUint.f (k + 1) a0) := by
  intro a0 k
  obtain ⟨ih0, ih1, ih2, ih3⟩ := spec_OfUint.mono_l k
  unfold spec_OfUint.f
  repeat' first
      | (with_reducible exact ih0 _ _)
      | (with_reducible exact ih1 _)
      | (with_reducible exact ih2 _ _)
      | (with_reducible exact ih3 _ _ _ _)
      | (with_reducible exact LeO.refl _)
      | (with_reducible exact LeO.none _)
      | (with_reducible refine LeO.ite ?_ ?_)
      | (with_reducible refine LeO.bind ?_ (fun _ => ?_))
      | exact ih0 _ _
      | exact ih1 _
      | exact ih2 _ _
      | exact ih3 _ _ _ _
      | exact LeO.none _
      | refine LeO.ite ?_ ?_
      | refine LeO.bind ?_ (fun _ => ?_)
set_option maxHeartbeats 8000000 in
set_option maxRecDepth 100000 in
theorem spec_OfUint.calls (k : Nat) (P0_ : Nat → Prop) (A0 : Option Addr) (c0 : Nat) (l0 : List Int) (r1 : Int) (r2 : Bool) (w : World) (hs0 : Kd.V (Kd.int .u8) 5 w w.heap.size (fun k_ => P0_ k_) (.slice A0 l0.length c0) l0) (h : spec_OfUint.f k l0 = some (r1, r2)) :
    Calls Tryd.prog 35 #[.slice A0 l0.length c0] w fun e w' => e = .returned (.tuple #[.int .u64 r1, .bool r2]) ∧ Below w.heap.size w w' := by
  have HO0 := Aside0.mk (show Kd.V (Kd.int .u8) 5 w w.heap.size (fun k_ => (P0_ k_ ∨ w.heap.size ≤ k_)) (.slice A0 l0.length c0) l0 from Kd.V_mono hs0 (fun k_ hk => .inl hk))
  have HB := Aside0.mk (Below.refl w.heap.size w)
  have H : (if (l0.length : Int) = 9 then (if 0 < (l0.length : Int) then (spec_OfUint.j0 k l0 ((rd l0 0) == 0)) else (none)) else (spec_OfUint.j0 k l0 false)) = some (r1, r2) := h
  clear h
  have HC2 := Aside0.mk H
  clear H
  go_enter Tryd.func35, Tryd.ntmps35
  go_upto_region 1 with (fail)
  go_cut [15] (fun v15 wc => ∃ (kq : Nat) (x15_1 : Bool), v15 = .bool x15_1 ∧ Aside0 (spec_OfUint.j0 kq l0 x15_1 = some (r1, r2)) ∧ Aside0 (kq ≤ k) ∧ Aside0 (Kd.V (Kd.int .u8) 5 wc w.heap.size (fun k_ => (P0_ k_ ∨ w.heap.size ≤ k_)) (.slice A0 l0.length c0) l0) ∧ Aside0 (Below w.heap.size w wc))
  case first =>
    have H := HC2.out
    clear HC2
    by_cases c3 : (l0.length : Int) = 9
    · rw [if_pos c3] at H
      have c3b0 : ((l0.length : Int) == 9) = true := beq_iff_eq.mpr c3
      have c3b1 : ((l0.length : Int) != 9) = false := bne_eq_false_iff_eq.mpr c3
      clear c3
      (first | rw [c3b0] | (simp only [i64_w, i32_w]; rw [c3b0]) | skip)
      by_cases c4 : 0 < (l0.length : Int)
      · rw [if_pos c4] at H
        have c4b0 : decide (0 < (l0.length : Int)) = true := decide_eq_true c4
        have c4b1 : decide (0 < l0.length) = true := decide_eq_true (by omega)
        clear c4
        have H' := Aside0.mk H
        clear H
        have p308 : 0 ≤ (0 : Int) := (by omega)
        have q308 : 0 < (l0.length : Int) := of_decide_eq_true (by first | (with_reducible assumption) | assumption)
        obtain ⟨ad308, e308, hx308_0⟩ := Kd.at_int (Kd.V_reads' HO0.out).2.2 0 p308 q308
        cases e308
        have qi308 : (0 < l0.length) = True := eq_true (by omega)
        (try rw [show ((0 : Int)).toNat = 0 from rfl] at hx308_0)
        (try rw [Addr.add_zero'] at hx308_0)
        replace p308 := eq_true p308
        replace q308 := eq_true q308
        go_wp2
        go_meet
        case rel => exact ⟨_, (((rd l0 0) == 0)), (by first | rfl | (simp; done) | (simp [*]; done)), H', ⟨by first | omega | exact Nat.le_refl _⟩, ⟨by (with_reducible repeat (first | apply Kd.V_alloc | apply Kd.V_drewN | apply Kd.V_drew)); exact HO0.out⟩, ⟨by repeat (first | (with_reducible first | exact HB.out | apply below_alloc | apply pw_below_drewN | apply below_drew1) | exact HB.out)⟩⟩
      · rw [if_neg c4] at H
        exact absurd H (by simp)
    · rw [if_neg c3] at H
      have c3b0 : ((l0.length : Int) == 9) = false := beq_eq_false_iff_ne.mpr c3
      have c3b1 : ((l0.length : Int) != 9) = true := bne_iff_ne.mpr c3
      (first | rw [c3b0] | (simp only [i64_w, i32_w]; rw [c3b0]) | skip)
      have H' := Aside0.mk H
      clear H
      go_wp2
      go_meet
      case rel => exact ⟨_, (false), (by first | rfl | (simp; done) | (simp [*]; done)), H', ⟨by first | omega | exact Nat.le_refl _⟩, ⟨by (with_reducible repeat (first | apply Kd.V_alloc | apply Kd.V_drewN | apply Kd.V_drew)); exact HO0.out⟩, ⟨by repeat (first | (with_reducible first | exact HB.out | apply below_alloc | apply pw_below_drewN | apply below_drew1) | exact HB.out)⟩⟩
  case rest =>
    clear HC2
    try clear p2
    try clear c3
    try clear c3b0
    try clear c3b1
    try clear p3
    try clear q3
    try clear hx3
    try clear qi3
    try clear c4
    try clear c4b0
    try clear c4b1
    try clear hx308_0
    try clear p308
    try clear q308
    obtain ⟨kq, x15_1, rfl, HA, HJ1, HO_0, HB⟩ := hcut
    cases kq with
    | zero => exact absurd HA.out (by simp [spec_OfUint.j0])
    | succ kj1 =>
      have H := HA.out
      clear HA
      simp only [spec_OfUint.j0] at H
      have HC5 := Aside0.mk H
      clear H
      go_upto_if 15 with (fail)
      go_cut [0] (fun v0 wc => ∃ (kq : Nat) (x0_4 : List Int), Aside0 (spec_OfUint.j1 kq x0_4 = some (r1, r2)) ∧ Aside0 (kq ≤ kj1) ∧ Aside0 (Kd.V (Kd.int .u8) 5 wc w.heap.size (fun k_ => (P0_ k_ ∨ w.heap.size ≤ k_)) v0 x0_4) ∧ Aside0 (Below w.heap.size w wc))
      case first =>
        have H := HC5.out
        clear HC5
        by_cases c6 : x15_1 = true
        · subst c6
          have H1 : (if 1 ≤ (l0.length : Int) then (spec_OfUint.j1 kj1 (l0.drop 1)) else (none)) = some (r1, r2) := by rw [if_pos rfl] at H; exact H
          clear H
          have H := H1
          clear H1
          by_cases c7 : 1 ≤ (l0.length : Int)
          · rw [if_pos c7] at H
            have c7b0 := eq_true c7
            have c7b1 : decide (1 ≤ (l0.length : Int)) = true := decide_eq_true c7
            clear c7
            obtain ⟨y309, hy309⟩ : ∃ y_ : List Int, y_ = (l0.drop 1) := ⟨_, rfl⟩
            replace H : (spec_OfUint.j1 kj1 y309) = some (r1, r2) := by first | (rw [hy309]; with_reducible exact H) | (have H2_ := (Option.bind_some _ _).symm.trans H; rw [hy309]; with_reducible exact H2_) | (have H2_ := (Option.bind_some _ _).symm.trans H; with_reducible exact H2_) | with_reducible exact H | (rw [hy309]; exact H) | exact H
            have Ny309 := Aside0.mk hy309
            clear hy309
            have H' := Aside0.mk H
            clear H
            have q8 : (1 : Int) ≤ ((l0.length : Int) : Int) := of_decide_eq_true (by first | (with_reducible assumption) | assumption)
            obtain ⟨i08, hi08, _, hsz8, _⟩ := info_parts info5
            have hroom8 : l0.length ≤ c0 := (Kd.V_reads' HO_0.out).2.1
            have hC8 : Kd.F (Kd.int .u8) _ _ A0 l0.length l0 := (Kd.V_at (base := w.heap.size) HO_0.out).2.2
            have hcut8 := cut_from (P := Tryd.prog) 26 5 .i64 Tryd.underlying26 hi08 1 hsz8 A0 l0.length c0 1 (by omega) q8
            have hr8 := Kd.F_cut (m := (1 : Int).toNat) (c := c0) hC8 (by omega) hroom8
            obtain ⟨A8, hA8⟩ : ∃ A1, A1 = (if c0 = (1 : Int).toNat then A0 else (A0 : Option Addr).map (·.add ((1 : Int).toNat * 1))) := ⟨_, rfl⟩
            obtain ⟨c8, hc8⟩ : ∃ c1, c1 = c0 - (1 : Int).toNat := ⟨_, rfl⟩
            have hy8 : y309.length = l0.length - (1 : Int).toNat := (by rw [Ny309.out, List.length_drop] <;> omega)
            rw [show (l0).drop (1 : Int).toNat = y309 from Ny309.out.symm] at hr8
            replace hr8 : Kd.F (Kd.int .u8) _ _ A8 y309.length y309 := (by rw [hA8]; exact hr8)
            rw [← hy8, ← hA8, ← hc8] at hcut8
            have HO313 := Aside0.mk (show Kd.V (Kd.int .u8) 5 _ w.heap.size _ (.slice A8 y309.length c8) y309 from Kd.V_mk (by rw [hy8, hc8]; exact Nat.sub_le_sub_right hroom8 _) hr8)
            have HC313 := Aside0.mk (show y309.length ≤ c8 from by rw [hy8, hc8]; exact Nat.sub_le_sub_right hroom8 _)
            clear hr8 hC8 hroom8 hi08 hsz8 hc8
            have KY8 := Aside0.mk hy8
            have KA8 := Aside0.mk hA8
            clear hy8 hA8
            replace q8 := eq_true q8
            go_wp2
            go_meet
            case rel => exact ⟨_, (y309), H', ⟨by have := HJ1.out; first | omega | exact Nat.le_refl _⟩, ⟨by (with_reducible repeat (first | apply Kd.V_alloc | apply Kd.V_drewN | apply Kd.V_drew)); exact HO313.out⟩, ⟨by repeat (first | (with_reducible first | exact HB.out | apply below_alloc | apply pw_below_drewN | apply below_drew1) | exact HB.out)⟩⟩
          · rw [if_neg c7] at H
            exact absurd H (by simp)
        · replace c6 := Bool.eq_false_iff.mpr c6
          subst c6
          have H1 : (spec_OfUint.j1 kj1 l0) = some (r1, r2) := by rw [if_neg (show ¬ (false = true) by decide)] at H; exact H
          clear H
          have H := H1
          clear H1
          have H' := Aside0.mk H
          clear H
          go_wp2
          go_meet
          case rel => exact ⟨_, (l0), H', ⟨by have := HJ1.out; first | omega | exact Nat.le_refl _⟩, ⟨by (with_reducible repeat (first | apply Kd.V_alloc | apply Kd.V_drewN | apply Kd.V_drew)); exact HO_0.out⟩, ⟨by repeat (first | (with_reducible first | exact HB.out | apply below_alloc | apply pw_below_drewN | apply below_drew1) | exact HB.out)⟩⟩
      case rest =>
        clear HC5
        try clear c1
        try clear p2
        try clear c3
        try clear c3b0
        try clear c3b1
        try clear p3
        try clear q3
        try clear hx3
        try clear qi3
        try clear c4
        try clear c4b0
        try clear c4b1
        try clear c6
        try clear c7
        try clear c7b0
        try clear c7b1
        try clear c8
        try clear q8
        try clear hx308_0
        try clear p2
        try clear p3
        try clear p308
        try clear q3
        try clear q308
        try clear q8
        obtain ⟨kq, x0_4, HA, HJ4, HO_0, HB⟩ := hcut
        cases kq with
        | zero => exact absurd HA.out (by simp [spec_OfUint.j1])
        | succ kj4 =>
          have H := HA.out
          clear HA
          simp only [spec_OfUint.j1] at H
          have HC9 := Aside0.mk H
          clear H
          go_upto_region 3 with (fail)
          go_cut [25] (fun v25 wc => ∃ (kq : Nat) (x25_8 : Bool), v25 = .bool x25_8 ∧ Aside0 (spec_OfUint.j2 kq x0_4 x25_8 = some (r1, r2)) ∧ Aside0 (kq ≤ kj4) ∧ Aside0 (Kd.V (Kd.int .u8) 5 wc w.heap.size (fun k_ => (P0_ k_ ∨ w.heap.size ≤ k_)) u0 x0_4) ∧ Aside0 (Below w.heap.size w wc))
          case first =>
            have H := HC9.out
            clear HC9
            by_cases c10 : (x0_4.length : Int) = 0
            · rw [if_pos c10] at H
              have c10b0 : ((x0_4.length : Int) == 0) = true := beq_iff_eq.mpr c10
              have c10b1 : ((x0_4.length : Int) != 0) = false := bne_eq_false_iff_eq.mpr c10
              clear c10
              (first | rw [c10b0] | (simp only [i64_w, i32_w]; rw [c10b0]) | skip)
              have H' := Aside0.mk H
              clear H
              obtain ⟨Ao11, co11, eo11⟩ := Kd.V_slice HO_0.out
              subst eo11
              go_wp2
              go_meet
              case rel => exact ⟨_, (true), (by first | rfl | (simp; done) | (simp [*]; done)), H', ⟨by have := HJ1.out; have := HJ4.out; first | omega | exact Nat.le_refl _⟩, ⟨by (with_reducible repeat (first | apply Kd.V_alloc | apply Kd.V_drewN | apply Kd.V_drew)); exact HO_0.out⟩, ⟨by repeat (first | (with_reducible first | exact HB.out | apply below_alloc | apply pw_below_drewN | apply below_drew1) | exact HB.out)⟩⟩
            · rw [if_neg c10] at H
              have c10b0 : ((x0_4.length : Int) == 0) = false := beq_eq_false_iff_ne.mpr c10
              have c10b1 : ((x0_4.length : Int) != 0) = true := bne_iff_ne.mpr c10
              have c10b2 : ¬ (x0_4 = []) := fun h_ => c10 (by rw [h_]; rfl)
              (first | rw [c10b0] | (simp only [i64_w, i32_w]; rw [c10b0]) | skip)
              have H' := Aside0.mk H
              clear H
              obtain ⟨Ao12, co12, eo12⟩ := Kd.V_slice HO_0.out
              subst eo12
              go_wp2
              go_meet
              case rel => exact ⟨_, (decide ((x0_4.length : Int) > 8)), (by first | rfl | (simp; done) | (simp [*]; done)), H', ⟨by have := HJ1.out; have := HJ4.out; first | omega | exact Nat.le_refl _⟩, ⟨by (with_reducible repeat (first | apply Kd.V_alloc | apply Kd.V_drewN | apply Kd.V_drew)); exact HO_0.out⟩, ⟨by repeat (first | (with_reducible first | exact HB.out | apply below_alloc | apply pw_below_drewN | apply below_drew1) | exact HB.out)⟩⟩
          case rest =>
            clear HC9
            try clear c1
            try clear p2
            try clear c3
            try clear c3b0
            try clear c3b1
            try clear p3
            try clear q3
            try clear hx3
            try clear qi3
            try clear c4
            try clear c4b0
            try clear c4b1
            try clear c6
            try clear c7
            try clear c7b0
            try clear c7b1
            try clear c8
            try clear q8
            try clear c10
            try clear c10b0
            try clear c10b1
            try clear c10b2
            try clear hx308_0
            try clear p2
            try clear p3
            try clear p308
            try clear q3
            try clear q308
            try clear q8
            obtain ⟨kq, x25_8, rfl, HA, HJ8, HO_0, HB⟩ := hcut
            cases kq with
            | zero => exact absurd HA.out (by simp [spec_OfUint.j2])
            | succ kj8 =>
              have H := HA.out
              clear HA
              simp only [spec_OfUint.j2] at H
              by_cases c13 : x25_8 = true
              · subst c13
                have H1 : (some (0, false)) = some (r1, r2) := by rw [if_pos rfl] at H; exact H
                clear H
                have H := H1
                clear H1
                simp only [Option.some.injEq, Prod.mk.injEq] at H
                obtain ⟨rfl, rfl⟩ := H
                go_wp2
                go_ret2
                exact ⟨by first | rfl | (simp [errW_none, errW_some] <;> rfl) | (simp [*, errW_none, errW_some] <;> rfl), by repeat (first | (with_reducible first | exact HB.out | apply below_alloc | apply pw_below_drewN | apply below_drew1) | exact HB.out)⟩
              · replace c13 := Bool.eq_false_iff.mpr c13
                subst c13
                have H1 : (spec_OfUint.l0 kj8 0 x0_4 (x0_4.length : Int) 0) = some (r1, r2) := by rw [if_neg (show ¬ (false = true) by decide)] at H; exact H
                clear H
                have H := H1
                clear H1
                have H' := Aside0.mk H
                clear H
                obtain ⟨Ao14, co14, eo14⟩ := Kd.V_slice HO_0.out
                subst eo14
                go_wp2
                go_loopg [4, 28] kj8 (fun kq v4 v28 w' => ∃ (x4_4 : Int) (x28_4 : Int), v4 = .int .u64 x4_4 ∧ v28 = .int .i64 x28_4 ∧ Aside0 (spec_OfUint.l0 kq x4_4 x0_4 (x0_4.length : Int) x28_4 = some (r1, r2)) ∧ Aside0 (kq ≤ kj8) ∧ Aside0 (Kd.V (Kd.int .u8) 5 w' w.heap.size (fun k_ => (P0_ k_ ∨ w.heap.size ≤ k_)) (.slice Ao14 x0_4.length co14) x0_4) ∧ Aside0 (Below w.heap.size w w'))
                case atStart => exact ⟨(0), (0), (by first | rfl | (simp; done) | (simp [*]; done)), (by first | rfl | (simp; done) | (simp [*]; done)), H', ⟨Nat.le_refl _⟩, ⟨by (with_reducible repeat (first | apply Kd.V_alloc | apply Kd.V_drewN | apply Kd.V_drew)); exact HO_0.out⟩, ⟨by repeat (first | (with_reducible first | exact HB.out | apply below_alloc | apply pw_below_drewN | apply below_drew1) | exact HB.out)⟩⟩
                case round =>
                  clear H'
                  try clear c1
                  try clear p2
                  try clear c3
                  try clear c3b0
                  try clear c3b1
                  try clear p3
                  try clear q3
                  try clear hx3
                  try clear qi3
                  try clear c4
                  try clear c4b0
                  try clear c4b1
                  try clear c6
                  try clear c7
                  try clear c7b0
                  try clear c7b1
                  try clear c8
                  try clear q8
                  try clear c10
                  try clear c10b0
                  try clear c10b1
                  try clear c10b2
                  try clear c13
                  try clear hx308_0
                  try clear p2
                  try clear p3
                  try clear p308
                  try clear q3
                  try clear q308
                  try clear q8
                  obtain ⟨x4_4, x28_4, rfl, rfl, HA, HK4, HO_26, HB⟩ := hrel
                  cases gk with
                  | zero => exact absurd HA.out (by simp [spec_OfUint.l0])
                  | succ k4 =>
                    have H := HA.out
                    clear HA
                    simp only [spec_OfUint.l0] at H
                    by_cases c15 : x28_4 < (x0_4.length : Int)
                    · rw [if_pos c15] at H
                      have c15b0 : decide (x28_4 < (x0_4.length : Int)) = true := decide_eq_true c15
                      clear c15
                      by_cases c16 : 0 ≤ x28_4
                      · rw [if_pos c16] at H
                        have c16b0 : decide (0 ≤ x28_4) = true := decide_eq_true c16
                        clear c16
                        by_cases c17 : x28_4 < (x0_4.length : Int)
                        · rw [if_pos c17] at H
                          have c17b0 : decide (x28_4 < (x0_4.length : Int)) = true := decide_eq_true c17
                          clear c17
                          have H' := Aside0.mk H
                          clear H
                          have p314 : 0 ≤ (x28_4 : Int) := of_decide_eq_true (by first | (with_reducible assumption) | assumption)
                          have q314 : x28_4 < (x0_4.length : Int) := of_decide_eq_true (by first | (with_reducible assumption) | assumption)
                          obtain ⟨ad314, e314, hx314_0⟩ := Kd.at_int (Kd.V_reads' HO_26.out).2.2 x28_4 p314 q314
                          cases e314
                          replace p314 := eq_true p314
                          replace q314 := eq_true q314
                          go_wp2
                          go_roundg k4
                          case measure => have := HJ1.out; have := HJ4.out; have := HJ8.out; have := HK4.out; omega
                          case rel => exact ⟨(Go.bits .or .u64 (IntKind.u64.wrap (x4_4 * 256)) (IntKind.u64.wrap (rd x0_4 x28_4))), (wrap64 (x28_4 + 1)), (by first | rfl | (simp; done) | (simp [*]; done)), (by first | rfl | (simp; done) | (simp [*]; done)), H', ⟨by have := HJ1.out; have := HJ4.out; have := HJ8.out; have := HK4.out; omega⟩, ⟨by (with_reducible repeat (first | apply Kd.V_alloc | apply Kd.V_drewN | apply Kd.V_drew)); exact HO_26.out⟩, ⟨by repeat (first | (with_reducible first | exact HB.out | apply below_alloc | apply pw_below_drewN | apply below_drew1) | exact HB.out)⟩⟩
                        · rw [if_neg c17] at H
                          exact absurd H (by simp)
                      · rw [if_neg c16] at H
                        exact absurd H (by simp)
                    · rw [if_neg c15] at H
                      have c15b0 : decide (x28_4 < (x0_4.length : Int)) = false := decide_eq_false c15
                      clear c15
                      simp only [Option.some.injEq, Prod.mk.injEq] at H
                      obtain ⟨rfl, rfl⟩ := H
                      go_wp2
                      go_ret2
                      exact ⟨by first | rfl | (simp [errW_none, errW_some] <;> rfl) | (simp [*, errW_none, errW_some] <;> rfl), by repeat (first | (with_reducible first | exact HB.out | apply below_alloc | apply pw_below_drewN | apply below_drew1) | exact HB.out)⟩
end Go.Proofs.YtangjgclpipjdaaDoor.PFnValue
namespace Go.Proofs.YtangjgclpipjdaaDoor.PFnValue
open Go.RowKit Go.Proofs.YtangjgclpipjdaaDoorW.PrintWords Go.Proofs.YtangjgclpipjdaaDoorW.PrintLast Go.Proofs.YtangjgclpipjdaaDoorW.PrintMore
attribute [local go_sem] max2_int min2_int max_two min_two max_three min_three max_four min_four   -- for this text's walks alone
set_option linter.unusedVariables false
set_option linter.unusedSimpArgs false
def spec_Int.l0 : Nat → Int → List Int → Option (List Int)
  | 0, _, _ => none
  | k + 1, x0, x3 => if x0 < (-128) then ((some (([(x0 / 256) % 256] : List Int) : List Int)).bind fun y135 => (if y135.length + x3.length < 140737488355328 then (spec_Int.l0 k (x0 / 256) (y135 ++ x3)) else (none))) else (if x0 > 127 then ((some (([(x0 / 256) % 256] : List Int) : List Int)).bind fun y141 => (if y141.length + x3.length < 140737488355328 then (spec_Int.l0 k (x0 / 256) (y141 ++ x3)) else (none))) else (some x3))
def spec_Int.f (k : Nat) (a0 : Int) : Option (List Int) := spec_Int.l0 k a0 (([(a0) % 256] : List Int))
theorem spec_Int.mono_l : ∀ k, (∀ y0 y1, LeO (spec_Int.l0 k y0 y1) (spec_Int.l0 (k + 1) y0 y1))
  | 0 => fun _ _ r h => by simp [spec_Int.l0] at h
  | k + 1 => by
    have ih0 := spec_Int.mono_l k
    · intro y0 y1
      unfold spec_Int.l0
      repeat' first
      | (with_reducible exact ih0 _ _)
      | (with_reducible exact LeO.refl _)
      | (with_reducible exact LeO.none _)
      | (with_reducible refine LeO.ite ?_ ?_)
      | (with_reducible refine LeO.bind ?_ (fun _ => ?_))
      | exact ih0 _ _
      | exact LeO.none _
      | refine LeO.ite ?_ ?_
      | refine LeO.bind ?_ (fun _ => ?_)
theorem spec_Int.mono : ∀ a0 k, LeO (spec_Int.f k a0) (spec_Int.f (k + 1) a0) := by
  intro a0 k
  have ih0 := spec_Int.mono_l k
  unfold spec_Int.f
  repeat' first
      | (with_reducible exact ih0 _ _)
      | (with_reducible exact LeO.refl _)
      | (with_reducible exact LeO.none _)
      | (with_reducible refine LeO.ite ?_ ?_)
      | (with_reducible refine LeO.bind ?_ (fun _ => ?_))
      | exact ih0 _ _
      | exact LeO.none _
      | refine LeO.ite ?_ ?_
      | refine LeO.bind ?_ (fun _ => ?_)
set_option maxHeartbeats 8000000 in
set_option maxRecDepth 100000 in
theorem spec_Int.calls (k : Nat) (a0 : Int) (r : List Int) (w : World) (h : spec_Int.f k a0 = some r) :
    Calls Tryd.prog 42 #[.int .i64 a0] w fun e w' => ∃ v0_ : Value, e = .returned (v0_) ∧ Kd.R (Kd.int .u8) 5 w' w.heap.size (fun _ => True) v0_ r ∧ Below w.heap.size w w' := by
  have HB := Aside0.mk (Below.refl w.heap.size w)
  have H : (spec_Int.l0 k a0 (([(a0) % 256] : List Int))) = some r := h
  clear h
  obtain ⟨y132, hy132⟩ : ∃ y_ : List Int, y_ = (([(a0) % 256] : List Int)) := ⟨_, rfl⟩
  replace H : (spec_Int.l0 k a0 y132) = some r := by first | (rw [hy132]; with_reducible exact H) | (have H2_ := (Option.bind_some _ _).symm.trans H; rw [hy132]; with_reducible exact H2_) | (have H2_ := (Option.bind_some _ _).symm.trans H; with_reducible exact H2_) | with_reducible exact H | (rw [hy132]; exact H) | exact H
  have Ny132 := Aside0.mk hy132
  clear hy132
  have H' := Aside0.mk H
  clear H
  go_enter Tryd.func42, Tryd.ntmps42
  go_wp2_with (first | ((with_reducible refine gate_dst (N := 6) rfl ?_); refine Kd.R_lit (Kd.int .u8) _ 5 ?hg (N := 6) ?hd (xs := ([(a0) % 256] : List Int)) (inner := [.int .u8 ((a0) % 256)]) (ok := fun _ => True) (okp := fun _ => True) ?hr ?hp (fun _ hk => hk) trivial (Below.refl _ _) (Nat.le_refl _) (by simp) ?_; (case hd => rfl); (case hg => rfl); (case hr => first | (go_simp; done) | (go_simp; rfl)); (case hp => exact (Reps.one (show Kd.M (Kd.int .u8) _ _ _ ((a0) % 256) [.int .u8 ((a0) % 256)] from rfl) (Reps.none _ _))); intro v133 w2 ho3 hb hg_ hnew_; clear hg_ hnew_; (first | rw [← Ny132.out] at ho3 | (simp only [Int.reduceToNat] at ho3; rw [← Ny132.out] at ho3)); have n0_ := Aside0.mk (Kd.R_lower ho3 (below_size (by repeat (first | (with_reducible first | exact HB.out | apply below_alloc | apply pw_below_drewN | apply below_drew1) | exact HB.out)))); have n1_ := Aside0.mk (below_step (by repeat (first | (with_reducible first | exact HB.out | apply below_alloc | apply pw_below_drewN | apply below_drew1) | exact HB.out)) hb); clear HB; have HO134 := n0_; have HB := n1_; clear n0_ n1_; clear hb ho3))
  go_loopg [0, 3] k (fun kq v0 v3 w' => ∃ (x0_1 : Int) (x3_1 : List Int), v0 = .int .i64 x0_1 ∧ Aside0 (spec_Int.l0 kq x0_1 x3_1 = some r) ∧ Aside0 (kq ≤ k) ∧ Aside0 (Kd.R (Kd.int .u8) 5 w' w.heap.size (fun _ => True) v3 x3_1) ∧ Aside0 (Below w.heap.size w w'))
  case atStart => exact ⟨(a0), (y132), (by first | rfl | (simp; done) | (simp [*]; done)), H', ⟨Nat.le_refl _⟩, ⟨by (with_reducible repeat (first | apply Kd.R_alloc | apply Kd.R_drewN | apply Kd.R_drew)); exact HO134.out⟩, ⟨by repeat (first | (with_reducible first | exact HB.out | apply below_alloc | apply pw_below_drewN | apply below_drew1) | exact HB.out)⟩⟩
  case round =>
    clear H'
    try clear p2
    obtain ⟨x0_1, x3_1, rfl, HA, HK1, HO_3, HB⟩ := hrel
    cases gk with
    | zero => exact absurd HA.out (by simp [spec_Int.l0])
    | succ k1 =>
      have H := HA.out
      clear HA
      simp only [spec_Int.l0] at H
      by_cases c4 : x0_1 < (-128)
      · rw [if_pos c4] at H
        have c4b0 : decide (x0_1 < (-128)) = true := decide_eq_true c4
        clear c4
        obtain ⟨y135, hy135⟩ : ∃ y_ : List Int, y_ = (([(x0_1 / 256) % 256] : List Int)) := ⟨_, rfl⟩
        replace H : (if y135.length + x3_1.length < 140737488355328 then (spec_Int.l0 k1 (x0_1 / 256) (y135 ++ x3_1)) else (none)) = some r := by first | (rw [hy135]; with_reducible exact H) | (have H2_ := (Option.bind_some _ _).symm.trans H; rw [hy135]; with_reducible exact H2_) | (have H2_ := (Option.bind_some _ _).symm.trans H; with_reducible exact H2_) | with_reducible exact H | (rw [hy135]; exact H) | exact H
        have Ny135 := Aside0.mk hy135
        clear hy135
        by_cases c5 : y135.length + x3_1.length < 140737488355328
        · rw [if_pos c5] at H
          have LMc5 := Aside0.mk c5
          clear c5
          obtain ⟨y138, hy138⟩ : ∃ y_ : List Int, y_ = (y135 ++ x3_1) := ⟨_, rfl⟩
          replace H : (spec_Int.l0 k1 (x0_1 / 256) y138) = some r := by first | (rw [hy138]; with_reducible exact H) | (have H2_ := (Option.bind_some _ _).symm.trans H; rw [hy138]; with_reducible exact H2_) | (have H2_ := (Option.bind_some _ _).symm.trans H; with_reducible exact H2_) | with_reducible exact H | (rw [hy138]; exact H) | exact H
          have Ny138 := Aside0.mk hy138
          clear hy138
          have H' := Aside0.mk H
          clear H
          go_wp2_with (first | ((with_reducible refine gate_dst (N := 17) rfl ?_); refine Kd.R_lit (Kd.int .u8) _ 5 ?hg (N := 17) ?hd (xs := ([(x0_1 / 256) % 256] : List Int)) (inner := [.int .u8 ((x0_1 / 256) % 256)]) (ok := fun _ => True) (okp := fun _ => True) ?hr ?hp (fun _ hk => hk) trivial (Below.refl _ _) (Nat.le_refl _) (by simp) ?_; (case hd => rfl); (case hg => rfl); (case hr => first | (go_simp; done) | (go_simp; rfl)); (case hp => exact (Reps.one (show Kd.M (Kd.int .u8) _ _ _ ((x0_1 / 256) % 256) [.int .u8 ((x0_1 / 256) % 256)] from rfl) (Reps.none _ _))); intro v136 w6 ho7 hb hg_ hnew_; clear hg_ hnew_; (first | rw [← Ny135.out] at ho7 | (simp only [Int.reduceToNat] at ho7; rw [← Ny135.out] at ho7)); have n0_ := Aside0.mk (Kd.R_elder' (by (with_reducible repeat (first | apply Kd.R_alloc | apply Kd.R_drewN | apply Kd.R_drew)); exact HO_3.out) (Kd.R_base ho7) hb); have n1_ := Aside0.mk (Kd.R_lower (Kd.R_new' ho7 (Kd.R_lt (by (with_reducible repeat (first | apply Kd.R_alloc | apply Kd.R_drewN | apply Kd.R_drew)); exact HO_3.out))) (below_size (by repeat (first | (with_reducible first | exact HB.out | apply below_alloc | apply pw_below_drewN | apply below_drew1) | exact HB.out)))); have n2_ := Aside0.mk (below_step (by repeat (first | (with_reducible first | exact HB.out | apply below_alloc | apply pw_below_drewN | apply below_drew1) | exact HB.out)) hb); clear HO_3; clear HB; have HO_3 := n0_; have HO137 := n1_; have HB := n2_; clear n0_ n1_ n2_; clear hb ho7; obtain ⟨Ao9, co9, eo9⟩ := Kd.R_slice HO_3.out; subst eo9) | ((with_reducible refine gate_builtin (b := .append) (xs := #[.tmp 17, .tmp 18]) rfl ?_); at_builtin; refine Kd.R_append_rows (Kd.int .u8) (w0 := w) w.heap.size rfl (.tmp 17) (.tmp 18) 26 5 (.int .u8 0) 1 rfl Tryd.underlying26 info5 rfl (by decide) (by omega) v136 y135 x3_1 _ _ _ (fun k_ => some k_ ≠ (.slice Ao9 x3_1.length co9 : Value).ownBlock) (fun _ => False) rfl rfl ?aO ?aR (fun _ _ h => h) (fun _ h => h.elim) ?aF ?aB ?aS ?aL ?_; (case aR => repeat (first | exact (Kd.R_reads' HO_3.out).2.2 | (with_reducible refine Kd.C_alloc ?_ _) | (with_reducible refine Kd.C_drewN ?_ _) | (with_reducible refine Kd.C_drew ?_))); (case aB => exact (by repeat (first | (with_reducible first | exact HB.out | apply below_alloc | apply pw_below_drewN | apply below_drew1) | exact HB.out))); (case aF => exact (fun k_ hk => Kd.fresh' (Kd.R_lt (by (with_reducible repeat (first | apply Kd.R_alloc | apply Kd.R_drewN | apply Kd.R_drew)); exact HO_3.out)) k_ hk)); (case aO => exact (by (with_reducible repeat (first | apply Kd.R_alloc | apply Kd.R_drewN | apply Kd.R_drew)); exact Kd.R_mono HO137.out (fun _ hk => hk.2))); (case aS => exact (below_size (by repeat (first | (with_reducible first | exact HB.out | apply below_alloc | apply pw_below_drewN | apply below_drew1) | exact HB.out)))); (case aL => have := LMc5.out; omega); intro v139 w8 ho hb hg hat; rw [← Ny138.out] at ho; have n0_ := Aside0.mk (Kd.R_after (ok := (fun _ => True)) (by (with_reducible repeat (first | apply Kd.R_alloc | apply Kd.R_drewN | apply Kd.R_drew)); exact HO_3.out) hg hat); have n1_ := Aside0.mk (hb); have n2_ := Aside0.mk (ho); clear HO_3; clear HB; clear HO137; have HO_3 := n0_; have HB := n1_; have HO140 := n2_; clear n0_ n1_ n2_; clear ho hb hg hat))
          go_roundg k1
          case measure => have := HK1.out; omega
          case rel => exact ⟨(x0_1 / 256), (y138), (by first | rfl | (simp; done) | (simp [*]; done)), H', ⟨by have := HK1.out; omega⟩, ⟨by (with_reducible repeat (first | apply Kd.R_alloc | apply Kd.R_drewN | apply Kd.R_drew)); exact Kd.R_mono HO140.out (fun _ hk => trivial)⟩, ⟨by repeat (first | (with_reducible first | exact HB.out | apply below_alloc | apply pw_below_drewN | apply below_drew1) | exact HB.out)⟩⟩
        · rw [if_neg c5] at H
          exact absurd H (by simp)
      · rw [if_neg c4] at H
        have c4b0 : decide (x0_1 < (-128)) = false := decide_eq_false c4
        clear c4
        by_cases c10 : x0_1 > 127
        · rw [if_pos c10] at H
          have c10b0 : decide (127 < x0_1) = true := decide_eq_true c10
          clear c10
          obtain ⟨y141, hy141⟩ : ∃ y_ : List Int, y_ = (([(x0_1 / 256) % 256] : List Int)) := ⟨_, rfl⟩
          replace H : (if y141.length + x3_1.length < 140737488355328 then (spec_Int.l0 k1 (x0_1 / 256) (y141 ++ x3_1)) else (none)) = some r := by first | (rw [hy141]; with_reducible exact H) | (have H2_ := (Option.bind_some _ _).symm.trans H; rw [hy141]; with_reducible exact H2_) | (have H2_ := (Option.bind_some _ _).symm.trans H; with_reducible exact H2_) | with_reducible exact H | (rw [hy141]; exact H) | exact H
          have Ny141 := Aside0.mk hy141
          clear hy141
          by_cases c11 : y141.length + x3_1.length < 140737488355328
          · rw [if_pos c11] at H
            have LMc11 := Aside0.mk c11
            clear c11
            obtain ⟨y144, hy144⟩ : ∃ y_ : List Int, y_ = (y141 ++ x3_1) := ⟨_, rfl⟩
            replace H : (spec_Int.l0 k1 (x0_1 / 256) y144) = some r := by first | (rw [hy144]; with_reducible exact H) | (have H2_ := (Option.bind_some _ _).symm.trans H; rw [hy144]; with_reducible exact H2_) | (have H2_ := (Option.bind_some _ _).symm.trans H; with_reducible exact H2_) | with_reducible exact H | (rw [hy144]; exact H) | exact H
            have Ny144 := Aside0.mk hy144
            clear hy144
            have H' := Aside0.mk H
            clear H
            go_wp2_with (first | ((with_reducible refine gate_dst (N := 17) rfl ?_); refine Kd.R_lit (Kd.int .u8) _ 5 ?hg (N := 17) ?hd (xs := ([(x0_1 / 256) % 256] : List Int)) (inner := [.int .u8 ((x0_1 / 256) % 256)]) (ok := fun _ => True) (okp := fun _ => True) ?hr ?hp (fun _ hk => hk) trivial (Below.refl _ _) (Nat.le_refl _) (by simp) ?_; (case hd => rfl); (case hg => rfl); (case hr => first | (go_simp; done) | (go_simp; rfl)); (case hp => exact (Reps.one (show Kd.M (Kd.int .u8) _ _ _ ((x0_1 / 256) % 256) [.int .u8 ((x0_1 / 256) % 256)] from rfl) (Reps.none _ _))); intro v142 w12 ho13 hb hg_ hnew_; clear hg_ hnew_; (first | rw [← Ny141.out] at ho13 | (simp only [Int.reduceToNat] at ho13; rw [← Ny141.out] at ho13)); have n0_ := Aside0.mk (Kd.R_elder' (by (with_reducible repeat (first | apply Kd.R_alloc | apply Kd.R_drewN | apply Kd.R_drew)); exact HO_3.out) (Kd.R_base ho13) hb); have n1_ := Aside0.mk (Kd.R_lower (Kd.R_new' ho13 (Kd.R_lt (by (with_reducible repeat (first | apply Kd.R_alloc | apply Kd.R_drewN | apply Kd.R_drew)); exact HO_3.out))) (below_size (by repeat (first | (with_reducible first | exact HB.out | apply below_alloc | apply pw_below_drewN | apply below_drew1) | exact HB.out)))); have n2_ := Aside0.mk (below_step (by repeat (first | (with_reducible first | exact HB.out | apply below_alloc | apply pw_below_drewN | apply below_drew1) | exact HB.out)) hb); clear HO_3; clear HB; have HO_3 := n0_; have HO143 := n1_; have HB := n2_; clear n0_ n1_ n2_; clear hb ho13; obtain ⟨Ao15, co15, eo15⟩ := Kd.R_slice HO_3.out; subst eo15) | ((with_reducible refine gate_builtin (b := .append) (xs := #[.tmp 17, .tmp 18]) rfl ?_); at_builtin; refine Kd.R_append_rows (Kd.int .u8) (w0 := w) w.heap.size rfl (.tmp 17) (.tmp 18) 26 5 (.int .u8 0) 1 rfl Tryd.underlying26 info5 rfl (by decide) (by omega) v142 y141 x3_1 _ _ _ (fun k_ => some k_ ≠ (.slice Ao15 x3_1.length co15 : Value).ownBlock) (fun _ => False) rfl rfl ?aO ?aR (fun _ _ h => h) (fun _ h => h.elim) ?aF ?aB ?aS ?aL ?_; (case aR => repeat (first | exact (Kd.R_reads' HO_3.out).2.2 | (with_reducible refine Kd.C_alloc ?_ _) | (with_reducible refine Kd.C_drewN ?_ _) | (with_reducible refine Kd.C_drew ?_))); (case aB => exact (by repeat (first | (with_reducible first | exact HB.out | apply below_alloc | apply pw_below_drewN | apply below_drew1) | exact HB.out))); (case aF => exact (fun k_ hk => Kd.fresh' (Kd.R_lt (by (with_reducible repeat (first | apply Kd.R_alloc | apply Kd.R_drewN | apply Kd.R_drew)); exact HO_3.out)) k_ hk)); (case aO => exact (by (with_reducible repeat (first | apply Kd.R_alloc | apply Kd.R_drewN | apply Kd.R_drew)); exact Kd.R_mono HO143.out (fun _ hk => hk.2))); (case aS => exact (below_size (by repeat (first | (with_reducible first | exact HB.out | apply below_alloc | apply pw_below_drewN | apply below_drew1) | exact HB.out)))); (case aL => have := LMc11.out; omega); intro v145 w14 ho hb hg hat; rw [← Ny144.out] at ho; have n0_ := Aside0.mk (Kd.R_after (ok := (fun _ => True)) (by (with_reducible repeat (first | apply Kd.R_alloc | apply Kd.R_drewN | apply Kd.R_drew)); exact HO_3.out) hg hat); have n1_ := Aside0.mk (hb); have n2_ := Aside0.mk (ho); clear HO_3; clear HB; clear HO143; have HO_3 := n0_; have HB := n1_; have HO146 := n2_; clear n0_ n1_ n2_; clear ho hb hg hat))
            go_roundg k1
            case measure => have := HK1.out; omega
            case rel => exact ⟨(x0_1 / 256), (y144), (by first | rfl | (simp; done) | (simp [*]; done)), H', ⟨by have := HK1.out; omega⟩, ⟨by (with_reducible repeat (first | apply Kd.R_alloc | apply Kd.R_drewN | apply Kd.R_drew)); exact Kd.R_mono HO146.out (fun _ hk => trivial)⟩, ⟨by repeat (first | (with_reducible first | exact HB.out | apply below_alloc | apply pw_below_drewN | apply below_drew1) | exact HB.out)⟩⟩
          · rw [if_neg c11] at H
            exact absurd H (by simp)
        · rw [if_neg c10] at H
          have c10b0 : decide (127 < x0_1) = false := decide_eq_false c10
          clear c10
          obtain rfl := Option.some.inj H
          go_wp2
          go_ret
          exact ⟨_, by first | rfl | (simp [errW_none, errW_some] <;> rfl) | (simp [*, errW_none, errW_some] <;> rfl), by (with_reducible repeat (first | apply Kd.R_alloc | apply Kd.R_drewN | apply Kd.R_drew)); exact HO_3.out, by repeat (first | (with_reducible first | exact HB.out | apply below_alloc | apply pw_below_drewN | apply below_drew1) | exact HB.out)⟩
mutual
def spec_address.l0 : Nat → ByteArray → List Int → Int → Bool → Int → Option (List Int × Bool)
  | 0, _, _, _, _, _ => none
  | k + 1, x0, x4, x5, x6, x7 => if x7 ≤ (x0.size : Int) then (if x7 = (x0.size : Int) then (spec_address.j1 k x0 x4 x5 x6 x7 true) else (if 0 ≤ x7 then (if x7 < (x0.size : Int) then (spec_address.j1 k x0 x4 x5 x6 x7 ((bt x0 x7) == 46)) else (none)) else (none))) else (some (x4, ((x4.length : Int) == 4)))
def spec_address.j1 : Nat → ByteArray → List Int → Int → Bool → Int → Bool → Option (List Int × Bool)
  | 0, _, _, _, _, _, _ => none
  | k + 1, x0, x4, x5, x6, x7, x24 => if x24 = true then (if x6 = true then (if (x4.length : Int) = 4 then (some (([] : List Int), false)) else (if x4.length < 140737488355328 then (spec_address.l0 k x0 (x4 ++ [(x5) % 256]) 0 false (wrap64 (x7 + 1))) else (none))) else (some (([] : List Int), false))) else (if 0 ≤ x7 then (if x7 < (x0.size : Int) then (if (bt x0 x7) < 48 then (spec_address.j2 k x0 x4 x5 x7 true) else (if (bt x0 x7) > 57 then (spec_address.j2 k x0 x4 x5 x7 true) else (if x6 = true then (spec_address.j2 k x0 x4 x5 x7 (x5 == 0)) else (spec_address.j2 k x0 x4 x5 x7 false)))) else (none)) else (none))
def spec_address.j2 : Nat → ByteArray → List Int → Int → Int → Bool → Option (List Int × Bool)
  | 0, _, _, _, _, _ => none
  | k + 1, x0, x4, x5, x7, x53 => if x53 = true then (some (([] : List Int), false)) else (if 0 ≤ x7 then (if x7 < (x0.size : Int) then (if (wrap64 ((wrap64 (10 * x5)) + (((bt x0 x7) - 48) % 256))) > 255 then (some (([] : List Int), false)) else (spec_address.l0 k x0 x4 (wrap64 ((wrap64 (10 * x5)) + (((bt x0 x7) - 48) % 256))) true (wrap64 (x7 + 1)))) else (none)) else (none))
end
def spec_address.f (k : Nat) (a0 : ByteArray) : Option (List Int × Bool) := spec_address.l0 k a0 (([] : List Int)) 0 false 0
theorem spec_address.mono_l : ∀ k, (∀ y0 y1 y2 y3 y4, LeO (spec_address.l0 k y0 y1 y2 y3 y4) (spec_address.l0 (k + 1) y0 y1 y2 y3 y4)) ∧ (∀ y0 y1 y2 y3 y4 y5, LeO (spec_address.j1 k y0 y1 y2 y3 y4 y5) (spec_address.j1 (k + 1) y0 y1 y2 y3 y4 y5)) ∧ (∀ y0 y1 y2 y3 y4, LeO (spec_address.j2 k y0 y1 y2 y3 y4) (spec_address.j2 (k + 1) y0 y1 y2 y3 y4))
  | 0 => ⟨fun _ _ _ _ _ r h => by simp [spec_address.l0] at h, fun _ _ _ _ _ _ r h => by simp [spec_address.j1] at h, fun _ _ _ _ _ r h => by simp [spec_address.j2] at h⟩
  | k + 1 => by
    obtain ⟨ih0, ih1, ih2⟩ := spec_address.mono_l k
    refine ⟨?_, ?_, ?_⟩
    · intro y0 y1 y2 y3 y4
      unfold spec_address.l0
      repeat' first
      | (with_reducible exact ih0 _ _ _ _ _)
      | (with_reducible exact ih1 _ _ _ _ _ _)
      | (with_reducible exact ih2 _ _ _ _ _)
      | (with_reducible exact LeO.refl _)
      | (with_reducible exact LeO.none _)
      | (with_reducible refine LeO.ite ?_ ?_)
      | (with_reducible refine LeO.bind ?_ (fun _ => ?_))
      | exact ih0 _ _ _ _ _
      | exact ih1 _ _ _ _ _ _
      | exact ih2 _ _ _ _ _
      | exact LeO.none _
      | refine LeO.ite ?_ ?_
      | refine LeO.bind ?_ (fun _ => ?_)
    · intro y0 y1 y2 y3 y4 y5
      unfold spec_address.j1
      repeat' first
      | (with_reducible exact ih0 _ _ _ _ _)
      | (with_reducible exact ih1 _ _ _ _ _ _)
      | (with_reducible exact ih2 _ _ _ _ _)
      | (with_reducible exact LeO.refl _)
      | (with_reducible exact LeO.none _)
      | (with_reducible refine LeO.ite ?_ ?_)
      | (with_reducible refine LeO.bind ?_ (fun _ => ?_))
      | exact ih0 _ _ _ _ _
      | exact ih1 _ _ _ _ _ _
      | exact ih2 _ _ _ _ _
      | exact LeO.none _
      | refine LeO.ite ?_ ?_
      | refine LeO.bind ?_ (fun _ => ?_)
    · intro y0 y1 y2 y3 y4
      unfold spec_address.j2
      repeat' first
      | (with_reducible exact ih0 _ _ _ _ _)
      | (with_reducible exact ih1 _ _ _ _ _ _)
      | (with_reducible exact ih2 _ _ _ _ _)
      | (with_reducible exact LeO.refl _)
      | (with_reducible exact LeO.none _)
      | (with_reducible refine LeO.ite ?_ ?_)
      | (with_reducible refine LeO.bind ?_ (fun _ => ?_))
      | exact ih0 _ _ _ _ _
      | exact ih1 _ _ _ _ _ _
      | exact ih2 _ _ _ _ _
      | exact LeO.none _
      | refine LeO.ite ?_ ?_
      | refine LeO.bind ?_ (fun _ => ?_)
theorem spec_address.mono : ∀ a0 k, LeO (spec_address.f k a0) (spec_address.f (k + 1) a0) := by
  intro a0 k
  obtain ⟨ih0, ih1, ih2⟩ := spec_address.mono_l k
  unfold spec_address.f
  repeat' first
      | (with_reducible exact ih0 _ _ _ _ _)
      | (with_reducible exact ih1 _ _ _ _ _ _)
      | (with_reducible exact ih2 _ _ _ _ _)
      | (with_reducible exact LeO.refl _)
      | (with_reducible exact LeO.none _)
      | (with_reducible refine LeO.ite ?_ ?_)
      | (with_reducible refine LeO.bind ?_ (fun _ => ?_))
      | exact ih0 _ _ _ _ _
      | exact ih1 _ _ _ _ _ _
      | exact ih2 _ _ _ _ _
      | exact LeO.none _
      | refine LeO.ite ?_ ?_
      | refine LeO.bind ?_ (fun _ => ?_)
set_option maxHeartbeats 8000000 in
set_option maxRecDepth 100000 in
theorem spec_address.calls (k : Nat) (a0 : ByteArray) (r1 : List Int) (r2 : Bool) (w : World) (h : spec_address.f k a0 = some (r1, r2)) :
    Calls Tryd.prog 45 #[.string a0] w fun e w' => ∃ v0_ : Value, e = .returned (.tuple #[v0_, .bool r2]) ∧ Kd.R (Kd.int .u8) 5 w' w.heap.size (fun _ => True) v0_ r1 ∧ Below w.heap.size w w' := by
  have HB := Aside0.mk (Below.refl w.heap.size w)
  have H : (spec_address.l0 k a0 (([] : List Int)) 0 false 0) = some (r1, r2) := h
  clear h
  obtain ⟨y147, hy147⟩ : ∃ y_ : List Int, y_ = (([] : List Int)) := ⟨_, rfl⟩
  replace H : (spec_address.l0 k a0 y147 0 false 0) = some (r1, r2) := by first | (rw [hy147]; with_reducible exact H) | (have H2_ := (Option.bind_some _ _).symm.trans H; rw [hy147]; with_reducible exact H2_) | (have H2_ := (Option.bind_some _ _).symm.trans H; with_reducible exact H2_) | with_reducible exact H | (rw [hy147]; exact H) | exact H
  have Ny147 := Aside0.mk hy147
  clear hy147
  have H' := Aside0.mk H
  clear H
  go_enter Tryd.func45, Tryd.ntmps45
  go_wp2_with (first | ((with_reducible refine gate_dst (N := 8) rfl ?_); (try (refine gate_guard (by rfl) ?_; dsimp only)); refine Kd.R_lit (Kd.int .u8) _ 5 ?hg (N := 8) ?hd (xs := ([] : List Int)) (inner := []) (ok := fun _ => True) (okp := fun _ => True) ?hr ?hp (fun _ hk => hk) trivial (Below.refl _ _) (Nat.le_refl _) (by simp) ?_; (case hd => rfl); (case hg => rfl); (case hr => first | (go_simp; done) | (go_simp; rfl)); (case hp => exact (Reps.none _ _)); intro v148 w2 ho3 hb hg_ hnew_; clear hg_ hnew_; (first | rw [← Ny147.out] at ho3 | (simp only [Int.reduceToNat] at ho3; rw [← Ny147.out] at ho3)); have n0_ := Aside0.mk (Kd.R_lower ho3 (below_size (by repeat (first | (with_reducible first | exact HB.out | apply below_alloc | apply pw_below_drewN | apply below_drew1) | exact HB.out)))); have n1_ := Aside0.mk (below_step (by repeat (first | (with_reducible first | exact HB.out | apply below_alloc | apply pw_below_drewN | apply below_drew1) | exact HB.out)) hb); clear HB; have HO149 := n0_; have HB := n1_; clear n0_ n1_; clear hb ho3))
  go_loopg [4, 5, 6, 7] k (fun kq v4 v5 v6 v7 w' => ∃ (x4_1 : List Int) (x5_1 : Int) (x6_1 : Bool) (x7_1 : Int), v5 = .int .i64 x5_1 ∧ v6 = .bool x6_1 ∧ v7 = .int .i64 x7_1 ∧ Aside0 (spec_address.l0 kq a0 x4_1 x5_1 x6_1 x7_1 = some (r1, r2)) ∧ Aside0 (kq ≤ k) ∧ Aside0 (Kd.R (Kd.int .u8) 5 w' w.heap.size (fun _ => True) v4 x4_1) ∧ Aside0 (Below w.heap.size w w'))
  case atStart => exact ⟨(y147), (0), (false), (0), (by first | rfl | (simp; done) | (simp [*]; done)), (by first | rfl | (simp; done) | (simp [*]; done)), (by first | rfl | (simp; done) | (simp [*]; done)), H', ⟨Nat.le_refl _⟩, ⟨by (with_reducible repeat (first | apply Kd.R_alloc | apply Kd.R_drewN | apply Kd.R_drew)); exact HO149.out⟩, ⟨by repeat (first | (with_reducible first | exact HB.out | apply below_alloc | apply pw_below_drewN | apply below_drew1) | exact HB.out)⟩⟩
  case round =>
    clear H'
    try clear p2
    obtain ⟨x4_1, x5_1, x6_1, x7_1, rfl, rfl, rfl, HA, HK1, HO_4, HB⟩ := hrel
    cases gk with
    | zero => exact absurd HA.out (by simp [spec_address.l0])
    | succ k1 =>
      have H := HA.out
      clear HA
      simp only [spec_address.l0] at H
      by_cases c4 : x7_1 ≤ (a0.size : Int)
      · rw [if_pos c4] at H
        have c4b0 : decide (x7_1 ≤ (a0.size : Int)) = true := decide_eq_true c4
        clear c4
        have HC5 := Aside0.mk H
        clear H
        go_upto_region 5 with (fail)
        go_cut [24] (fun v24 wc => ∃ (kq : Nat) (x24_4 : Bool), v24 = .bool x24_4 ∧ Aside0 (spec_address.j1 kq a0 x4_1 x5_1 x6_1 x7_1 x24_4 = some (r1, r2)) ∧ Aside0 (kq ≤ k1) ∧ Aside0 (Kd.R (Kd.int .u8) 5 wc w.heap.size (fun _ => True) u4 x4_1) ∧ Aside0 (Below w.heap.size w wc))
        case first =>
          have H := HC5.out
          clear HC5
          by_cases c6 : x7_1 = (a0.size : Int)
          · rw [if_pos c6] at H
            have c6b0 : (x7_1 == (a0.size : Int)) = true := beq_iff_eq.mpr c6
            have c6b1 : (x7_1 != (a0.size : Int)) = false := bne_eq_false_iff_eq.mpr c6
            clear c6
            (first | rw [c6b0] | (simp only [i64_w, i32_w]; rw [c6b0]) | skip)
            have H' := Aside0.mk H
            clear H
            go_wp2
            go_meet
            case rel => exact ⟨_, (true), (by first | rfl | (simp; done) | (simp [*]; done)), H', ⟨by have := HK1.out; first | omega | exact Nat.le_refl _⟩, ⟨by (with_reducible repeat (first | apply Kd.R_alloc | apply Kd.R_drewN | apply Kd.R_drew)); exact HO_4.out⟩, ⟨by repeat (first | (with_reducible first | exact HB.out | apply below_alloc | apply pw_below_drewN | apply below_drew1) | exact HB.out)⟩⟩
          · rw [if_neg c6] at H
            have c6b0 : (x7_1 == (a0.size : Int)) = false := beq_eq_false_iff_ne.mpr c6
            have c6b1 : (x7_1 != (a0.size : Int)) = true := bne_iff_ne.mpr c6
            (first | rw [c6b0] | (simp only [i64_w, i32_w]; rw [c6b0]) | skip)
            by_cases c7 : 0 ≤ x7_1
            · rw [if_pos c7] at H
              have c7b0 : decide (0 ≤ x7_1) = true := decide_eq_true c7
              clear c7
              by_cases c8 : x7_1 < (a0.size : Int)
              · rw [if_pos c8] at H
                have c8b0 : decide (x7_1 < (a0.size : Int)) = true := decide_eq_true c8
                clear c8
                have H' := Aside0.mk H
                clear H
                have p9 : 0 ≤ (x7_1 : Int) := of_decide_eq_true (by first | (with_reducible assumption) | assumption)
                have q9 : x7_1 < (a0.size : Int) := of_decide_eq_true (by first | (with_reducible assumption) | assumption)
                have hx9 := bt_at a0 x7_1
                replace p9 := eq_true p9
                replace q9 := eq_true q9
                go_wp2
                go_meet
                case rel => exact ⟨_, (((bt a0 x7_1) == 46)), (by first | rfl | (simp; done) | (simp [*]; done)), H', ⟨by have := HK1.out; first | omega | exact Nat.le_refl _⟩, ⟨by (with_reducible repeat (first | apply Kd.R_alloc | apply Kd.R_drewN | apply Kd.R_drew)); exact HO_4.out⟩, ⟨by repeat (first | (with_reducible first | exact HB.out | apply below_alloc | apply pw_below_drewN | apply below_drew1) | exact HB.out)⟩⟩
              · rw [if_neg c8] at H
                exact absurd H (by simp)
            · rw [if_neg c7] at H
              exact absurd H (by simp)
        case rest =>
          clear HC5
          try clear p2
          try clear c4
          try clear c4b0
          try clear c6
          try clear c6b0
          try clear c6b1
          try clear c7
          try clear c7b0
          try clear c8
          try clear c8b0
          try clear p9
          try clear q9
          try clear hx9
          try clear p2
          try clear p9
          try clear q9
          obtain ⟨kq, x24_4, rfl, HA, HJ4, HO_4, HB⟩ := hcut
          cases kq with
          | zero => exact absurd HA.out (by simp [spec_address.j1])
          | succ kj4 =>
            have H := HA.out
            clear HA
            simp only [spec_address.j1] at H
            by_cases c10 : x24_4 = true
            · subst c10
              have H1 : (if x6_1 = true then (if (x4_1.length : Int) = 4 then (some (([] : List Int), false)) else (if x4_1.length < 140737488355328 then (spec_address.l0 kj4 a0 (x4_1 ++ [(x5_1) % 256]) 0 false (wrap64 (x7_1 + 1))) else (none))) else (some (([] : List Int), false))) = some (r1, r2) := by rw [if_pos rfl] at H; exact H
              clear H
              have H := H1
              clear H1
              by_cases c11 : x6_1 = true
              · subst c11
                have H1 : (if (x4_1.length : Int) = 4 then (some (([] : List Int), false)) else (if x4_1.length < 140737488355328 then (spec_address.l0 kj4 a0 (x4_1 ++ [(x5_1) % 256]) 0 false (wrap64 (x7_1 + 1))) else (none))) = some (r1, r2) := by rw [if_pos rfl] at H; exact H
                clear H
                have H := H1
                clear H1
                by_cases c12 : (x4_1.length : Int) = 4
                · rw [if_pos c12] at H
                  have c12b0 : ((x4_1.length : Int) == 4) = true := beq_iff_eq.mpr c12
                  have c12b1 : ((x4_1.length : Int) != 4) = false := bne_eq_false_iff_eq.mpr c12
                  clear c12
                  simp only [Option.some.injEq, Prod.mk.injEq] at H
                  obtain ⟨rfl, rfl⟩ := H
                  obtain ⟨Ao13, co13, eo13⟩ := Kd.R_slice HO_4.out
                  subst eo13
                  go_wp2
                  go_ret2
                  exact ⟨_, by first | rfl | (simp [errW_none, errW_some] <;> rfl) | (simp [*, errW_none, errW_some] <;> rfl), by first | exact Kd.R_nil _ _ _ _ _ | exact Kd.N_nil _ _ _ _ _ | exact Kd.V_nil _ _ _ _ _ | exact Kd.Q_nil _ _ _ _ _ | exact Kd.S_nil _ _ _ _ _, by repeat (first | (with_reducible first | exact HB.out | apply below_alloc | apply pw_below_drewN | apply below_drew1) | exact HB.out)⟩
                · rw [if_neg c12] at H
                  have c12b0 : ((x4_1.length : Int) == 4) = false := beq_eq_false_iff_ne.mpr c12
                  have c12b1 : ((x4_1.length : Int) != 4) = true := bne_iff_ne.mpr c12
                  by_cases c14 : x4_1.length < 140737488355328
                  · rw [if_pos c14] at H
                    have LMc14 := Aside0.mk c14
                    clear c14
                    obtain ⟨y150, hy150⟩ : ∃ y_ : List Int, y_ = (x4_1 ++ [(x5_1) % 256]) := ⟨_, rfl⟩
                    replace H : (spec_address.l0 kj4 a0 y150 0 false (wrap64 (x7_1 + 1))) = some (r1, r2) := by first | (rw [hy150]; with_reducible exact H) | (have H2_ := (Option.bind_some _ _).symm.trans H; rw [hy150]; with_reducible exact H2_) | (have H2_ := (Option.bind_some _ _).symm.trans H; with_reducible exact H2_) | with_reducible exact H | (rw [hy150]; exact H) | exact H
                    have Ny150 := Aside0.mk hy150
                    clear hy150
                    have H' := Aside0.mk H
                    clear H
                    obtain ⟨Ao15, co15, eo15⟩ := Kd.R_slice HO_4.out
                    subst eo15
                    go_wp2_with (first | ((with_reducible refine gate_builtin (b := .append) (xs := #[.tmp 32, .tmp 35]) rfl ?_); (try (refine gate_guard (by rfl) ?_; dsimp only)); at_builtin; refine Kd.R_append (Kd.int .u8) (w0 := w) w.heap.size rfl (.tmp 32) (.tmp 35) 26 5 (.int .u8 0) 1 rfl Tryd.underlying26 info5 rfl (by decide) (by omega) (.slice Ao15 x4_1.length co15) x4_1 ((x5_1) % 256) [.int .u8 ((x5_1) % 256)] (fun _ => True) (fun _ => False) rfl rfl ?aP (fun _ hk => hk.elim) ?aF ?aO ?aB ?aS ?aL ?_; (case aP => exact rfl); (case aB => exact (by repeat (first | (with_reducible first | exact HB.out | apply below_alloc | apply pw_below_drewN | apply below_drew1) | exact HB.out))); (case aF => exact (fun _ _ => trivial)); (case aO => exact (by (with_reducible repeat (first | apply Kd.R_alloc | apply Kd.R_drewN | apply Kd.R_drew)); exact HO_4.out)); (case aS => exact (below_size (by repeat (first | (with_reducible first | exact HB.out | apply below_alloc | apply pw_below_drewN | apply below_drew1) | exact HB.out)))); (case aL => have := LMc14.out; omega); intro v151 w16 ho hb hg hat; rw [← Ny150.out] at ho; have n0_ := Aside0.mk (hb); have n1_ := Aside0.mk (ho); clear HB; clear HO_4; have HB := n0_; have HO152 := n1_; clear n0_ n1_; clear ho hb hg hat))
                    go_roundg kj4
                    case measure => have := HK1.out; have := HJ4.out; omega
                    case rel => exact ⟨(y150), (0), (false), (wrap64 (x7_1 + 1)), (by first | rfl | (simp; done) | (simp [*]; done)), (by first | rfl | (simp; done) | (simp [*]; done)), (by first | rfl | (simp; done) | (simp [*]; done)), H', ⟨by have := HK1.out; have := HJ4.out; omega⟩, ⟨by (with_reducible repeat (first | apply Kd.R_alloc | apply Kd.R_drewN | apply Kd.R_drew)); exact HO152.out⟩, ⟨by repeat (first | (with_reducible first | exact HB.out | apply below_alloc | apply pw_below_drewN | apply below_drew1) | exact HB.out)⟩⟩
                  · rw [if_neg c14] at H
                    exact absurd H (by simp)
              · replace c11 := Bool.eq_false_iff.mpr c11
                subst c11
                have H1 : (some (([] : List Int), false)) = some (r1, r2) := by rw [if_neg (show ¬ (false = true) by decide)] at H; exact H
                clear H
                have H := H1
                clear H1
                simp only [Option.some.injEq, Prod.mk.injEq] at H
                obtain ⟨rfl, rfl⟩ := H
                go_wp2
                go_ret2
                exact ⟨_, by first | rfl | (simp [errW_none, errW_some] <;> rfl) | (simp [*, errW_none, errW_some] <;> rfl), by first | exact Kd.R_nil _ _ _ _ _ | exact Kd.N_nil _ _ _ _ _ | exact Kd.V_nil _ _ _ _ _ | exact Kd.Q_nil _ _ _ _ _ | exact Kd.S_nil _ _ _ _ _, by repeat (first | (with_reducible first | exact HB.out | apply below_alloc | apply pw_below_drewN | apply below_drew1) | exact HB.out)⟩
            · replace c10 := Bool.eq_false_iff.mpr c10
              subst c10
              have H1 : (if 0 ≤ x7_1 then (if x7_1 < (a0.size : Int) then (if (bt a0 x7_1) < 48 then (spec_address.j2 kj4 a0 x4_1 x5_1 x7_1 true) else (if (bt a0 x7_1) > 57 then (spec_address.j2 kj4 a0 x4_1 x5_1 x7_1 true) else (if x6_1 = true then (spec_address.j2 kj4 a0 x4_1 x5_1 x7_1 (x5_1 == 0)) else (spec_address.j2 kj4 a0 x4_1 x5_1 x7_1 false)))) else (none)) else (none)) = some (r1, r2) := by rw [if_neg (show ¬ (false = true) by decide)] at H; exact H
              clear H
              have H := H1
              clear H1
              have HC17 := Aside0.mk H
              clear H
              go_upto_region 10 with (fail)
              go_cut [53] (fun v53 wc => ∃ (kq : Nat) (x53_16 : Bool), v53 = .bool x53_16 ∧ Aside0 (spec_address.j2 kq a0 x4_1 x5_1 x7_1 x53_16 = some (r1, r2)) ∧ Aside0 (kq ≤ kj4) ∧ Aside0 (Kd.R (Kd.int .u8) 5 wc w.heap.size (fun _ => True) u4 x4_1) ∧ Aside0 (Below w.heap.size w wc))
              case first =>
                have H := HC17.out
                clear HC17
                by_cases c18 : 0 ≤ x7_1
                · rw [if_pos c18] at H
                  have c18b0 : decide (0 ≤ x7_1) = true := decide_eq_true c18
                  clear c18
                  (first | rw [c18b0] | (simp only [i64_w, i32_w]; rw [c18b0]) | skip)
                  by_cases c19 : x7_1 < (a0.size : Int)
                  · rw [if_pos c19] at H
                    have c19b0 : decide (x7_1 < (a0.size : Int)) = true := decide_eq_true c19
                    clear c19
                    by_cases c21 : (bt a0 x7_1) < 48
                    · rw [if_pos c21] at H
                      have c21b0 : decide ((bt a0 x7_1) < 48) = true := decide_eq_true c21
                      clear c21
                      have H' := Aside0.mk H
                      clear H
                      have p20 : 0 ≤ (x7_1 : Int) := of_decide_eq_true (by first | (with_reducible assumption) | assumption)
                      have q20 : x7_1 < (a0.size : Int) := of_decide_eq_true (by first | (with_reducible assumption) | assumption)
                      have hx20 := bt_at a0 x7_1
                      replace p20 := eq_true p20
                      replace q20 := eq_true q20
                      go_wp2
                      go_meet
                      case rel => exact ⟨_, (true), (by first | rfl | (simp; done) | (simp [*]; done)), H', ⟨by have := HK1.out; have := HJ4.out; first | omega | exact Nat.le_refl _⟩, ⟨by (with_reducible repeat (first | apply Kd.R_alloc | apply Kd.R_drewN | apply Kd.R_drew)); exact HO_4.out⟩, ⟨by repeat (first | (with_reducible first | exact HB.out | apply below_alloc | apply pw_below_drewN | apply below_drew1) | exact HB.out)⟩⟩
                    · rw [if_neg c21] at H
                      have c21b0 : decide ((bt a0 x7_1) < 48) = false := decide_eq_false c21
                      clear c21
                      by_cases c23 : (bt a0 x7_1) > 57
                      · rw [if_pos c23] at H
                        have c23b0 : decide (57 < (bt a0 x7_1)) = true := decide_eq_true c23
                        clear c23
                        have H' := Aside0.mk H
                        clear H
                        have p20 : 0 ≤ (x7_1 : Int) := of_decide_eq_true (by first | (with_reducible assumption) | assumption)
                        have q20 : x7_1 < (a0.size : Int) := of_decide_eq_true (by first | (with_reducible assumption) | assumption)
                        have hx20 := bt_at a0 x7_1
                        replace p20 := eq_true p20
                        replace q20 := eq_true q20
                        have p22 : 0 ≤ (x7_1 : Int) := of_decide_eq_true (by first | (with_reducible assumption) | assumption)
                        have q22 : x7_1 < (a0.size : Int) := of_decide_eq_true (by first | (with_reducible assumption) | assumption)
                        have hx22 := bt_at a0 x7_1
                        replace p22 := eq_true p22
                        replace q22 := eq_true q22
                        go_wp2
                        go_meet
                        case rel => exact ⟨_, (true), (by first | rfl | (simp; done) | (simp [*]; done)), H', ⟨by have := HK1.out; have := HJ4.out; first | omega | exact Nat.le_refl _⟩, ⟨by (with_reducible repeat (first | apply Kd.R_alloc | apply Kd.R_drewN | apply Kd.R_drew)); exact HO_4.out⟩, ⟨by repeat (first | (with_reducible first | exact HB.out | apply below_alloc | apply pw_below_drewN | apply below_drew1) | exact HB.out)⟩⟩
                      · rw [if_neg c23] at H
                        have c23b0 : decide (57 < (bt a0 x7_1)) = false := decide_eq_false c23
                        clear c23
                        by_cases c24 : x6_1 = true
                        · subst c24
                          have H1 : (spec_address.j2 kj4 a0 x4_1 x5_1 x7_1 (x5_1 == 0)) = some (r1, r2) := by rw [if_pos rfl] at H; exact H
                          clear H
                          have H := H1
                          clear H1
                          have H' := Aside0.mk H
                          clear H
                          have p20 : 0 ≤ (x7_1 : Int) := of_decide_eq_true (by first | (with_reducible assumption) | assumption)
                          have q20 : x7_1 < (a0.size : Int) := of_decide_eq_true (by first | (with_reducible assumption) | assumption)
                          have hx20 := bt_at a0 x7_1
                          replace p20 := eq_true p20
                          replace q20 := eq_true q20
                          have p22 : 0 ≤ (x7_1 : Int) := of_decide_eq_true (by first | (with_reducible assumption) | assumption)
                          have q22 : x7_1 < (a0.size : Int) := of_decide_eq_true (by first | (with_reducible assumption) | assumption)
                          have hx22 := bt_at a0 x7_1
                          replace p22 := eq_true p22
                          replace q22 := eq_true q22
                          go_wp2
                          go_meet
                          case rel => exact ⟨_, ((x5_1 == 0)), (by first | rfl | (simp; done) | (simp [*]; done)), H', ⟨by have := HK1.out; have := HJ4.out; first | omega | exact Nat.le_refl _⟩, ⟨by (with_reducible repeat (first | apply Kd.R_alloc | apply Kd.R_drewN | apply Kd.R_drew)); exact HO_4.out⟩, ⟨by repeat (first | (with_reducible first | exact HB.out | apply below_alloc | apply pw_below_drewN | apply below_drew1) | exact HB.out)⟩⟩
                        · replace c24 := Bool.eq_false_iff.mpr c24
                          subst c24
                          have H1 : (spec_address.j2 kj4 a0 x4_1 x5_1 x7_1 false) = some (r1, r2) := by rw [if_neg (show ¬ (false = true) by decide)] at H; exact H
                          clear H
                          have H := H1
                          clear H1
                          have H' := Aside0.mk H
                          clear H
                          have p20 : 0 ≤ (x7_1 : Int) := of_decide_eq_true (by first | (with_reducible assumption) | assumption)
                          have q20 : x7_1 < (a0.size : Int) := of_decide_eq_true (by first | (with_reducible assumption) | assumption)
                          have hx20 := bt_at a0 x7_1
                          replace p20 := eq_true p20
                          replace q20 := eq_true q20
                          have p22 : 0 ≤ (x7_1 : Int) := of_decide_eq_true (by first | (with_reducible assumption) | assumption)
                          have q22 : x7_1 < (a0.size : Int) := of_decide_eq_true (by first | (with_reducible assumption) | assumption)
                          have hx22 := bt_at a0 x7_1
                          replace p22 := eq_true p22
                          replace q22 := eq_true q22
                          go_wp2
                          go_meet
                          case rel => exact ⟨_, (false), (by first | rfl | (simp; done) | (simp [*]; done)), H', ⟨by have := HK1.out; have := HJ4.out; first | omega | exact Nat.le_refl _⟩, ⟨by (with_reducible repeat (first | apply Kd.R_alloc | apply Kd.R_drewN | apply Kd.R_drew)); exact HO_4.out⟩, ⟨by repeat (first | (with_reducible first | exact HB.out | apply below_alloc | apply pw_below_drewN | apply below_drew1) | exact HB.out)⟩⟩
                  · rw [if_neg c19] at H
                    exact absurd H (by simp)
                · rw [if_neg c18] at H
                  exact absurd H (by simp)
              case rest =>
                clear HC17
                try clear c1
                try clear c2
                try clear p2
                try clear q2
                try clear hx2
                try clear c4
                try clear c4b0
                try clear c6
                try clear c6b0
                try clear c6b1
                try clear p6
                try clear c7
                try clear c7b0
                try clear c8
                try clear c8b0
                try clear p9
                try clear q9
                try clear hx9
                try clear c10
                try clear c11
                try clear c12
                try clear c12b0
                try clear c12b1
                try clear c14
                try clear c18
                try clear c18b0
                try clear c19
                try clear c19b0
                try clear p20
                try clear q20
                try clear hx20
                try clear c21
                try clear c21b0
                try clear p22
                try clear q22
                try clear hx22
                try clear c23
                try clear c23b0
                try clear c24
                try clear p2
                try clear p20
                try clear p22
                try clear p9
                try clear q20
                try clear q22
                try clear q9
                obtain ⟨kq, x53_16, rfl, HA, HJ16, HO_4, HB⟩ := hcut
                cases kq with
                | zero => exact absurd HA.out (by simp [spec_address.j2])
                | succ kj16 =>
                  have H := HA.out
                  clear HA
                  simp only [spec_address.j2] at H
                  by_cases c25 : x53_16 = true
                  · subst c25
                    have H1 : (some (([] : List Int), false)) = some (r1, r2) := by rw [if_pos rfl] at H; exact H
                    clear H
                    have H := H1
                    clear H1
                    simp only [Option.some.injEq, Prod.mk.injEq] at H
                    obtain ⟨rfl, rfl⟩ := H
                    go_wp2
                    go_ret2
                    exact ⟨_, by first | rfl | (simp [errW_none, errW_some] <;> rfl) | (simp [*, errW_none, errW_some] <;> rfl), by first | exact Kd.R_nil _ _ _ _ _ | exact Kd.N_nil _ _ _ _ _ | exact Kd.V_nil _ _ _ _ _ | exact Kd.Q_nil _ _ _ _ _ | exact Kd.S_nil _ _ _ _ _, by repeat (first | (with_reducible first | exact HB.out | apply below_alloc | apply pw_below_drewN | apply below_drew1) | exact HB.out)⟩
                  · replace c25 := Bool.eq_false_iff.mpr c25
                    subst c25
                    have H1 : (if 0 ≤ x7_1 then (if x7_1 < (a0.size : Int) then (if (wrap64 ((wrap64 (10 * x5_1)) + (((bt a0 x7_1) - 48) % 256))) > 255 then (some (([] : List Int), false)) else (spec_address.l0 kj16 a0 x4_1 (wrap64 ((wrap64 (10 * x5_1)) + (((bt a0 x7_1) - 48) % 256))) true (wrap64 (x7_1 + 1)))) else (none)) else (none)) = some (r1, r2) := by rw [if_neg (show ¬ (false = true) by decide)] at H; exact H
                    clear H
                    have H := H1
                    clear H1
                    by_cases c26 : 0 ≤ x7_1
                    · rw [if_pos c26] at H
                      have c26b0 : decide (0 ≤ x7_1) = true := decide_eq_true c26
                      clear c26
                      by_cases c27 : x7_1 < (a0.size : Int)
                      · rw [if_pos c27] at H
                        have c27b0 : decide (x7_1 < (a0.size : Int)) = true := decide_eq_true c27
                        clear c27
                        by_cases c29 : (wrap64 ((wrap64 (10 * x5_1)) + (((bt a0 x7_1) - 48) % 256))) > 255
                        · rw [if_pos c29] at H
                          have c29b0 : decide (255 < (wrap64 ((wrap64 (10 * x5_1)) + (((bt a0 x7_1) - 48) % 256)))) = true := decide_eq_true c29
                          clear c29
                          simp only [Option.some.injEq, Prod.mk.injEq] at H
                          obtain ⟨rfl, rfl⟩ := H
                          have p28 : 0 ≤ (x7_1 : Int) := of_decide_eq_true (by first | (with_reducible assumption) | assumption)
                          have q28 : x7_1 < (a0.size : Int) := of_decide_eq_true (by first | (with_reducible assumption) | assumption)
                          have hx28 := bt_at a0 x7_1
                          replace p28 := eq_true p28
                          replace q28 := eq_true q28
                          go_wp2
                          go_ret2
                          exact ⟨_, by first | rfl | (simp [errW_none, errW_some] <;> rfl) | (simp [*, errW_none, errW_some] <;> rfl), by first | exact Kd.R_nil _ _ _ _ _ | exact Kd.N_nil _ _ _ _ _ | exact Kd.V_nil _ _ _ _ _ | exact Kd.Q_nil _ _ _ _ _ | exact Kd.S_nil _ _ _ _ _, by repeat (first | (with_reducible first | exact HB.out | apply below_alloc | apply pw_below_drewN | apply below_drew1) | exact HB.out)⟩
                        · rw [if_neg c29] at H
                          have c29b0 : decide (255 < (wrap64 ((wrap64 (10 * x5_1)) + (((bt a0 x7_1) - 48) % 256)))) = false := decide_eq_false c29
                          clear c29
                          have H' := Aside0.mk H
                          clear H
                          have p28 : 0 ≤ (x7_1 : Int) := of_decide_eq_true (by first | (with_reducible assumption) | assumption)
                          have q28 : x7_1 < (a0.size : Int) := of_decide_eq_true (by first | (with_reducible assumption) | assumption)
                          have hx28 := bt_at a0 x7_1
                          replace p28 := eq_true p28
                          replace q28 := eq_true q28
                          go_wp2
                          go_roundg kj16
                          case measure => have := HK1.out; have := HJ4.out; have := HJ16.out; omega
                          case rel => exact ⟨(x4_1), (wrap64 ((wrap64 (10 * x5_1)) + (((bt a0 x7_1) - 48) % 256))), (true), (wrap64 (x7_1 + 1)), (by first | rfl | (simp; done) | (simp [*]; done)), (by first | rfl | (simp; done) | (simp [*]; done)), (by first | rfl | (simp; done) | (simp [*]; done)), H', ⟨by have := HK1.out; have := HJ4.out; have := HJ16.out; omega⟩, ⟨by (with_reducible repeat (first | apply Kd.R_alloc | apply Kd.R_drewN | apply Kd.R_drew)); exact HO_4.out⟩, ⟨by repeat (first | (with_reducible first | exact HB.out | apply below_alloc | apply pw_below_drewN | apply below_drew1) | exact HB.out)⟩⟩
                      · rw [if_neg c27] at H
                        exact absurd H (by simp)
                    · rw [if_neg c26] at H
                      exact absurd H (by simp)
      · rw [if_neg c4] at H
        have c4b0 : decide (x7_1 ≤ (a0.size : Int)) = false := decide_eq_false c4
        clear c4
        simp only [Option.some.injEq, Prod.mk.injEq] at H
        obtain ⟨rfl, rfl⟩ := H
        obtain ⟨Ao30, co30, eo30⟩ := Kd.R_slice HO_4.out
        subst eo30
        go_wp2
        go_ret2
        exact ⟨_, by first | rfl | (simp [errW_none, errW_some] <;> rfl) | (simp [*, errW_none, errW_some] <;> rfl), by (with_reducible repeat (first | apply Kd.R_alloc | apply Kd.R_drewN | apply Kd.R_drew)); exact HO_4.out, by repeat (first | (with_reducible first | exact HB.out | apply below_alloc | apply pw_below_drewN | apply below_drew1) | exact HB.out)⟩
def spec_Uint.l0 : Nat → Int → List Int → Option (List Int)
  | 0, _, _ => none
  | k + 1, x0, x3 => if x0 > 255 then ((some (([(x0 / 256) % 256] : List Int) : List Int)).bind fun y156 => (if y156.length + x3.length < 140737488355328 then (spec_Uint.l0 k (x0 / 256) (y156 ++ x3)) else (none))) else (if 0 < (x3.length : Int) then (if (rd x3 0) > 127 then ((some (([0] : List Int) : List Int)).bind fun y163 => (if y163.length + x3.length < 140737488355328 then (some (y163 ++ x3)) else (none))) else (some x3)) else (none))
def spec_Uint.f (k : Nat) (a0 : Int) : Option (List Int) := spec_Uint.l0 k a0 (([(a0) % 256] : List Int))
theorem spec_Uint.mono_l : ∀ k, (∀ y0 y1, LeO (spec_Uint.l0 k y0 y1) (spec_Uint.l0 (k + 1) y0 y1))
  | 0 => fun _ _ r h => by simp [spec_Uint.l0] at h
  | k + 1 => by
    have ih0 := spec_Uint.mono_l k
    · intro y0 y1
      unfold spec_Uint.l0
      repeat' first
      | (with_reducible exact ih0 _ _)
      | (with_reducible exact LeO.refl _)
      | (with_reducible exact LeO.none _)
      | (with_reducible refine LeO.ite ?_ ?_)
      | (with_reducible refine LeO.bind ?_ (fun _ => ?_))
      | exact ih0 _ _
      | exact LeO.none _
      | refine LeO.ite ?_ ?_
      | refine LeO.bind ?_ (fun _ => ?_)
theorem spec_Uint.mono : ∀ a0 k, LeO (spec_Uint.f k a0) (spec_Uint.f (k + 1) a0) := by
  intro a0 k
  have ih0 := spec_Uint.mono_l k
  unfold spec_Uint.f
  repeat' first
      | (with_reducible exact ih0 _ _)
      | (with_reducible exact LeO.refl _)
      | (with_reducible exact LeO.none _)
      | (with_reducible refine LeO.ite ?_ ?_)
      | (with_reducible refine LeO.bind ?_ (fun _ => ?_))
      | exact ih0 _ _
      | exact LeO.none _
      | refine LeO.ite ?_ ?_
      | refine LeO.bind ?_ (fun _ => ?_)
set_option maxHeartbeats 8000000 in
set_option maxRecDepth 100000 in
theorem spec_Uint.calls (k : Nat) (a0 : Int) (r : List Int) (w : World) (h : spec_Uint.f k a0 = some r) :
    Calls Tryd.prog 46 #[.int .u64 a0] w fun e w' => ∃ v0_ : Value, e = .returned (v0_) ∧ Kd.R (Kd.int .u8) 5 w' w.heap.size (fun _ => True) v0_ r ∧ Below w.heap.size w w' := by
  have HB := Aside0.mk (Below.refl w.heap.size w)
  have H : (spec_Uint.l0 k a0 (([(a0) % 256] : List Int))) = some r := h
  clear h
  obtain ⟨y153, hy153⟩ : ∃ y_ : List Int, y_ = (([(a0) % 256] : List Int)) := ⟨_, rfl⟩
  replace H : (spec_Uint.l0 k a0 y153) = some r := by first | (rw [hy153]; with_reducible exact H) | (have H2_ := (Option.bind_some _ _).symm.trans H; rw [hy153]; with_reducible exact H2_) | (have H2_ := (Option.bind_some _ _).symm.trans H; with_reducible exact H2_) | with_reducible exact H | (rw [hy153]; exact H) | exact H
  have Ny153 := Aside0.mk hy153
  clear hy153
  have H' := Aside0.mk H
  clear H
  go_enter Tryd.func46, Tryd.ntmps46
  go_wp2_with (first | ((with_reducible refine gate_dst (N := 6) rfl ?_); refine Kd.R_lit (Kd.int .u8) _ 5 ?hg (N := 6) ?hd (xs := ([(a0) % 256] : List Int)) (inner := [.int .u8 ((a0) % 256)]) (ok := fun _ => True) (okp := fun _ => True) ?hr ?hp (fun _ hk => hk) trivial (Below.refl _ _) (Nat.le_refl _) (by simp) ?_; (case hd => rfl); (case hg => rfl); (case hr => first | (go_simp; done) | (go_simp; rfl)); (case hp => exact (Reps.one (show Kd.M (Kd.int .u8) _ _ _ ((a0) % 256) [.int .u8 ((a0) % 256)] from rfl) (Reps.none _ _))); intro v154 w2 ho3 hb hg_ hnew_; clear hg_ hnew_; (first | rw [← Ny153.out] at ho3 | (simp only [Int.reduceToNat] at ho3; rw [← Ny153.out] at ho3)); have n0_ := Aside0.mk (Kd.R_lower ho3 (below_size (by repeat (first | (with_reducible first | exact HB.out | apply below_alloc | apply pw_below_drewN | apply below_drew1) | exact HB.out)))); have n1_ := Aside0.mk (below_step (by repeat (first | (with_reducible first | exact HB.out | apply below_alloc | apply pw_below_drewN | apply below_drew1) | exact HB.out)) hb); clear HB; have HO155 := n0_; have HB := n1_; clear n0_ n1_; clear hb ho3))
  go_loopg [0, 3] k (fun kq v0 v3 w' => ∃ (x0_1 : Int) (x3_1 : List Int), v0 = .int .u64 x0_1 ∧ Aside0 (spec_Uint.l0 kq x0_1 x3_1 = some r) ∧ Aside0 (kq ≤ k) ∧ Aside0 (Kd.R (Kd.int .u8) 5 w' w.heap.size (fun _ => True) v3 x3_1) ∧ Aside0 (Below w.heap.size w w'))
  case atStart => exact ⟨(a0), (y153), (by first | rfl | (simp; done) | (simp [*]; done)), H', ⟨Nat.le_refl _⟩, ⟨by (with_reducible repeat (first | apply Kd.R_alloc | apply Kd.R_drewN | apply Kd.R_drew)); exact HO155.out⟩, ⟨by repeat (first | (with_reducible first | exact HB.out | apply below_alloc | apply pw_below_drewN | apply below_drew1) | exact HB.out)⟩⟩
  case round =>
    clear H'
    try clear p2
    obtain ⟨x0_1, x3_1, rfl, HA, HK1, HO_3, HB⟩ := hrel
    cases gk with
    | zero => exact absurd HA.out (by simp [spec_Uint.l0])
    | succ k1 =>
      have H := HA.out
      clear HA
      simp only [spec_Uint.l0] at H
      by_cases c4 : x0_1 > 255
      · rw [if_pos c4] at H
        have c4b0 : decide (255 < x0_1) = true := decide_eq_true c4
        clear c4
        obtain ⟨y156, hy156⟩ : ∃ y_ : List Int, y_ = (([(x0_1 / 256) % 256] : List Int)) := ⟨_, rfl⟩
        replace H : (if y156.length + x3_1.length < 140737488355328 then (spec_Uint.l0 k1 (x0_1 / 256) (y156 ++ x3_1)) else (none)) = some r := by first | (rw [hy156]; with_reducible exact H) | (have H2_ := (Option.bind_some _ _).symm.trans H; rw [hy156]; with_reducible exact H2_) | (have H2_ := (Option.bind_some _ _).symm.trans H; with_reducible exact H2_) | with_reducible exact H | (rw [hy156]; exact H) | exact H
        have Ny156 := Aside0.mk hy156
        clear hy156
        by_cases c5 : y156.length + x3_1.length < 140737488355328
        · rw [if_pos c5] at H
          have LMc5 := Aside0.mk c5
          clear c5
          obtain ⟨y159, hy159⟩ : ∃ y_ : List Int, y_ = (y156 ++ x3_1) := ⟨_, rfl⟩
          replace H : (spec_Uint.l0 k1 (x0_1 / 256) y159) = some r := by first | (rw [hy159]; with_reducible exact H) | (have H2_ := (Option.bind_some _ _).symm.trans H; rw [hy159]; with_reducible exact H2_) | (have H2_ := (Option.bind_some _ _).symm.trans H; with_reducible exact H2_) | with_reducible exact H | (rw [hy159]; exact H) | exact H
          have Ny159 := Aside0.mk hy159
          clear hy159
          have H' := Aside0.mk H
          clear H
          go_wp2_with (first | ((with_reducible refine gate_dst (N := 13) rfl ?_); refine Kd.R_lit (Kd.int .u8) _ 5 ?hg (N := 13) ?hd (xs := ([(x0_1 / 256) % 256] : List Int)) (inner := [.int .u8 ((x0_1 / 256) % 256)]) (ok := fun _ => True) (okp := fun _ => True) ?hr ?hp (fun _ hk => hk) trivial (Below.refl _ _) (Nat.le_refl _) (by simp) ?_; (case hd => rfl); (case hg => rfl); (case hr => first | (go_simp; done) | (go_simp; rfl)); (case hp => exact (Reps.one (show Kd.M (Kd.int .u8) _ _ _ ((x0_1 / 256) % 256) [.int .u8 ((x0_1 / 256) % 256)] from rfl) (Reps.none _ _))); intro v157 w6 ho7 hb hg_ hnew_; clear hg_ hnew_; (first | rw [← Ny156.out] at ho7 | (simp only [Int.reduceToNat] at ho7; rw [← Ny156.out] at ho7)); have n0_ := Aside0.mk (Kd.R_elder' (by (with_reducible repeat (first | apply Kd.R_alloc | apply Kd.R_drewN | apply Kd.R_drew)); exact HO_3.out) (Kd.R_base ho7) hb); have n1_ := Aside0.mk (Kd.R_lower (Kd.R_new' ho7 (Kd.R_lt (by (with_reducible repeat (first | apply Kd.R_alloc | apply Kd.R_drewN | apply Kd.R_drew)); exact HO_3.out))) (below_size (by repeat (first | (with_reducible first | exact HB.out | apply below_alloc | apply pw_below_drewN | apply below_drew1) | exact HB.out)))); have n2_ := Aside0.mk (below_step (by repeat (first | (with_reducible first | exact HB.out | apply below_alloc | apply pw_below_drewN | apply below_drew1) | exact HB.out)) hb); clear HO_3; clear HB; have HO_3 := n0_; have HO158 := n1_; have HB := n2_; clear n0_ n1_ n2_; clear hb ho7; obtain ⟨Ao9, co9, eo9⟩ := Kd.R_slice HO_3.out; subst eo9) | ((with_reducible refine gate_builtin (b := .append) (xs := #[.tmp 13, .tmp 14]) rfl ?_); at_builtin; refine Kd.R_append_rows (Kd.int .u8) (w0 := w) w.heap.size rfl (.tmp 13) (.tmp 14) 26 5 (.int .u8 0) 1 rfl Tryd.underlying26 info5 rfl (by decide) (by omega) v157 y156 x3_1 _ _ _ (fun k_ => some k_ ≠ (.slice Ao9 x3_1.length co9 : Value).ownBlock) (fun _ => False) rfl rfl ?aO ?aR (fun _ _ h => h) (fun _ h => h.elim) ?aF ?aB ?aS ?aL ?_; (case aR => repeat (first | exact (Kd.R_reads' HO_3.out).2.2 | (with_reducible refine Kd.C_alloc ?_ _) | (with_reducible refine Kd.C_drewN ?_ _) | (with_reducible refine Kd.C_drew ?_))); (case aB => exact (by repeat (first | (with_reducible first | exact HB.out | apply below_alloc | apply pw_below_drewN | apply below_drew1) | exact HB.out))); (case aF => exact (fun k_ hk => Kd.fresh' (Kd.R_lt (by (with_reducible repeat (first | apply Kd.R_alloc | apply Kd.R_drewN | apply Kd.R_drew)); exact HO_3.out)) k_ hk)); (case aO => exact (by (with_reducible repeat (first | apply Kd.R_alloc | apply Kd.R_drewN | apply Kd.R_drew)); exact Kd.R_mono HO158.out (fun _ hk => hk.2))); (case aS => exact (below_size (by repeat (first | (with_reducible first | exact HB.out | apply below_alloc | apply pw_below_drewN | apply below_drew1) | exact HB.out)))); (case aL => have := LMc5.out; omega); intro v160 w8 ho hb hg hat; rw [← Ny159.out] at ho; have n0_ := Aside0.mk (Kd.R_after (ok := (fun _ => True)) (by (with_reducible repeat (first | apply Kd.R_alloc | apply Kd.R_drewN | apply Kd.R_drew)); exact HO_3.out) hg hat); have n1_ := Aside0.mk (hb); have n2_ := Aside0.mk (ho); clear HO_3; clear HB; clear HO158; have HO_3 := n0_; have HB := n1_; have HO161 := n2_; clear n0_ n1_ n2_; clear ho hb hg hat))
          go_roundg k1
          case measure => have := HK1.out; omega
          case rel => exact ⟨(x0_1 / 256), (y159), (by first | rfl | (simp; done) | (simp [*]; done)), H', ⟨by have := HK1.out; omega⟩, ⟨by (with_reducible repeat (first | apply Kd.R_alloc | apply Kd.R_drewN | apply Kd.R_drew)); exact Kd.R_mono HO161.out (fun _ hk => trivial)⟩, ⟨by repeat (first | (with_reducible first | exact HB.out | apply below_alloc | apply pw_below_drewN | apply below_drew1) | exact HB.out)⟩⟩
        · rw [if_neg c5] at H
          exact absurd H (by simp)
      · rw [if_neg c4] at H
        have c4b0 : decide (255 < x0_1) = false := decide_eq_false c4
        clear c4
        by_cases c10 : 0 < (x3_1.length : Int)
        · rw [if_pos c10] at H
          have c10b0 : decide (0 < (x3_1.length : Int)) = true := decide_eq_true c10
          have c10b1 : decide (0 < x3_1.length) = true := decide_eq_true (by omega)
          clear c10
          by_cases c11 : (rd x3_1 0) > 127
          · rw [if_pos c11] at H
            have c11b0 : decide (127 < (rd x3_1 0)) = true := decide_eq_true c11
            clear c11
            obtain ⟨y163, hy163⟩ : ∃ y_ : List Int, y_ = (([0] : List Int)) := ⟨_, rfl⟩
            replace H : (if y163.length + x3_1.length < 140737488355328 then (some (y163 ++ x3_1)) else (none)) = some r := by first | (rw [hy163]; with_reducible exact H) | (have H2_ := (Option.bind_some _ _).symm.trans H; rw [hy163]; with_reducible exact H2_) | (have H2_ := (Option.bind_some _ _).symm.trans H; with_reducible exact H2_) | with_reducible exact H | (rw [hy163]; exact H) | exact H
            have Ny163 := Aside0.mk hy163
            clear hy163
            by_cases c12 : y163.length + x3_1.length < 140737488355328
            · rw [if_pos c12] at H
              have LMc12 := Aside0.mk c12
              clear c12
              obtain ⟨y166, hy166⟩ : ∃ y_ : List Int, y_ = (y163 ++ x3_1) := ⟨_, rfl⟩
              replace H : (some y166) = some r := by first | (rw [hy166]; with_reducible exact H) | (have H2_ := (Option.bind_some _ _).symm.trans H; rw [hy166]; with_reducible exact H2_) | (have H2_ := (Option.bind_some _ _).symm.trans H; with_reducible exact H2_) | with_reducible exact H | (rw [hy166]; exact H) | exact H
              have Ny166 := Aside0.mk hy166
              clear hy166
              obtain rfl := Option.some.inj H
              obtain ⟨Ao13, co13, eo13⟩ := Kd.R_slice HO_3.out
              subst eo13
              have p162 : 0 ≤ (0 : Int) := (by omega)
              have q162 : 0 < (x3_1.length : Int) := of_decide_eq_true (by first | (with_reducible assumption) | assumption)
              obtain ⟨ad162, e162, hx162_0⟩ := Kd.at_int (Kd.R_reads' HO_3.out).2.2 0 p162 q162
              cases e162
              have qi162 : (0 < x3_1.length) = True := eq_true (by omega)
              (try rw [show ((0 : Int)).toNat = 0 from rfl] at hx162_0)
              (try rw [Addr.add_zero'] at hx162_0)
              replace p162 := eq_true p162
              replace q162 := eq_true q162
              go_wp2_with (first | ((with_reducible refine gate_dst (N := 20) rfl ?_); refine Kd.R_lit (Kd.int .u8) _ 5 ?hg (N := 20) ?hd (xs := ([0] : List Int)) (inner := [.int .u8 0]) (ok := fun _ => True) (okp := fun _ => True) ?hr ?hp (fun _ hk => hk) trivial (Below.refl _ _) (Nat.le_refl _) (by simp) ?_; (case hd => rfl); (case hg => rfl); (case hr => first | (go_simp; done) | (go_simp; rfl)); (case hp => exact (Reps.one (show Kd.M (Kd.int .u8) _ _ _ 0 [.int .u8 0] from rfl) (Reps.none _ _))); intro v164 w14 ho15 hb hg_ hnew_; clear hg_ hnew_; (first | rw [← Ny163.out] at ho15 | (simp only [Int.reduceToNat] at ho15; rw [← Ny163.out] at ho15)); have n0_ := Aside0.mk (Kd.R_elder' (by (with_reducible repeat (first | apply Kd.R_alloc | apply Kd.R_drewN | apply Kd.R_drew)); exact HO_3.out) (Kd.R_base ho15) hb); have n1_ := Aside0.mk (Kd.R_lower (Kd.R_new' ho15 (Kd.R_lt (by (with_reducible repeat (first | apply Kd.R_alloc | apply Kd.R_drewN | apply Kd.R_drew)); exact HO_3.out))) (below_size (by repeat (first | (with_reducible first | exact HB.out | apply below_alloc | apply pw_below_drewN | apply below_drew1) | exact HB.out)))); have n2_ := Aside0.mk (below_step (by repeat (first | (with_reducible first | exact HB.out | apply below_alloc | apply pw_below_drewN | apply below_drew1) | exact HB.out)) hb); clear HO_3; clear HB; have HO_3 := n0_; have HO165 := n1_; have HB := n2_; clear n0_ n1_ n2_; clear hb ho15) | ((with_reducible refine gate_builtin (b := .append) (xs := #[.tmp 20, .tmp 21]) rfl ?_); at_builtin; refine Kd.R_append_rows (Kd.int .u8) (w0 := w) w.heap.size rfl (.tmp 20) (.tmp 21) 26 5 (.int .u8 0) 1 rfl Tryd.underlying26 info5 rfl (by decide) (by omega) v164 y163 x3_1 _ _ _ (fun k_ => some k_ ≠ (.slice (some ad162) x3_1.length co13 : Value).ownBlock) (fun _ => False) rfl rfl ?aO ?aR (fun _ _ h => h) (fun _ h => h.elim) ?aF ?aB ?aS ?aL ?_; (case aR => repeat (first | exact (Kd.R_reads' HO_3.out).2.2 | (with_reducible refine Kd.C_alloc ?_ _) | (with_reducible refine Kd.C_drewN ?_ _) | (with_reducible refine Kd.C_drew ?_))); (case aB => exact (by repeat (first | (with_reducible first | exact HB.out | apply below_alloc | apply pw_below_drewN | apply below_drew1) | exact HB.out))); (case aF => exact (fun k_ hk => Kd.fresh' (Kd.R_lt (by (with_reducible repeat (first | apply Kd.R_alloc | apply Kd.R_drewN | apply Kd.R_drew)); exact HO_3.out)) k_ hk)); (case aO => exact (by (with_reducible repeat (first | apply Kd.R_alloc | apply Kd.R_drewN | apply Kd.R_drew)); exact Kd.R_mono HO165.out (fun _ hk => hk.2))); (case aS => exact (below_size (by repeat (first | (with_reducible first | exact HB.out | apply below_alloc | apply pw_below_drewN | apply below_drew1) | exact HB.out)))); (case aL => have := LMc12.out; omega); intro v167 w16 ho hb hg hat; rw [← Ny166.out] at ho; have n0_ := Aside0.mk (Kd.R_after (ok := (fun _ => True)) (by (with_reducible repeat (first | apply Kd.R_alloc | apply Kd.R_drewN | apply Kd.R_drew)); exact HO_3.out) hg hat); have n1_ := Aside0.mk (hb); have n2_ := Aside0.mk (ho); clear HO_3; clear HB; clear HO165; have HO_3 := n0_; have HB := n1_; have HO168 := n2_; clear n0_ n1_ n2_; clear ho hb hg hat))
              go_ret
              exact ⟨_, by first | rfl | (simp [errW_none, errW_some] <;> rfl) | (simp [*, errW_none, errW_some] <;> rfl), by (with_reducible repeat (first | apply Kd.R_alloc | apply Kd.R_drewN | apply Kd.R_drew)); exact Kd.R_mono HO168.out (fun _ hk => trivial), by repeat (first | (with_reducible first | exact HB.out | apply below_alloc | apply pw_below_drewN | apply below_drew1) | exact HB.out)⟩
            · rw [if_neg c12] at H
              exact absurd H (by simp)
          · rw [if_neg c11] at H
            have c11b0 : decide (127 < (rd x3_1 0)) = false := decide_eq_false c11
            clear c11
            obtain rfl := Option.some.inj H
            obtain ⟨Ao17, co17, eo17⟩ := Kd.R_slice HO_3.out
            subst eo17
            have p162 : 0 ≤ (0 : Int) := (by omega)
            have q162 : 0 < (x3_1.length : Int) := of_decide_eq_true (by first | (with_reducible assumption) | assumption)
            obtain ⟨ad162, e162, hx162_0⟩ := Kd.at_int (Kd.R_reads' HO_3.out).2.2 0 p162 q162
            cases e162
            have qi162 : (0 < x3_1.length) = True := eq_true (by omega)
            (try rw [show ((0 : Int)).toNat = 0 from rfl] at hx162_0)
            (try rw [Addr.add_zero'] at hx162_0)
            replace p162 := eq_true p162
            replace q162 := eq_true q162
            go_wp2
            go_ret
            exact ⟨_, by first | rfl | (simp [errW_none, errW_some] <;> rfl) | (simp [*, errW_none, errW_some] <;> rfl), by (with_reducible repeat (first | apply Kd.R_alloc | apply Kd.R_drewN | apply Kd.R_drew)); exact HO_3.out, by repeat (first | (with_reducible first | exact HB.out | apply below_alloc | apply pw_below_drewN | apply below_drew1) | exact HB.out)⟩
        · rw [if_neg c10] at H
          exact absurd H (by simp)
end Go.Proofs.YtangjgclpipjdaaDoor.PFnValue
