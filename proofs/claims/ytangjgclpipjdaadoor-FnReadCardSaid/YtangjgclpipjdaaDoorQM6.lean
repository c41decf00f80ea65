/- The lemmas and walks that FnDecode and FnCut and FnRead rests on, part 6: PFnValuex8. -/
import Derived.Test.YtangjgclpipjdaaDoorQM3
namespace Go.Proofs.YtangjgclpipjdaaDoor.PFnValue
open Go.RowKit Go.Proofs.YtangjgclpipjdaaDoorW.PrintWords Go.Proofs.YtangjgclpipjdaaDoorW.PrintLast Go.Proofs.YtangjgclpipjdaaDoorW.PrintMore
attribute [local go_sem] max2_int min2_int max_two min_two max_three min_three max_four min_four   -- for this text's walks alone
set_option linter.unusedVariables false
set_option linter.unusedSimpArgs false
mutual
def spec_OfInt.j0 : Nat → List Int → Bool → Option (Int × Bool)
  | 0, _, _ => none
  | k + 1, x0, x14 => if x14 = true then (some (0, false)) else (if 0 < (x0.length : Int) then (if (rd x0 0) > 127 then (spec_OfInt.j1 k x0 (-1)) else (spec_OfInt.j1 k x0 0)) else (none))
def spec_OfInt.j1 : Nat → List Int → Int → Option (Int × Bool)
  | 0, _, _ => none
  | k + 1, x0, x4 => spec_OfInt.l0 k x4 x0 (x0.length : Int) 0
def spec_OfInt.l0 : Nat → Int → List Int → Int → Int → Option (Int × Bool)
  | 0, _, _, _, _ => none
  | k + 1, x4, x19, x20, x21 => if x21 < x20 then (if 0 ≤ x21 then (if x21 < (x19.length : Int) then (spec_OfInt.l0 k (Go.bits .or .i64 (wrap64 (x4 * 256)) (wrap64 (rd x19 x21))) x19 x20 (wrap64 (x21 + 1))) else (none)) else (none)) else (some (x4, true))
end
def spec_OfInt.f (k : Nat) (l0 : List Int) : Option (Int × Bool) := if (l0.length : Int) = 0 then (spec_OfInt.j0 k l0 true) else (spec_OfInt.j0 k l0 (decide ((l0.length : Int) > 8)))
theorem spec_OfInt.mono_l : ∀ k, (∀ y0 y1, LeO (spec_OfInt.j0 k y0 y1) (spec_OfInt.j0 (k + 1) y0 y1)) ∧ (∀ y0 y1, LeO (spec_OfInt.j1 k y0 y1) (spec_OfInt.j1 (k + 1) y0 y1)) ∧ (∀ y0 y1 y2 y3, LeO (spec_OfInt.l0 k y0 y1 y2 y3) (spec_OfInt.l0 (k + 1) y0 y1 y2 y3))
  | 0 => ⟨fun _ _ r h => by simp [spec_OfInt.j0] at h, fun _ _ r h => by simp [spec_OfInt.j1] at h, fun _ _ _ _ r h => by simp [spec_OfInt.l0] at h⟩
  | k + 1 => by
    obtain ⟨ih0, ih1, ih2⟩ := spec_OfInt.mono_l k
    refine ⟨?_, ?_, ?_⟩
    · intro y0 y1
      unfold spec_OfInt.j0
      repeat' first
      | (with_reducible exact ih0 _ _)
      | (with_reducible exact ih1 _ _)
      | (with_reducible exact ih2 _ _ _ _)
      | (with_reducible exact LeO.refl _)
      | (with_reducible exact LeO.none _)
      | (with_reducible refine LeO.ite ?_ ?_)
      | (with_reducible refine LeO.bind ?_ (fun _ => ?_))
      | exact ih0 _ _
      | exact ih1 _ _
      | exact ih2 _ _ _ _
      | exact LeO.none _
      | refine LeO.ite ?_ ?_
      | refine LeO.bind ?_ (fun _ => ?_)
    · intro y0 y1
      unfold spec_OfInt.j1
      repeat' first
      | (with_reducible exact ih0 _ _)
      | (with_reducible exact ih1 _ _)
      | (with_reducible exact ih2 _ _ _ _)
      | (with_reducible exact LeO.refl _)
      | (with_reducible exact LeO.none _)
      | (with_reducible refine LeO.ite ?_ ?_)
      | (with_reducible refine LeO.bind ?_ (fun _ => ?_))
      | exact ih0 _ _
      | exact ih1 _ _
      | exact ih2 _ _ _ _
      | exact LeO.none _
      | refine LeO.ite ?_ ?_
      | refine LeO.bind ?_ (fun _ => ?_)
    · intro y0 y1 y2 y3
      unfold spec_OfInt.l0
      repeat' first
      | (with_reducible exact ih0 _ _)
      | (with_reducible exact ih1 _ _)
      | (with_reducible exact ih2 _ _ _ _)
      | (with_reducible exact LeO.refl _)
      | (with_reducible exact LeO.none _)
      | (with_reducible refine LeO.ite ?_ ?_)
      | (with_reducible refine LeO.bind ?_ (fun _ => ?_))
      | exact ih0 _ _
      | exact ih1 _ _
      | exact ih2 _ _ _ _
      | exact LeO.none _
      | refine LeO.ite ?_ ?_
      | refine LeO.bind ?_ (fun _ => ?_)
theorem spec_OfInt.mono : ∀ a0 k, LeO (spec_OfInt.f k a0) (spec_OfInt.f (k + 1) a0) := by
  intro a0 k
  obtain ⟨ih0, ih1, ih2⟩ := spec_OfInt.mono_l k
  unfold spec_OfInt.f
  repeat' first
      | (with_reducible exact ih0 _ _)
      | (with_reducible exact ih1 _ _)
      | (with_reducible exact ih2 _ _ _ _)
      | (with_reducible exact LeO.refl _)
      | (with_reducible exact LeO.none _)
      | (with_reducible refine LeO.ite ?_ ?_)
      | (with_reducible refine LeO.bind ?_ (fun _ => ?_))
      | exact ih0 _ _
      | exact ih1 _ _
      | exact ih2 _ _ _ _
      | exact LeO.none _
      | refine LeO.ite ?_ ?_
      | refine LeO.bind ?_ (fun _ => ?_)
set_option maxHeartbeats 8000000 in
set_option maxRecDepth 100000 in
theorem spec_OfInt.calls (k : Nat) (A0 : Option Addr) (c0 : Nat) (l0 : List Int) (r1 : Int) (r2 : Bool) (w : World) (hr0 : Kd.C (Kd.int .u8) w A0 l0.length l0) (hc0 : l0.length ≤ c0) (h : spec_OfInt.f k l0 = some (r1, r2)) :
    Calls Tryd.prog 33 #[.slice A0 l0.length c0] w fun e w' => e = .returned (.tuple #[.int .i64 r1, .bool r2]) ∧ Drawn0 w w' := by
  have HR0 := Aside0.mk hr0
  have HC0 := Aside0.mk hc0
  clear hr0 hc0
  have H : (if (l0.length : Int) = 0 then (spec_OfInt.j0 k l0 true) else (spec_OfInt.j0 k l0 (decide ((l0.length : Int) > 8)))) = some (r1, r2) := h
  clear h
  have HC2 := Aside0.mk H
  clear H
  go_enter Tryd.func33, Tryd.ntmps33
  go_upto_region 1 with (fail)
  go_cut [14] (fun v14 wc => ∃ (kq : Nat) (x14_1 : Bool), v14 = .bool x14_1 ∧ Aside0 (spec_OfInt.j0 kq l0 x14_1 = some (r1, r2)) ∧ Aside0 (kq ≤ k) ∧ Drawn0 w wc)
  case first =>
    have H := HC2.out
    clear HC2
    by_cases c3 : (l0.length : Int) = 0
    · rw [if_pos c3] at H
      have c3b0 : ((l0.length : Int) == 0) = true := beq_iff_eq.mpr c3
      have c3b1 : ((l0.length : Int) != 0) = false := bne_eq_false_iff_eq.mpr c3
      clear c3
      (first | rw [c3b0] | (simp only [i64_w, i32_w]; rw [c3b0]) | skip)
      have H' := Aside0.mk H
      clear H
      go_wp2
      go_meet
      case rel => exact ⟨_, (true), (by first | rfl | (simp; done) | (simp [*]; done)), H', ⟨by first | omega | exact Nat.le_refl _⟩, by repeat (first | exact Drawn0.refl _ | apply Drawn0.step)⟩
    · rw [if_neg c3] at H
      have c3b0 : ((l0.length : Int) == 0) = false := beq_eq_false_iff_ne.mpr c3
      have c3b1 : ((l0.length : Int) != 0) = true := bne_iff_ne.mpr c3
      have c3b2 : ¬ (l0 = []) := fun h_ => c3 (by rw [h_]; rfl)
      (first | rw [c3b0] | (simp only [i64_w, i32_w]; rw [c3b0]) | skip)
      have H' := Aside0.mk H
      clear H
      go_wp2
      go_meet
      case rel => exact ⟨_, (decide ((l0.length : Int) > 8)), (by first | rfl | (simp; done) | (simp [*]; done)), H', ⟨by first | omega | exact Nat.le_refl _⟩, by repeat (first | exact Drawn0.refl _ | apply Drawn0.step)⟩
  case rest =>
    clear HC2
    try clear p2
    try clear c3
    try clear c3b0
    try clear c3b1
    try clear c3b2
    obtain ⟨kq, x14_1, rfl, HA, HJ1, ⟨mc1, rfl⟩⟩ := hcut
    cases kq with
    | zero => exact absurd HA.out (by simp [spec_OfInt.j0])
    | succ kj1 =>
      have H := HA.out
      clear HA
      simp only [spec_OfInt.j0] at H
      by_cases c4 : x14_1 = true
      · subst c4
        have H1 : (some (0, false)) = some (r1, r2) := by rw [if_pos rfl] at H; exact H
        clear H
        have H := H1
        clear H1
        simp only [Option.some.injEq, Prod.mk.injEq] at H
        obtain ⟨rfl, rfl⟩ := H
        go_wp2
        go_ret2
        exact ⟨by first | rfl | (simp; done) | (simp [*]; done), by repeat (first | exact Drawn0.refl _ | apply Drawn0.step)⟩
      · replace c4 := Bool.eq_false_iff.mpr c4
        subst c4
        have H1 : (if 0 < (l0.length : Int) then (if (rd l0 0) > 127 then (spec_OfInt.j1 kj1 l0 (-1)) else (spec_OfInt.j1 kj1 l0 0)) else (none)) = some (r1, r2) := by rw [if_neg (show ¬ (false = true) by decide)] at H; exact H
        clear H
        have H := H1
        clear H1
        by_cases c5 : 0 < (l0.length : Int)
        · rw [if_pos c5] at H
          have c5b0 : decide (0 < (l0.length : Int)) = true := decide_eq_true c5
          have c5b1 : decide (0 < l0.length) = true := decide_eq_true (by omega)
          clear c5
          have HC6 := Aside0.mk H
          clear H
          have p306 : 0 ≤ (0 : Int) := (by omega)
          have q306 : 0 < (l0.length : Int) := of_decide_eq_true (by first | (with_reducible assumption) | assumption)
          obtain ⟨ad306, e306, hx306_0⟩ := Kd.at_int HR0.out 0 p306 q306
          cases e306
          have qi306 : (0 < l0.length) = True := eq_true (by omega)
          (try rw [show ((0 : Int)).toNat = 0 from rfl] at hx306_0)
          (try rw [Addr.add_zero'] at hx306_0)
          replace p306 := eq_true p306
          replace q306 := eq_true q306
          go_upto_if 18 with (fail)
          go_cut [4] (fun v4 wc => ∃ (kq : Nat) (x4_5 : Int), v4 = .int .i64 x4_5 ∧ Aside0 (spec_OfInt.j1 kq l0 x4_5 = some (r1, r2)) ∧ Aside0 (kq ≤ kj1) ∧ Drawn0 w wc)
          case first =>
            have H := HC6.out
            clear HC6
            by_cases c7 : (rd l0 0) > 127
            · rw [if_pos c7] at H
              have c7b0 : decide (127 < (rd l0 0)) = true := decide_eq_true c7
              clear c7
              (first | rw [c7b0] | (simp only [i64_w, i32_w]; rw [c7b0]) | skip)
              have H' := Aside0.mk H
              clear H
              go_wp2
              go_meet
              case rel => exact ⟨_, ((-1)), (by first | rfl | (simp; done) | (simp [*]; done)), H', ⟨by have := HJ1.out; first | omega | exact Nat.le_refl _⟩, by repeat (first | exact Drawn0.refl _ | apply Drawn0.step)⟩
            · rw [if_neg c7] at H
              have c7b0 : decide (127 < (rd l0 0)) = false := decide_eq_false c7
              clear c7
              (first | rw [c7b0] | (simp only [i64_w, i32_w]; rw [c7b0]) | skip)
              have H' := Aside0.mk H
              clear H
              go_wp2
              go_meet
              case rel => exact ⟨_, (0), (by first | rfl | (simp; done) | (simp [*]; done)), H', ⟨by have := HJ1.out; first | omega | exact Nat.le_refl _⟩, by repeat (first | exact Drawn0.refl _ | apply Drawn0.step)⟩
          case rest =>
            clear HC6
            try clear c1
            try clear p2
            try clear c3
            try clear c3b0
            try clear c3b1
            try clear c3b2
            try clear p3
            try clear q3
            try clear hx3
            try clear qi3
            try clear c4
            try clear c5
            try clear c5b0
            try clear c5b1
            try clear c7
            try clear c7b0
            try clear hx306_0
            try clear p2
            try clear p306
            try clear q306
            obtain ⟨kq, x4_5, rfl, HA, HJ5, ⟨mc5, rfl⟩⟩ := hcut
            cases kq with
            | zero => exact absurd HA.out (by simp [spec_OfInt.j1])
            | succ kj5 =>
              have H := HA.out
              clear HA
              simp only [spec_OfInt.j1] at H
              have H' := Aside0.mk H
              clear H
              go_wp2
              go_loopg [4, 21] kj5 (fun kq v4 v21 w' => ∃ (x4_3 : Int) (x21_3 : Int), v4 = .int .i64 x4_3 ∧ v21 = .int .i64 x21_3 ∧ Aside0 (spec_OfInt.l0 kq x4_3 l0 (l0.length : Int) x21_3 = some (r1, r2)) ∧ Aside0 (kq ≤ kj5) ∧ Drawn0 w w')
              case atStart => exact ⟨(x4_5), (0), (by first | rfl | (simp; done) | (simp [*]; done)), (by first | rfl | (simp; done) | (simp [*]; done)), H', ⟨Nat.le_refl _⟩, by repeat (first | exact Drawn0.refl _ | apply Drawn0.step)⟩
              case round =>
                clear H'
                try clear c1
                try clear p2
                try clear c3
                try clear c3b0
                try clear c3b1
                try clear c3b2
                try clear p3
                try clear q3
                try clear hx3
                try clear qi3
                try clear c4
                try clear c5
                try clear c5b0
                try clear c5b1
                try clear c7
                try clear c7b0
                try clear hx306_0
                try clear p2
                try clear p3
                try clear p306
                try clear q3
                try clear q306
                obtain ⟨x4_3, x21_3, rfl, rfl, HA, HK3, ⟨m3, rfl⟩⟩ := hrel
                cases gk with
                | zero => exact absurd HA.out (by simp [spec_OfInt.l0])
                | succ k3 =>
                  have H := HA.out
                  clear HA
                  simp only [spec_OfInt.l0] at H
                  by_cases c8 : x21_3 < (l0.length : Int)
                  · rw [if_pos c8] at H
                    have c8b0 : decide (x21_3 < (l0.length : Int)) = true := decide_eq_true c8
                    clear c8
                    by_cases c9 : 0 ≤ x21_3
                    · rw [if_pos c9] at H
                      have c9b0 : decide (0 ≤ x21_3) = true := decide_eq_true c9
                      clear c9
                      by_cases c10 : x21_3 < (l0.length : Int)
                      · rw [if_pos c10] at H
                        have c10b0 : decide (x21_3 < (l0.length : Int)) = true := decide_eq_true c10
                        clear c10
                        have H' := Aside0.mk H
                        clear H
                        have p307 : 0 ≤ (x21_3 : Int) := of_decide_eq_true (by first | (with_reducible assumption) | assumption)
                        have q307 : x21_3 < (l0.length : Int) := of_decide_eq_true (by first | (with_reducible assumption) | assumption)
                        obtain ⟨ad307, e307, hx307_0⟩ := Kd.at_int HR0.out x21_3 p307 q307
                        obtain rfl : ad306 = ad307 := (by injection e307)
                        replace p307 := eq_true p307
                        replace q307 := eq_true q307
                        go_wp2
                        go_roundg k3
                        case measure => have := HJ1.out; have := HJ5.out; have := HK3.out; omega
                        case rel => exact ⟨(Go.bits .or .i64 (wrap64 (x4_3 * 256)) (wrap64 (rd l0 x21_3))), (wrap64 (x21_3 + 1)), (by first | rfl | (simp; done) | (simp [*]; done)), (by first | rfl | (simp; done) | (simp [*]; done)), H', ⟨by have := HJ1.out; have := HJ5.out; have := HK3.out; omega⟩, by repeat (first | exact Drawn0.refl _ | apply Drawn0.step)⟩
                      · rw [if_neg c10] at H
                        exact absurd H (by simp)
                    · rw [if_neg c9] at H
                      exact absurd H (by simp)
                  · rw [if_neg c8] at H
                    have c8b0 : decide (x21_3 < (l0.length : Int)) = false := decide_eq_false c8
                    clear c8
                    simp only [Option.some.injEq, Prod.mk.injEq] at H
                    obtain ⟨rfl, rfl⟩ := H
                    go_wp2
                    go_ret2
                    exact ⟨by first | rfl | (simp; done) | (simp [*]; done), by repeat (first | exact Drawn0.refl _ | apply Drawn0.step)⟩
        · rw [if_neg c5] at H
          exact absurd H (by simp)
mutual
def spec_OfUint.j0 : Nat → List Int → Bool → Option (Int × Bool)
  | 0, _, _ => none
  | k + 1, x0, x15 => if x15 = true then (if 1 ≤ (x0.length : Int) then (spec_OfUint.j1 k (x0.drop 1)) else (none)) else (spec_OfUint.j1 k x0)
def spec_OfUint.j1 : Nat → List Int → Option (Int × Bool)
  | 0, _ => none
  | k + 1, x0 => if (x0.length : Int) = 0 then (spec_OfUint.j2 k x0 true) else (spec_OfUint.j2 k x0 (decide ((x0.length : Int) > 8)))
def spec_OfUint.j2 : Nat → List Int → Bool → Option (Int × Bool)
  | 0, _, _ => none
  | k + 1, x0, x25 => if x25 = true then (some (0, false)) else (spec_OfUint.l0 k 0 x0 (x0.length : Int) 0)
def spec_OfUint.l0 : Nat → Int → List Int → Int → Int → Option (Int × Bool)
  | 0, _, _, _, _ => none
  | k + 1, x4, x26, x27, x28 => if x28 < x27 then (if 0 ≤ x28 then (if x28 < (x26.length : Int) then (spec_OfUint.l0 k (Go.bits .or .u64 (IntKind.u64.wrap (x4 * 256)) (IntKind.u64.wrap (rd x26 x28))) x26 x27 (wrap64 (x28 + 1))) else (none)) else (none)) else (some (x4, true))
end
def spec_OfUint.f (k : Nat) (l0 : List Int) : Option (Int × Bool) := if (l0.length : Int) = 9 then (if 0 < (l0.length : Int) then (spec_OfUint.j0 k l0 ((rd l0 0) == 0)) else (none)) else (spec_OfUint.j0 k l0 false)
theorem spec_OfUint.mono_l : ∀ k, (∀ y0 y1, LeO (spec_OfUint.j0 k y0 y1) (spec_OfUint.j0 (k + 1) y0 y1)) ∧ (∀ y0, LeO (spec_OfUint.j1 k y0) (spec_OfUint.j1 (k + 1) y0)) ∧ (∀ y0 y1, LeO (spec_OfUint.j2 k y0 y1) (spec_OfUint.j2 (k + 1) y0 y1)) ∧ (∀ y0 y1 y2 y3, LeO (spec_OfUint.l0 k y0 y1 y2 y3) (spec_OfUint.l0 (k + 1) y0 y1 y2 y3))
  | 0 => ⟨fun _ _ r h => by simp [spec_OfUint.j0] at h, fun _ r h => by simp [spec_OfUint.j1] at h, fun _ _ r h => by simp [spec_OfUint.j2] at h, fun _ _ _ _ r h => by simp [spec_OfUint.l0] at h⟩
  | k + 1 => by
    obtain ⟨ih0, ih1, ih2, ih3⟩ := spec_OfUint.mono_l k
    refine ⟨?_, ?_, ?_, ?_⟩
    · intro y0 y1
      unfold spec_OfUint.j0
      repeat' first
      | (with_reducible exact ih0 _ _)
      | (with_reducible exact ih1 _)
      | (with_reducible exact ih2 _ _)
      | (with_reducible exact ih3 _ _ _ _)
      | (with_reducible exact LeO.refl _)
      | (with_reducible exact LeO.none _)
      | (with_reducible refine LeO.ite ?_ ?_)
      | (with_reducible refine LeO.bind ?_ (fun _ => ?_))
      | exact ih0 _ _
      | exact ih1 _
      | exact ih2 _ _
      | exact ih3 _ _ _ _
      | exact LeO.none _
      | refine LeO.ite ?_ ?_
      | refine LeO.bind ?_ (fun _ => ?_)
    · intro y0
      unfold spec_OfUint.j1
      repeat' first
      | (with_reducible exact ih0 _ _)
      | (with_reducible exact ih1 _)
      | (with_reducible exact ih2 _ _)
      | (with_reducible exact ih3 _ _ _ _)
      | (with_reducible exact LeO.refl _)
      | (with_reducible exact LeO.none _)
      | (with_reducible refine LeO.ite ?_ ?_)
      | (with_reducible refine LeO.bind ?_ (fun _ => ?_))
      | exact ih0 _ _
      | exact ih1 _
      | exact ih2 _ _
      | exact ih3 _ _ _ _
      | exact LeO.none _
      | refine LeO.ite ?_ ?_
      | refine LeO.bind ?_ (fun _ => ?_)
    · intro y0 y1
      unfold spec_OfUint.j2
      repeat' first
      | (with_reducible exact ih0 _ _)
      | (with_reducible exact ih1 _)
      | (with_reducible exact ih2 _ _)
      | (with_reducible exact ih3 _ _ _ _)
      | (with_reducible exact LeO.refl _)
      | (with_reducible exact LeO.none _)
      | (with_reducible refine LeO.ite ?_ ?_)
      | (with_reducible refine LeO.bind ?_ (fun _ => ?_))
      | exact ih0 _ _
      | exact ih1 _
      | exact ih2 _ _
      | exact ih3 _ _ _ _
      | exact LeO.none _
      | refine LeO.ite ?_ ?_
      | refine LeO.bind ?_ (fun _ => ?_)
    · intro y0 y1 y2 y3
      unfold spec_OfUint.l0
      repeat' first
      | (with_reducible exact ih0 _ _)
      | (with_reducible exact ih1 _)
      | (with_reducible exact ih2 _ _)
      | (with_reducible exact ih3 _ _ _ _)
      | (with_reducible exact LeO.refl _)
      | (with_reducible exact LeO.none _)
      | (with_reducible refine LeO.ite ?_ ?_)
      | (with_reducible refine LeO.bind ?_ (fun _ => ?_))
      | exact ih0 _ _
      | exact ih1 _
      | exact ih2 _ _
      | exact ih3 _ _ _ _
      | exact LeO.none _
      | refine LeO.ite ?_ ?_
      | refine LeO.bind ?_ (fun _ => ?_)
theorem spec_OfUint.mono : ∀ a0 k, LeO (spec_OfUint.f k a0) (spec_OfUint.f (k + 1) a0) := by
  intro a0 k
  obtain ⟨ih0, ih1, ih2, ih3⟩ := spec_OfUint.mono_l k
  unfold spec_OfUint.f
  repeat' first
      | (with_reducible exact ih0 _ _)
      | (with_reducible exact ih1 _)
      | (with_reducible exact ih2 _ _)
      | (with_reducible exact ih3 _ _ _ _)
      | (with_reducible exact LeO.refl _)
      | (with_reducible exact LeO.none _)
      | (with_reducible refine LeO.ite ?_ ?_)
      | (with_reducible refine LeO.bind ?_ (fun _ => ?_))
      | exact ih0 _ _
      | exact ih1 _
      | exact ih2 _ _
      | exact ih3 _ _ _ _
      | exact LeO.none _
      | refine LeO.ite ?_ ?_
      | refine LeO.bind ?_ (fun _ => ?_)
set_option maxHeartbeats 8000000 in
set_option maxRecDepth 100000 in
theorem spec_OfUint.calls (k : Nat) (P0_ : Nat → Prop) (A0 : Option Addr) (c0 : Nat) (l0 : List Int) (r1 : Int) (r2 : Bool) (w : World) (hs0 : Kd.V (Kd.int .u8) 5 w w.heap.size (fun k_ => P0_ k_) (.slice A0 l0.length c0) l0) (h : spec_OfUint.f k l0 = some (r1, r2)) :
    Calls Tryd.prog 35 #[.slice A0 l0.length c0] w fun e w' => e = .returned (.tuple #[.int .u64 r1, .bool r2]) ∧ Below w.heap.size w w' := by
  have HO0 := Aside0.mk (show Kd.V (Kd.int .u8) 5 w w.heap.size (fun k_ => (P0_ k_ ∨ w.heap.size ≤ k_)) (.slice A0 l0.length c0) l0 from Kd.V_mono hs0 (fun k_ hk => .inl hk))
  have HB := Aside0.mk (Below.refl w.heap.size w)
  have H : (if (l0.length : Int) = 9 then (if 0 < (l0.length : Int) then (spec_OfUint.j0 k l0 ((rd l0 0) == 0)) else (none)) else (spec_OfUint.j0 k l0 false)) = some (r1, r2) := h
  clear h
  have HC2 := Aside0.mk H
  clear H
  go_enter Tryd.func35, Tryd.ntmps35
  go_upto_region 1 with (fail)
  go_cut [15] (fun v15 wc => ∃ (kq : Nat) (x15_1 : Bool), v15 = .bool x15_1 ∧ Aside0 (spec_OfUint.j0 kq l0 x15_1 = some (r1, r2)) ∧ Aside0 (kq ≤ k) ∧ Aside0 (Kd.V (Kd.int .u8) 5 wc w.heap.size (fun k_ => (P0_ k_ ∨ w.heap.size ≤ k_)) (.slice A0 l0.length c0) l0) ∧ Aside0 (Below w.heap.size w wc))
  case first =>
    have H := HC2.out
    clear HC2
    by_cases c3 : (l0.length : Int) = 9
    · rw [if_pos c3] at H
      have c3b0 : ((l0.length : Int) == 9) = true := beq_iff_eq.mpr c3
      have c3b1 : ((l0.length : Int) != 9) = false := bne_eq_false_iff_eq.mpr c3
      clear c3
      (first | rw [c3b0] | (simp only [i64_w, i32_w]; rw [c3b0]) | skip)
      by_cases c4 : 0 < (l0.length : Int)
      · rw [if_pos c4] at H
        have c4b0 : decide (0 < (l0.length : Int)) = true := decide_eq_true c4
        have c4b1 : decide (0 < l0.length) = true := decide_eq_true (by omega)
        clear c4
        have H' := Aside0.mk H
        clear H
        have p308 : 0 ≤ (0 : Int) := (by omega)
        have q308 : 0 < (l0.length : Int) := of_decide_eq_true (by first | (with_reducible assumption) | assumption)
        obtain ⟨ad308, e308, hx308_0⟩ := Kd.at_int (Kd.V_reads' HO0.out).2.2 0 p308 q308
        cases e308
        have qi308 : (0 < l0.length) = True := eq_true (by omega)
        (try rw [show ((0 : Int)).toNat = 0 from rfl] at hx308_0)
        (try rw [Addr.add_zero'] at hx308_0)
        replace p308 := eq_true p308
        replace q308 := eq_true q308
        go_wp2
        go_meet
        case rel => exact ⟨_, (((rd l0 0) == 0)), (by first | rfl | (simp; done) | (simp [*]; done)), H', ⟨by first | omega | exact Nat.le_refl _⟩, ⟨by (with_reducible repeat (first | apply Kd.V_alloc | apply Kd.V_drewN | apply Kd.V_drew)); exact HO0.out⟩, ⟨by repeat (first | (with_reducible first | exact HB.out | apply below_alloc | apply pw_below_drewN | apply below_drew1) | exact HB.out)⟩⟩
      · rw [if_neg c4] at H
        exact absurd H (by simp)
    · rw [if_neg c3] at H
      have c3b0 : ((l0.length : Int) == 9) = false := beq_eq_false_iff_ne.mpr c3
      have c3b1 : ((l0.length : Int) != 9) = true := bne_iff_ne.mpr c3
      (first | rw [c3b0] | (simp only [i64_w, i32_w]; rw [c3b0]) | skip)
      have H' := Aside0.mk H
      clear H
      go_wp2
      go_meet
      case rel => exact ⟨_, (false), (by first | rfl | (simp; done) | (simp [*]; done)), H', ⟨by first | omega | exact Nat.le_refl _⟩, ⟨by (with_reducible repeat (first | apply Kd.V_alloc | apply Kd.V_drewN | apply Kd.V_drew)); exact HO0.out⟩, ⟨by repeat (first | (with_reducible first | exact HB.out | apply below_alloc | apply pw_below_drewN | apply below_drew1) | exact HB.out)⟩⟩
  case rest =>
    clear HC2
    try clear p2
    try clear c3
    try clear c3b0
    try clear c3b1
    try clear p3
    try clear q3
    try clear hx3
    try clear qi3
    try clear c4
    try clear c4b0
    try clear c4b1
    try clear hx308_0
    try clear p308
    try clear q308
    obtain ⟨kq, x15_1, rfl, HA, HJ1, HO_0, HB⟩ := hcut
    cases kq with
    | zero => exact absurd HA.out (by simp [spec_OfUint.j0])
    | succ kj1 =>
      have H := HA.out
      clear HA
      simp only [spec_OfUint.j0] at H
      have HC5 := Aside0.mk H
      clear H
      go_upto_if 15 with (fail)
      go_cut [0] (fun v0 wc => ∃ (kq : Nat) (x0_4 : List Int), Aside0 (spec_OfUint.j1 kq x0_4 = some (r1, r2)) ∧ Aside0 (kq ≤ kj1) ∧ Aside0 (Kd.V (Kd.int .u8) 5 wc w.heap.size (fun k_ => (P0_ k_ ∨ w.heap.size ≤ k_)) v0 x0_4) ∧ Aside0 (Below w.heap.size w wc))
      case first =>
        have H := HC5.out
        clear HC5
        by_cases c6 : x15_1 = true
        · subst c6
          have H1 : (if 1 ≤ (l0.length : Int) then (spec_OfUint.j1 kj1 (l0.drop 1)) else (none)) = some (r1, r2) := by rw [if_pos rfl] at H; exact H
          clear H
          have H := H1
          clear H1
          by_cases c7 : 1 ≤ (l0.length : Int)
          · rw [if_pos c7] at H
            have c7b0 := eq_true c7
            have c7b1 : decide (1 ≤ (l0.length : Int)) = true := decide_eq_true c7
            clear c7
            obtain ⟨y309, hy309⟩ : ∃ y_ : List Int, y_ = (l0.drop 1) := ⟨_, rfl⟩
            replace H : (spec_OfUint.j1 kj1 y309) = some (r1, r2) := by first | (rw [hy309]; with_reducible exact H) | (have H2_ := (Option.bind_some _ _).symm.trans H; rw [hy309]; with_reducible exact H2_) | (have H2_ := (Option.bind_some _ _).symm.trans H; with_reducible exact H2_) | with_reducible exact H | (rw [hy309]; exact H) | exact H
            have Ny309 := Aside0.mk hy309
            clear hy309
            have H' := Aside0.mk H
            clear H
            have q8 : (1 : Int) ≤ ((l0.length : Int) : Int) := of_decide_eq_true (by first | (with_reducible assumption) | assumption)
            obtain ⟨i08, hi08, _, hsz8, _⟩ := info_parts info5
            have hroom8 : l0.length ≤ c0 := (Kd.V_reads' HO_0.out).2.1
            have hC8 : Kd.F (Kd.int .u8) _ _ A0 l0.length l0 := (Kd.V_at (base := w.heap.size) HO_0.out).2.2
            have hcut8 := cut_from (P := Tryd.prog) 26 5 .i64 Tryd.underlying26 hi08 1 hsz8 A0 l0.length c0 1 (by omega) q8
            have hr8 := Kd.F_cut (m := (1 : Int).toNat) (c := c0) hC8 (by omega) hroom8
            obtain ⟨A8, hA8⟩ : ∃ A1, A1 = (if c0 = (1 : Int).toNat then A0 else (A0 : Option Addr).map (·.add ((1 : Int).toNat * 1))) := ⟨_, rfl⟩
            obtain ⟨c8, hc8⟩ : ∃ c1, c1 = c0 - (1 : Int).toNat := ⟨_, rfl⟩
            have hy8 : y309.length = l0.length - (1 : Int).toNat := (by rw [Ny309.out, List.length_drop] <;> omega)
            rw [show (l0).drop (1 : Int).toNat = y309 from Ny309.out.symm] at hr8
            replace hr8 : Kd.F (Kd.int .u8) _ _ A8 y309.length y309 := (by rw [hA8]; exact hr8)
            rw [← hy8, ← hA8, ← hc8] at hcut8
            have HO313 := Aside0.mk (show Kd.V (Kd.int .u8) 5 _ w.heap.size _ (.slice A8 y309.length c8) y309 from Kd.V_mk (by rw [hy8, hc8]; exact Nat.sub_le_sub_right hroom8 _) hr8)
            have HC313 := Aside0.mk (show y309.length ≤ c8 from by rw [hy8, hc8]; exact Nat.sub_le_sub_right hroom8 _)
            clear hr8 hC8 hroom8 hi08 hsz8 hc8
            have KY8 := Aside0.mk hy8
            have KA8 := Aside0.mk hA8
            clear hy8 hA8
            replace q8 := eq_true q8
            go_wp2
            go_meet
            case rel => exact ⟨_, (y309), H', ⟨by have := HJ1.out; first | omega | exact Nat.le_refl _⟩, ⟨by (with_reducible repeat (first | apply Kd.V_alloc | apply Kd.V_drewN | apply Kd.V_drew)); exact HO313.out⟩, ⟨by repeat (first | (with_reducible first | exact HB.out | apply below_alloc | apply pw_below_drewN | apply below_drew1) | exact HB.out)⟩⟩
          · rw [if_neg c7] at H
            exact absurd H (by simp)
        · replace c6 := Bool.eq_false_iff.mpr c6
          subst c6
          have H1 : (spec_OfUint.j1 kj1 l0) = some (r1, r2) := by rw [if_neg (show ¬ (false = true) by decide)] at H; exact H
          clear H
          have H := H1
          clear H1
          have H' := Aside0.mk H
          clear H
          go_wp2
          go_meet
          case rel => exact ⟨_, (l0), H', ⟨by have := HJ1.out; first | omega | exact Nat.le_refl _⟩, ⟨by (with_reducible repeat (first | apply Kd.V_alloc | apply Kd.V_drewN | apply Kd.V_drew)); exact HO_0.out⟩, ⟨by repeat (first | (with_reducible first | exact HB.out | apply below_alloc | apply pw_below_drewN | apply below_drew1) | exact HB.out)⟩⟩
      case rest =>
        clear HC5
        try clear c1
        try clear p2
        try clear c3
        try clear c3b0
        try clear c3b1
        try clear p3
        try clear q3
        try clear hx3
        try clear qi3
        try clear c4
        try clear c4b0
        try clear c4b1
        try clear c6
        try clear c7
        try clear c7b0
        try clear c7b1
        try clear c8
        try clear q8
        try clear hx308_0
        try clear p2
        try clear p3
        try clear p308
        try clear q3
        try clear q308
        try clear q8
        obtain ⟨kq, x0_4, HA, HJ4, HO_0, HB⟩ := hcut
        cases kq with
        | zero => exact absurd HA.out (by simp [spec_OfUint.j1])
        | succ kj4 =>
          have H := HA.out
          clear HA
          simp only [spec_OfUint.j1] at H
          have HC9 := Aside0.mk H
          clear H
          go_upto_region 3 with (fail)
          go_cut [25] (fun v25 wc => ∃ (kq : Nat) (x25_8 : Bool), v25 = .bool x25_8 ∧ Aside0 (spec_OfUint.j2 kq x0_4 x25_8 = some (r1, r2)) ∧ Aside0 (kq ≤ kj4) ∧ Aside0 (Kd.V (Kd.int .u8) 5 wc w.heap.size (fun k_ => (P0_ k_ ∨ w.heap.size ≤ k_)) u0 x0_4) ∧ Aside0 (Below w.heap.size w wc))
          case first =>
            have H := HC9.out
            clear HC9
            by_cases c10 : (x0_4.length : Int) = 0
            · rw [if_pos c10] at H
              have c10b0 : ((x0_4.length : Int) == 0) = true := beq_iff_eq.mpr c10
              have c10b1 : ((x0_4.length : Int) != 0) = false := bne_eq_false_iff_eq.mpr c10
              clear c10
              (first | rw [c10b0] | (simp only [i64_w, i32_w]; rw [c10b0]) | skip)
              have H' := Aside0.mk H
              clear H
              obtain ⟨Ao11, co11, eo11⟩ := Kd.V_slice HO_0.out
              subst eo11
              go_wp2
              go_meet
              case rel => exact ⟨_, (true), (by first | rfl | (simp; done) | (simp [*]; done)), H', ⟨by have := HJ1.out; have := HJ4.out; first | omega | exact Nat.le_refl _⟩, ⟨by (with_reducible repeat (first | apply Kd.V_alloc | apply Kd.V_drewN | apply Kd.V_drew)); exact HO_0.out⟩, ⟨by repeat (first | (with_reducible first | exact HB.out | apply below_alloc | apply pw_below_drewN | apply below_drew1) | exact HB.out)⟩⟩
            · rw [if_neg c10] at H
              have c10b0 : ((x0_4.length : Int) == 0) = false := beq_eq_false_iff_ne.mpr c10
              have c10b1 : ((x0_4.length : Int) != 0) = true := bne_iff_ne.mpr c10
              have c10b2 : ¬ (x0_4 = []) := fun h_ => c10 (by rw [h_]; rfl)
              (first | rw [c10b0] | (simp only [i64_w, i32_w]; rw [c10b0]) | skip)
              have H' := Aside0.mk H
              clear H
              obtain ⟨Ao12, co12, eo12⟩ := Kd.V_slice HO_0.out
              subst eo12
              go_wp2
              go_meet
              case rel => exact ⟨_, (decide ((x0_4.length : Int) > 8)), (by first | rfl | (simp; done) | (simp [*]; done)), H', ⟨by have := HJ1.out; have := HJ4.out; first | omega | exact Nat.le_refl _⟩, ⟨by (with_reducible repeat (first | apply Kd.V_alloc | apply Kd.V_drewN | apply Kd.V_drew)); exact HO_0.out⟩, ⟨by repeat (first | (with_reducible first | exact HB.out | apply below_alloc | apply pw_below_drewN | apply below_drew1) | exact HB.out)⟩⟩
          case rest =>
            clear HC9
            try clear c1
            try clear p2
            try clear c3
            try clear c3b0
            try clear c3b1
            try clear p3
            try clear q3
            try clear hx3
            try clear qi3
            try clear c4
            try clear c4b0
            try clear c4b1
            try clear c6
            try clear c7
            try clear c7b0
            try clear c7b1
            try clear c8
            try clear q8
            try clear c10
            try clear c10b0
            try clear c10b1
            try clear c10b2
            try clear hx308_0
            try clear p2
            try clear p3
            try clear p308
            try clear q3
            try clear q308
            try clear q8
            obtain ⟨kq, x25_8, rfl, HA, HJ8, HO_0, HB⟩ := hcut
            cases kq with
            | zero => exact absurd HA.out (by simp [spec_OfUint.j2])
            | succ kj8 =>
              have H := HA.out
              clear HA
              simp only [spec_OfUint.j2] at H
              by_cases c13 : x25_8 = true
              · subst c13
                have H1 : (some (0, false)) = some (r1, r2) := by rw [if_pos rfl] at H; exact H
                clear H
                have H := H1
                clear H1
                simp only [Option.some.injEq, Prod.mk.injEq] at H
                obtain ⟨rfl, rfl⟩ := H
                go_wp2
                go_ret2
                exact ⟨by first | rfl | (simp [errW_none, errW_some] <;> rfl) | (simp [*, errW_none, errW_some] <;> rfl), by repeat (first | (with_reducible first | exact HB.out | apply below_alloc | apply pw_below_drewN | apply below_drew1) | exact HB.out)⟩
              · replace c13 := Bool.eq_false_iff.mpr c13
                subst c13
                have H1 : (spec_OfUint.l0 kj8 0 x0_4 (x0_4.length : Int) 0) = some (r1, r2) := by rw [if_neg (show ¬ (false = true) by decide)] at H; exact H
                clear H
                have H := H1
                clear H1
                have H' := Aside0.mk H
                clear H
                obtain ⟨Ao14, co14, eo14⟩ := Kd.V_slice HO_0.out
                subst eo14
                go_wp2
                go_loopg [4, 28] kj8 (fun kq v4 v28 w' => ∃ (x4_4 : Int) (x28_4 : Int), v4 = .int .u64 x4_4 ∧ v28 = .int .i64 x28_4 ∧ Aside0 (spec_OfUint.l0 kq x4_4 x0_4 (x0_4.length : Int) x28_4 = some (r1, r2)) ∧ Aside0 (kq ≤ kj8) ∧ Aside0 (Kd.V (Kd.int .u8) 5 w' w.heap.size (fun k_ => (P0_ k_ ∨ w.heap.size ≤ k_)) (.slice Ao14 x0_4.length co14) x0_4) ∧ Aside0 (Below w.heap.size w w'))
                case atStart => exact ⟨(0), (0), (by first | rfl | (simp; done) | (simp [*]; done)), (by first | rfl | (simp; done) | (simp [*]; done)), H', ⟨Nat.le_refl _⟩, ⟨by (with_reducible repeat (first | apply Kd.V_alloc | apply Kd.V_drewN | apply Kd.V_drew)); exact HO_0.out⟩, ⟨by repeat (first | (with_reducible first | exact HB.out | apply below_alloc | apply pw_below_drewN | apply below_drew1) | exact HB.out)⟩⟩
                case round =>
                  clear H'
                  try clear c1
                  try clear p2
                  try clear c3
                  try clear c3b0
                  try clear c3b1
                  try clear p3
                  try clear q3
                  try clear hx3
                  try clear qi3
                  try clear c4
                  try clear c4b0
                  try clear c4b1
                  try clear c6
                  try clear c7
                  try clear c7b0
                  try clear c7b1
                  try clear c8
                  try clear q8
                  try clear c10
                  try clear c10b0
                  try clear c10b1
                  try clear c10b2
                  try clear c13
                  try clear hx308_0
                  try clear p2
                  try clear p3
                  try clear p308
                  try clear q3
                  try clear q308
                  try clear q8
                  obtain ⟨x4_4, x28_4, rfl, rfl, HA, HK4, HO_26, HB⟩ := hrel
                  cases gk with
                  | zero => exact absurd HA.out (by simp [spec_OfUint.l0])
                  | succ k4 =>
                    have H := HA.out
                    clear HA
                    simp only [spec_OfUint.l0] at H
                    by_cases c15 : x28_4 < (x0_4.length : Int)
                    · rw [if_pos c15] at H
                      have c15b0 : decide (x28_4 < (x0_4.length : Int)) = true := decide_eq_true c15
                      clear c15
                      by_cases c16 : 0 ≤ x28_4
                      · rw [if_pos c16] at H
                        have c16b0 : decide (0 ≤ x28_4) = true := decide_eq_true c16
                        clear c16
                        by_cases c17 : x28_4 < (x0_4.length : Int)
                        · rw [if_pos c17] at H
                          have c17b0 : decide (x28_4 < (x0_4.length : Int)) = true := decide_eq_true c17
                          clear c17
                          have H' := Aside0.mk H
                          clear H
                          have p314 : 0 ≤ (x28_4 : Int) := of_decide_eq_true (by first | (with_reducible assumption) | assumption)
                          have q314 : x28_4 < (x0_4.length : Int) := of_decide_eq_true (by first | (with_reducible assumption) | assumption)
                          obtain ⟨ad314, e314, hx314_0⟩ := Kd.at_int (Kd.V_reads' HO_26.out).2.2 x28_4 p314 q314
                          cases e314
                          replace p314 := eq_true p314
                          replace q314 := eq_true q314
                          go_wp2
                          go_roundg k4
                          case measure => have := HJ1.out; have := HJ4.out; have := HJ8.out; have := HK4.out; omega
                          case rel => exact ⟨(Go.bits .or .u64 (IntKind.u64.wrap (x4_4 * 256)) (IntKind.u64.wrap (rd x0_4 x28_4))), (wrap64 (x28_4 + 1)), (by first | rfl | (simp; done) | (simp [*]; done)), (by first | rfl | (simp; done) | (simp [*]; done)), H', ⟨by have := HJ1.out; have := HJ4.out; have := HJ8.out; have := HK4.out; omega⟩, ⟨by (with_reducible repeat (first | apply Kd.V_alloc | apply Kd.V_drewN | apply Kd.V_drew)); exact HO_26.out⟩, ⟨by repeat (first | (with_reducible first | exact HB.out | apply below_alloc | apply pw_below_drewN | apply below_drew1) | exact HB.out)⟩⟩
                        · rw [if_neg c17] at H
                          exact absurd H (by simp)
                      · rw [if_neg c16] at H
                        exact absurd H (by simp)
                    · rw [if_neg c15] at H
                      have c15b0 : decide (x28_4 < (x0_4.length : Int)) = false := decide_eq_false c15
                      clear c15
                      simp only [Option.some.injEq, Prod.mk.injEq] at H
                      obtain ⟨rfl, rfl⟩ := H
                      go_wp2
                      go_ret2
                      exact ⟨by first | rfl | (simp [errW_none, errW_some] <;> rfl) | (simp [*, errW_none, errW_some] <;> rfl), by repeat (first | (with_reducible first | exact HB.out | apply below_alloc | apply pw_below_drewN | apply below_drew1) | exact HB.out)⟩
end Go.Proofs.YtangjgclpipjdaaDoor.PFnValue
