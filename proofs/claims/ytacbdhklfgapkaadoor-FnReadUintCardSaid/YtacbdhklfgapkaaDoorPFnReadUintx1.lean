-- PRINTED BY print.sh 35421559b90ae4d0a3588c463048766b98c2df88dd9212a6774a882060cdf62d: not written by this session
import Derived.Test.YtacbdhklfgapkaaDoorPFnReadUintx0
namespace Go.Proofs.YtacbdhklfgapkaaDoor.PFnReadUint
open Go.RowKit Go.Proofs.YtacbdhklfgapkaaDoorW.PrintWords Go.Proofs.YtacbdhklfgapkaaDoorW.PrintLast Go.Proofs.YtacbdhklfgapkaaDoorW.PrintMore
attribute [local go_sem] max2_int min2_int max_two min_two max_three min_three max_four min_four   -- for this text's walks alone
set_option linter.unusedVariables false
set_option linter.unusedSimpArgs false

/-! ### spec_OfUint: function 10 -/
mutual
def spec_OfUint.j0 : Nat → List Int → Bool → Option (Int × Bool)
  | 0, _, _ => none
  | k + 1, x0, x15 => if x15 = true then (if 1 ≤ (x0.length : Int) then (spec_OfUint.j1 k (x0.drop 1)) else (none)) else (spec_OfUint.j1 k x0)
def spec_OfUint.j1 : Nat → List Int → Option (Int × Bool)
  | 0, _ => none
  | k + 1, x0 => if (x0.length : Int) = 0 then (spec_OfUint.j2 k x0 true) else (spec_OfUint.j2 k x0 (decide ((x0.length : Int) > 8)))
def spec_OfUint.j2 : Nat → List Int → Bool → Option (Int × Bool)
  | 0, _, _ => none
  | k + 1, x0, x25 => if x25 = true then (some (0, false)) else (spec_OfUint.l0 k 0 x0 (x0.length : Int) 0)
def spec_OfUint.l0 : Nat → Int → List Int → Int → Int → Option (Int × Bool)
  | 0, _, _, _, _ => none
  | k + 1, x4, x26, x27, x28 => if x28 < x27 then (if 0 ≤ x28 then (if x28 < (x26.length : Int) then (spec_OfUint.l0 k (Go.bits .or .u64 (IntKind.u64.wrap (x4 * 256)) (IntKind.u64.wrap (rd x26 x28))) x26 x27 (wrap64 (x28 + 1))) else (none)) else (none)) else (some (x4, true))
end
def spec_OfUint.f (k : Nat) (l0 : List Int) : Option (Int × Bool) := if (l0.length : Int) = 9 then (if 0 < (l0.length : Int) then (spec_OfUint.j0 k l0 ((rd l0 0) == 0)) else (none)) else (spec_OfUint.j0 k l0 false)
theorem spec_OfUint.mono_l : ∀ k, (∀ y0 y1, LeO (spec_OfUint.j0 k y0 y1) (spec_OfUint.j0 (k + 1) y0 y1)) ∧ (∀ y0, LeO (spec_OfUint.j1 k y0) (spec_OfUint.j1 (k + 1) y0)) ∧ (∀ y0 y1, LeO (spec_OfUint.j2 k y0 y1) (spec_OfUint.j2 (k + 1) y0 y1)) ∧ (∀ y0 y1 y2 y3, LeO (spec_OfUint.l0 k y0 y1 y2 y3) (spec_OfUint.l0 (k + 1) y0 y1 y2 y3))
  | 0 => ⟨fun _ _ r h => by simp [spec_OfUint.j0] at h, fun _ r h => by simp [spec_OfUint.j1] at h, fun _ _ r h => by simp [spec_OfUint.j2] at h, fun _ _ _ _ r h => by simp [spec_OfUint.l0] at h⟩
  | k + 1 => by
    obtain ⟨ih0, ih1, ih2, ih3⟩ := spec_OfUint.mono_l k
    refine ⟨?_, ?_, ?_, ?_⟩
    · intro y0 y1
      unfold spec_OfUint.j0
      repeat' first
      | (with_reducible exact ih0 _ _)
      | (with_reducible exact ih1 _)
      | (with_reducible exact ih2 _ _)
      | (with_reducible exact ih3 _ _ _ _)
      | (with_reducible exact LeO.refl _)
      | (with_reducible exact LeO.none _)
      | (with_reducible refine LeO.ite ?_ ?_)
      | (with_reducible refine LeO.bind ?_ (fun _ => ?_))
      | exact ih0 _ _
      | exact ih1 _
      | exact ih2 _ _
      | exact ih3 _ _ _ _
      | exact LeO.none _
      | refine LeO.ite ?_ ?_
      | refine LeO.bind ?_ (fun _ => ?_)
    · intro y0
      unfold spec_OfUint.j1
      repeat' first
      | (with_reducible exact ih0 _ _)
      | (with_reducible exact ih1 _)
      | (with_reducible exact ih2 _ _)
      | (with_reducible exact ih3 _ _ _ _)
      | (with_reducible exact LeO.refl _)
      | (with_reducible exact LeO.none _)
      | (with_reducible refine LeO.ite ?_ ?_)
      | (with_reducible refine LeO.bind ?_ (fun _ => ?_))
      | exact ih0 _ _
      | exact ih1 _
      | exact ih2 _ _
      | exact ih3 _ _ _ _
      | exact LeO.none _
      | refine LeO.ite ?_ ?_
      | refine LeO.bind ?_ (fun _ => ?_)
    · intro y0 y1
      unfold spec_OfUint.j2
      repeat' first
      | (with_reducible exact ih0 _ _)
      | (with_reducible exact ih1 _)
      | (with_reducible exact ih2 _ _)
      | (with_reducible exact ih3 _ _ _ _)
      | (with_reducible exact LeO.refl _)
      | (with_reducible exact LeO.none _)
      | (with_reducible refine LeO.ite ?_ ?_)
      | (with_reducible refine LeO.bind ?_ (fun _ => ?_))
      | exact ih0 _ _
      | exact ih1 _
      | exact ih2 _ _
      | exact ih3 _ _ _ _
      | exact LeO.none _
      | refine LeO.ite ?_ ?_
      | refine LeO.bind ?_ (fun _ => ?_)
    · intro y0 y1 y2 y3
      unfold spec_OfUint.l0
      repeat' first
      | (with_reducible exact ih0 _ _)
      | (with_reducible exact ih1 _)
      | (with_reducible exact ih2 _ _)
      | (with_reducible exact ih3 _ _ _ _)
      | (with_reducible exact LeO.refl _)
      | (with_reducible exact LeO.none _)
      | (with_reducible refine LeO.ite ?_ ?_)
      | (with_reducible refine LeO.bind ?_ (fun _ => ?_))
      | exact ih0 _ _
      | exact ih1 _
      | exact ih2 _ _
      | exact ih3 _ _ _ _
      | exact LeO.none _
      | refine LeO.ite ?_ ?_
      | refine LeO.bind ?_ (fun _ => ?_)
theorem spec_OfUint.mono : ∀ a0 k, LeO (spec_OfUint.f k a0) (spec_OfUint.f (k + 1) a0) := by
  intro a0 k
  obtain ⟨ih0, ih1, ih2, ih3⟩ := spec_OfUint.mono_l k
  unfold spec_OfUint.f
  repeat' first
      | (with_reducible exact ih0 _ _)
      | (with_reducible exact ih1 _)
      | (with_reducible exact ih2 _ _)
      | (with_reducible exact ih3 _ _ _ _)
      | (with_reducible exact LeO.refl _)
      | (with_reducible exact LeO.none _)
      | (with_reducible refine LeO.ite ?_ ?_)
      | (with_reducible refine LeO.bind ?_ (fun _ => ?_))
      | exact ih0 _ _
      | exact ih1 _
      | exact ih2 _ _
      | exact ih3 _ _ _ _
      | exact LeO.none _
      | refine LeO.ite ?_ ?_
      | refine LeO.bind ?_ (fun _ => ?_)
set_option maxHeartbeats 8000000 in
set_option maxRecDepth 100000 in
theorem spec_OfUint.calls (k : Nat) (P0_ : Nat → Prop) (A0 : Option Addr) (c0 : Nat) (l0 : List Int) (r1 : Int) (r2 : Bool) (w : World) (hs0 : Kd.V (Kd.int .u8) 5 w w.heap.size (fun k_ => P0_ k_) (.slice A0 l0.length c0) l0) (h : spec_OfUint.f k l0 = some (r1, r2)) :
    Calls Tryd.prog 10 #[.slice A0 l0.length c0] w fun e w' => e = .returned (.tuple #[.int .u64 r1, .bool r2]) ∧ Below w.heap.size w w' := by
  have HO0 := Aside0.mk (show Kd.V (Kd.int .u8) 5 w w.heap.size (fun k_ => (P0_ k_ ∨ w.heap.size ≤ k_)) (.slice A0 l0.length c0) l0 from Kd.V_mono hs0 (fun k_ hk => .inl hk))
  have HB := Aside0.mk (Below.refl w.heap.size w)
  have H : (if (l0.length : Int) = 9 then (if 0 < (l0.length : Int) then (spec_OfUint.j0 k l0 ((rd l0 0) == 0)) else (none)) else (spec_OfUint.j0 k l0 false)) = some (r1, r2) := h
  clear h
  have HC2 := Aside0.mk H
  clear H
  go_enter Tryd.func10, Tryd.ntmps10
  go_upto_region 1 with (fail)
  go_cut [15] (fun v15 wc => ∃ (kq : Nat) (x15_1 : Bool), v15 = .bool x15_1 ∧ Aside0 (spec_OfUint.j0 kq l0 x15_1 = some (r1, r2)) ∧ Aside0 (kq ≤ k) ∧ Aside0 (Kd.V (Kd.int .u8) 5 wc w.heap.size (fun k_ => (P0_ k_ ∨ w.heap.size ≤ k_)) (.slice A0 l0.length c0) l0) ∧ Aside0 (Below w.heap.size w wc))
  case first =>
    have H := HC2.out
    clear HC2
    by_cases c3 : (l0.length : Int) = 9
    · rw [if_pos c3] at H
      have c3b0 : ((l0.length : Int) == 9) = true := beq_iff_eq.mpr c3
      have c3b1 : ((l0.length : Int) != 9) = false := bne_eq_false_iff_eq.mpr c3
      clear c3
      (first | rw [c3b0] | (simp only [i64_w, i32_w]; rw [c3b0]) | skip)
      by_cases c4 : 0 < (l0.length : Int)
      · rw [if_pos c4] at H
        have c4b0 : decide (0 < (l0.length : Int)) = true := decide_eq_true c4
        have c4b1 : decide (0 < l0.length) = true := decide_eq_true (by omega)
        clear c4
        have H' := Aside0.mk H
        clear H
        have p101 : 0 ≤ (0 : Int) := (by omega)
        have q101 : 0 < (l0.length : Int) := of_decide_eq_true (by first | (with_reducible assumption) | assumption)
        obtain ⟨ad101, e101, hx101_0⟩ := Kd.at_int (Kd.V_reads' HO0.out).2.2 0 p101 q101
        cases e101
        have qi101 : (0 < l0.length) = True := eq_true (by omega)
        (try rw [show ((0 : Int)).toNat = 0 from rfl] at hx101_0)
        (try rw [Addr.add_zero'] at hx101_0)
        replace p101 := eq_true p101
        replace q101 := eq_true q101
        go_wp2
        go_meet
        case rel => exact ⟨_, (((rd l0 0) == 0)), (by first | rfl | (simp; done) | (simp [*]; done)), H', ⟨by first | omega | exact Nat.le_refl _⟩, ⟨by (with_reducible repeat (first | apply Kd.V_alloc | apply Kd.V_drewN | apply Kd.V_drew)); exact HO0.out⟩, ⟨by repeat (first | (with_reducible first | exact HB.out | apply below_alloc | apply pw_below_drewN | apply below_drew1) | exact HB.out)⟩⟩
      · rw [if_neg c4] at H
        exact absurd H (by simp)
    · rw [if_neg c3] at H
      have c3b0 : ((l0.length : Int) == 9) = false := beq_eq_false_iff_ne.mpr c3
      have c3b1 : ((l0.length : Int) != 9) = true := bne_iff_ne.mpr c3
      (first | rw [c3b0] | (simp only [i64_w, i32_w]; rw [c3b0]) | skip)
      have H' := Aside0.mk H
      clear H
      go_wp2
      go_meet
      case rel => exact ⟨_, (false), (by first | rfl | (simp; done) | (simp [*]; done)), H', ⟨by first | omega | exact Nat.le_refl _⟩, ⟨by (with_reducible repeat (first | apply Kd.V_alloc | apply Kd.V_drewN | apply Kd.V_drew)); exact HO0.out⟩, ⟨by repeat (first | (with_reducible first | exact HB.out | apply below_alloc | apply pw_below_drewN | apply below_drew1) | exact HB.out)⟩⟩
  case rest =>
    clear HC2
    try clear c1
    try clear p1
    try clear q1
    try clear hx1
    try clear qi1
    try clear p2
    try clear c3
    try clear c3b0
    try clear c3b1
    try clear c4
    try clear c4b0
    try clear c4b1
    try clear hx101_0
    try clear p101
    try clear q101
    obtain ⟨kq, x15_1, rfl, HA, HJ1, HO_0, HB⟩ := hcut
    cases kq with
    | zero => exact absurd HA.out (by simp [spec_OfUint.j0])
    | succ kj1 =>
      have H := HA.out
      clear HA
      simp only [spec_OfUint.j0] at H
      have HC5 := Aside0.mk H
      clear H
      go_upto_if 15 with (fail)
      go_cut [0] (fun v0 wc => ∃ (kq : Nat) (x0_4 : List Int), Aside0 (spec_OfUint.j1 kq x0_4 = some (r1, r2)) ∧ Aside0 (kq ≤ kj1) ∧ Aside0 (Kd.V (Kd.int .u8) 5 wc w.heap.size (fun k_ => (P0_ k_ ∨ w.heap.size ≤ k_)) v0 x0_4) ∧ Aside0 (Below w.heap.size w wc))
      case first =>
        have H := HC5.out
        clear HC5
        by_cases c6 : x15_1 = true
        · subst c6
          have H1 : (if 1 ≤ (l0.length : Int) then (spec_OfUint.j1 kj1 (l0.drop 1)) else (none)) = some (r1, r2) := by rw [if_pos rfl] at H; exact H
          clear H
          have H := H1
          clear H1
          by_cases c7 : 1 ≤ (l0.length : Int)
          · rw [if_pos c7] at H
            have c7b0 := eq_true c7
            have c7b1 : decide (1 ≤ (l0.length : Int)) = true := decide_eq_true c7
            clear c7
            obtain ⟨y102, hy102⟩ : ∃ y_ : List Int, y_ = (l0.drop 1) := ⟨_, rfl⟩
            replace H : (spec_OfUint.j1 kj1 y102) = some (r1, r2) := by first | (rw [hy102]; with_reducible exact H) | (have H2_ := (Option.bind_some _ _).symm.trans H; rw [hy102]; with_reducible exact H2_) | (have H2_ := (Option.bind_some _ _).symm.trans H; with_reducible exact H2_) | with_reducible exact H | (rw [hy102]; exact H) | exact H
            have Ny102 := Aside0.mk hy102
            clear hy102
            have H' := Aside0.mk H
            clear H
            have q8 : (1 : Int) ≤ ((l0.length : Int) : Int) := of_decide_eq_true (by first | (with_reducible assumption) | assumption)
            obtain ⟨i08, hi08, _, hsz8, _⟩ := info_parts info5
            have hroom8 : l0.length ≤ c0 := (Kd.V_reads' HO_0.out).2.1
            have hC8 : Kd.F (Kd.int .u8) _ _ A0 l0.length l0 := (Kd.V_at (base := w.heap.size) HO_0.out).2.2
            have hcut8 := cut_from (P := Tryd.prog) 23 5 .i64 Tryd.underlying23 hi08 1 hsz8 A0 l0.length c0 1 (by omega) q8
            have hr8 := Kd.F_cut (m := (1 : Int).toNat) (c := c0) hC8 (by omega) hroom8
            obtain ⟨A8, hA8⟩ : ∃ A1, A1 = (if c0 = (1 : Int).toNat then A0 else (A0 : Option Addr).map (·.add ((1 : Int).toNat * 1))) := ⟨_, rfl⟩
            obtain ⟨c8, hc8⟩ : ∃ c1, c1 = c0 - (1 : Int).toNat := ⟨_, rfl⟩
            have hy8 : y102.length = l0.length - (1 : Int).toNat := (by rw [Ny102.out, List.length_drop] <;> omega)
            rw [show (l0).drop (1 : Int).toNat = y102 from Ny102.out.symm] at hr8
            replace hr8 : Kd.F (Kd.int .u8) _ _ A8 y102.length y102 := (by rw [hA8]; exact hr8)
            rw [← hy8, ← hA8, ← hc8] at hcut8
            have HO106 := Aside0.mk (show Kd.V (Kd.int .u8) 5 _ w.heap.size _ (.slice A8 y102.length c8) y102 from Kd.V_mk (by rw [hy8, hc8]; exact Nat.sub_le_sub_right hroom8 _) hr8)
            have HC106 := Aside0.mk (show y102.length ≤ c8 from by rw [hy8, hc8]; exact Nat.sub_le_sub_right hroom8 _)
            clear hr8 hC8 hroom8 hi08 hsz8 hc8
            have KY8 := Aside0.mk hy8
            have KA8 := Aside0.mk hA8
            clear hy8 hA8
            replace q8 := eq_true q8
            go_wp2
            go_meet
            case rel => exact ⟨_, (y102), H', ⟨by have := HJ1.out; first | omega | exact Nat.le_refl _⟩, ⟨by (with_reducible repeat (first | apply Kd.V_alloc | apply Kd.V_drewN | apply Kd.V_drew)); exact HO106.out⟩, ⟨by repeat (first | (with_reducible first | exact HB.out | apply below_alloc | apply pw_below_drewN | apply below_drew1) | exact HB.out)⟩⟩
          · rw [if_neg c7] at H
            exact absurd H (by simp)
        · replace c6 := Bool.eq_false_iff.mpr c6
          subst c6
          have H1 : (spec_OfUint.j1 kj1 l0) = some (r1, r2) := by rw [if_neg (show ¬ (false = true) by decide)] at H; exact H
          clear H
          have H := H1
          clear H1
          have H' := Aside0.mk H
          clear H
          go_wp2
          go_meet
          case rel => exact ⟨_, (l0), H', ⟨by have := HJ1.out; first | omega | exact Nat.le_refl _⟩, ⟨by (with_reducible repeat (first | apply Kd.V_alloc | apply Kd.V_drewN | apply Kd.V_drew)); exact HO_0.out⟩, ⟨by repeat (first | (with_reducible first | exact HB.out | apply below_alloc | apply pw_below_drewN | apply below_drew1) | exact HB.out)⟩⟩
      case rest =>
        clear HC5
        try clear c1
        try clear p1
        try clear q1
        try clear hx1
        try clear qi1
        try clear p2
        try clear c3
        try clear c3b0
        try clear c3b1
        try clear c4
        try clear c4b0
        try clear c4b1
        try clear c6
        try clear c7
        try clear c7b0
        try clear c7b1
        try clear c8
        try clear q8
        try clear hx101_0
        try clear p1
        try clear p101
        try clear p2
        try clear q1
        try clear q101
        try clear q8
        obtain ⟨kq, x0_4, HA, HJ4, HO_0, HB⟩ := hcut
        cases kq with
        | zero => exact absurd HA.out (by simp [spec_OfUint.j1])
        | succ kj4 =>
          have H := HA.out
          clear HA
          simp only [spec_OfUint.j1] at H
          have HC9 := Aside0.mk H
          clear H
          go_upto_region 3 with (fail)
          go_cut [25] (fun v25 wc => ∃ (kq : Nat) (x25_8 : Bool), v25 = .bool x25_8 ∧ Aside0 (spec_OfUint.j2 kq x0_4 x25_8 = some (r1, r2)) ∧ Aside0 (kq ≤ kj4) ∧ Aside0 (Kd.V (Kd.int .u8) 5 wc w.heap.size (fun k_ => (P0_ k_ ∨ w.heap.size ≤ k_)) u0 x0_4) ∧ Aside0 (Below w.heap.size w wc))
          case first =>
            have H := HC9.out
            clear HC9
            by_cases c10 : (x0_4.length : Int) = 0
            · rw [if_pos c10] at H
              have c10b0 : ((x0_4.length : Int) == 0) = true := beq_iff_eq.mpr c10
              have c10b1 : ((x0_4.length : Int) != 0) = false := bne_eq_false_iff_eq.mpr c10
              clear c10
              (first | rw [c10b0] | (simp only [i64_w, i32_w]; rw [c10b0]) | skip)
              have H' := Aside0.mk H
              clear H
              obtain ⟨Ao11, co11, eo11⟩ := Kd.V_slice HO_0.out
              subst eo11
              go_wp2
              go_meet
              case rel => exact ⟨_, (true), (by first | rfl | (simp; done) | (simp [*]; done)), H', ⟨by have := HJ1.out; have := HJ4.out; first | omega | exact Nat.le_refl _⟩, ⟨by (with_reducible repeat (first | apply Kd.V_alloc | apply Kd.V_drewN | apply Kd.V_drew)); exact HO_0.out⟩, ⟨by repeat (first | (with_reducible first | exact HB.out | apply below_alloc | apply pw_below_drewN | apply below_drew1) | exact HB.out)⟩⟩
            · rw [if_neg c10] at H
              have c10b0 : ((x0_4.length : Int) == 0) = false := beq_eq_false_iff_ne.mpr c10
              have c10b1 : ((x0_4.length : Int) != 0) = true := bne_iff_ne.mpr c10
              have c10b2 : ¬ (x0_4 = []) := fun h_ => c10 (by rw [h_]; rfl)
              (first | rw [c10b0] | (simp only [i64_w, i32_w]; rw [c10b0]) | skip)
              have H' := Aside0.mk H
              clear H
              obtain ⟨Ao12, co12, eo12⟩ := Kd.V_slice HO_0.out
              subst eo12
              go_wp2
              go_meet
              case rel => exact ⟨_, (decide ((x0_4.length : Int) > 8)), (by first | rfl | (simp; done) | (simp [*]; done)), H', ⟨by have := HJ1.out; have := HJ4.out; first | omega | exact Nat.le_refl _⟩, ⟨by (with_reducible repeat (first | apply Kd.V_alloc | apply Kd.V_drewN | apply Kd.V_drew)); exact HO_0.out⟩, ⟨by repeat (first | (with_reducible first | exact HB.out | apply below_alloc | apply pw_below_drewN | apply below_drew1) | exact HB.out)⟩⟩
          case rest =>
            clear HC9
            try clear c1
            try clear p1
            try clear q1
            try clear hx1
            try clear qi1
            try clear p2
            try clear c3
            try clear c3b0
            try clear c3b1
            try clear c4
            try clear c4b0
            try clear c4b1
            try clear c6
            try clear c7
            try clear c7b0
            try clear c7b1
            try clear c8
            try clear q8
            try clear c10
            try clear c10b0
            try clear c10b1
            try clear c10b2
            try clear p10
            try clear q10
            try clear hx10
            try clear qi10
            try clear hx101_0
            try clear p1
            try clear p101
            try clear p2
            try clear q1
            try clear q101
            try clear q8
            obtain ⟨kq, x25_8, rfl, HA, HJ8, HO_0, HB⟩ := hcut
            cases kq with
            | zero => exact absurd HA.out (by simp [spec_OfUint.j2])
            | succ kj8 =>
              have H := HA.out
              clear HA
              simp only [spec_OfUint.j2] at H
              by_cases c13 : x25_8 = true
              · subst c13
                have H1 : (some (0, false)) = some (r1, r2) := by rw [if_pos rfl] at H; exact H
                clear H
                have H := H1
                clear H1
                simp only [Option.some.injEq, Prod.mk.injEq] at H
                obtain ⟨rfl, rfl⟩ := H
                go_wp2
                go_ret2
                exact ⟨by first | rfl | (simp [errW_none, errW_some] <;> rfl) | (simp [*, errW_none, errW_some] <;> rfl), by repeat (first | (with_reducible first | exact HB.out | apply below_alloc | apply pw_below_drewN | apply below_drew1) | exact HB.out)⟩
              · replace c13 := Bool.eq_false_iff.mpr c13
                subst c13
                have H1 : (spec_OfUint.l0 kj8 0 x0_4 (x0_4.length : Int) 0) = some (r1, r2) := by rw [if_neg (show ¬ (false = true) by decide)] at H; exact H
                clear H
                have H := H1
                clear H1
                have H' := Aside0.mk H
                clear H
                obtain ⟨Ao14, co14, eo14⟩ := Kd.V_slice HO_0.out
                subst eo14
                go_wp2
                go_loopg [4, 28] kj8 (fun kq v4 v28 w' => ∃ (x4_4 : Int) (x28_4 : Int), v4 = .int .u64 x4_4 ∧ v28 = .int .i64 x28_4 ∧ Aside0 (spec_OfUint.l0 kq x4_4 x0_4 (x0_4.length : Int) x28_4 = some (r1, r2)) ∧ Aside0 (kq ≤ kj8) ∧ Aside0 (Kd.V (Kd.int .u8) 5 w' w.heap.size (fun k_ => (P0_ k_ ∨ w.heap.size ≤ k_)) (.slice Ao14 x0_4.length co14) x0_4) ∧ Aside0 (Below w.heap.size w w'))
                case atStart => exact ⟨(0), (0), (by first | rfl | (simp; done) | (simp [*]; done)), (by first | rfl | (simp; done) | (simp [*]; done)), H', ⟨Nat.le_refl _⟩, ⟨by (with_reducible repeat (first | apply Kd.V_alloc | apply Kd.V_drewN | apply Kd.V_drew)); exact HO_0.out⟩, ⟨by repeat (first | (with_reducible first | exact HB.out | apply below_alloc | apply pw_below_drewN | apply below_drew1) | exact HB.out)⟩⟩
                case round =>
                  clear H'
                  try clear c1
                  try clear p1
                  try clear q1
                  try clear hx1
                  try clear qi1
                  try clear p2
                  try clear c3
                  try clear c3b0
                  try clear c3b1
                  try clear c4
                  try clear c4b0
                  try clear c4b1
                  try clear c6
                  try clear c7
                  try clear c7b0
                  try clear c7b1
                  try clear c8
                  try clear q8
                  try clear c10
                  try clear c10b0
                  try clear c10b1
                  try clear c10b2
                  try clear p10
                  try clear q10
                  try clear hx10
                  try clear qi10
                  try clear c13
                  try clear hx101_0
                  try clear p1
                  try clear p10
                  try clear p101
                  try clear p2
                  try clear q1
                  try clear q10
                  try clear q101
                  try clear q8
                  obtain ⟨x4_4, x28_4, rfl, rfl, HA, HK4, HO_26, HB⟩ := hrel
                  cases gk with
                  | zero => exact absurd HA.out (by simp [spec_OfUint.l0])
                  | succ k4 =>
                    have H := HA.out
                    clear HA
                    simp only [spec_OfUint.l0] at H
                    by_cases c15 : x28_4 < (x0_4.length : Int)
                    · rw [if_pos c15] at H
                      have c15b0 : decide (x28_4 < (x0_4.length : Int)) = true := decide_eq_true c15
                      clear c15
                      by_cases c16 : 0 ≤ x28_4
                      · rw [if_pos c16] at H
                        have c16b0 : decide (0 ≤ x28_4) = true := decide_eq_true c16
                        clear c16
                        by_cases c17 : x28_4 < (x0_4.length : Int)
                        · rw [if_pos c17] at H
                          have c17b0 : decide (x28_4 < (x0_4.length : Int)) = true := decide_eq_true c17
                          clear c17
                          have H' := Aside0.mk H
                          clear H
                          have p107 : 0 ≤ (x28_4 : Int) := of_decide_eq_true (by first | (with_reducible assumption) | assumption)
                          have q107 : x28_4 < (x0_4.length : Int) := of_decide_eq_true (by first | (with_reducible assumption) | assumption)
                          obtain ⟨ad107, e107, hx107_0⟩ := Kd.at_int (Kd.V_reads' HO_26.out).2.2 x28_4 p107 q107
                          cases e107
                          replace p107 := eq_true p107
                          replace q107 := eq_true q107
                          go_wp2
                          go_roundg k4
                          case measure => have := HJ1.out; have := HJ4.out; have := HJ8.out; have := HK4.out; omega
                          case rel => exact ⟨(Go.bits .or .u64 (IntKind.u64.wrap (x4_4 * 256)) (IntKind.u64.wrap (rd x0_4 x28_4))), (wrap64 (x28_4 + 1)), (by first | rfl | (simp; done) | (simp [*]; done)), (by first | rfl | (simp; done) | (simp [*]; done)), H', ⟨by have := HJ1.out; have := HJ4.out; have := HJ8.out; have := HK4.out; omega⟩, ⟨by (with_reducible repeat (first | apply Kd.V_alloc | apply Kd.V_drewN | apply Kd.V_drew)); exact HO_26.out⟩, ⟨by repeat (first | (with_reducible first | exact HB.out | apply below_alloc | apply pw_below_drewN | apply below_drew1) | exact HB.out)⟩⟩
                        · rw [if_neg c17] at H
                          exact absurd H (by simp)
                      · rw [if_neg c16] at H
                        exact absurd H (by simp)
                    · rw [if_neg c15] at H
                      have c15b0 : decide (x28_4 < (x0_4.length : Int)) = false := decide_eq_false c15
                      clear c15
                      simp only [Option.some.injEq, Prod.mk.injEq] at H
                      obtain ⟨rfl, rfl⟩ := H
                      go_wp2
                      go_ret2
                      exact ⟨by first | rfl | (simp [errW_none, errW_some] <;> rfl) | (simp [*, errW_none, errW_some] <;> rfl), by repeat (first | (with_reducible first | exact HB.out | apply below_alloc | apply pw_below_drewN | apply below_drew1) | exact HB.out)⟩

-- NOT PRINTED: function 28 (snmp_parseUint64)

-- NOT PRINTED: function 22 (snmp_ZZReadUint)

-- NOT PRINTED: function 11 (impl_ReadUint)

-- NOT PRINTED: function 33 (errors_New)

/-! ### snmp_appendBase128Int: function 37 -/
mutual
def snmp_appendBase128Int.l0 : Nat → List Int → Int → Int → Int → Option (List Int)
  | 0, _, _, _, _ => none
  | k + 1, x0, x1, x5, x6 => if x6 > 0 then (snmp_appendBase128Int.l0 k x0 x1 (wrap64 (x5 + 1)) (x6 / 128)) else (snmp_appendBase128Int.l1 k x0 x1 (wrap64 (x5 - 1)))
def snmp_appendBase128Int.l1 : Nat → List Int → Int → Int → Option (List Int)
  | 0, _, _, _ => none
  | k + 1, x0, x1, x7 => if x7 ≥ 0 then (if 0 ≤ (IntKind.u64.wrap (wrap64 (x7 * 7))) then (if x7 = 0 then (if x0.length < 140737488355328 then (snmp_appendBase128Int.l1 k (x0 ++ [Go.bits .and .u8 ((shr .i64 x1 (IntKind.u64.wrap (wrap64 (x7 * 7)))) % 256) 127]) x1 (wrap64 (x7 - 1))) else (none)) else (if x0.length < 140737488355328 then (snmp_appendBase128Int.l1 k (x0 ++ [Go.bits .or .u8 (Go.bits .and .u8 ((shr .i64 x1 (IntKind.u64.wrap (wrap64 (x7 * 7)))) % 256) 127) 128]) x1 (wrap64 (x7 - 1))) else (none))) else (none)) else (some x0)
end
def snmp_appendBase128Int.f (k : Nat) (l0 : List Int) (a1 : Int) : Option (List Int) := if a1 = 0 then (if l0.length < 140737488355328 then (some (l0 ++ [0])) else (none)) else (snmp_appendBase128Int.l0 k l0 a1 0 a1)
theorem snmp_appendBase128Int.mono_l : ∀ k, (∀ y0 y1 y2 y3, LeO (snmp_appendBase128Int.l0 k y0 y1 y2 y3) (snmp_appendBase128Int.l0 (k + 1) y0 y1 y2 y3)) ∧ (∀ y0 y1 y2, LeO (snmp_appendBase128Int.l1 k y0 y1 y2) (snmp_appendBase128Int.l1 (k + 1) y0 y1 y2))
  | 0 => ⟨fun _ _ _ _ r h => by simp [snmp_appendBase128Int.l0] at h, fun _ _ _ r h => by simp [snmp_appendBase128Int.l1] at h⟩
  | k + 1 => by
    obtain ⟨ih0, ih1⟩ := snmp_appendBase128Int.mono_l k
    refine ⟨?_, ?_⟩
    · intro y0 y1 y2 y3
      unfold snmp_appendBase128Int.l0
      repeat' first
      | (with_reducible exact ih0 _ _ _ _)
      | (with_reducible exact ih1 _ _ _)
      | (with_reducible exact LeO.refl _)
      | (with_reducible exact LeO.none _)
      | (with_reducible refine LeO.ite ?_ ?_)
      | (with_reducible refine LeO.bind ?_ (fun _ => ?_))
      | exact ih0 _ _ _ _
      | exact ih1 _ _ _
      | exact LeO.none _
      | refine LeO.ite ?_ ?_
      | refine LeO.bind ?_ (fun _ => ?_)
    · intro y0 y1 y2
      unfold snmp_appendBase128Int.l1
      repeat' first
      | (with_reducible exact ih0 _ _ _ _)
      | (with_reducible exact ih1 _ _ _)
      | (with_reducible exact LeO.refl _)
      | (with_reducible exact LeO.none _)
      | (with_reducible refine LeO.ite ?_ ?_)
      | (with_reducible refine LeO.bind ?_ (fun _ => ?_))
      | exact ih0 _ _ _ _
      | exact ih1 _ _ _
      | exact LeO.none _
      | refine LeO.ite ?_ ?_
      | refine LeO.bind ?_ (fun _ => ?_)
theorem snmp_appendBase128Int.mono : ∀ a0 a1 k, LeO (snmp_appendBase128Int.f k a0 a1) (snmp_appendBase128Int.f (k + 1) a0 a1) := by
  intro a0 a1 k
  obtain ⟨ih0, ih1⟩ := snmp_appendBase128Int.mono_l k
  unfold snmp_appendBase128Int.f
  repeat' first
      | (with_reducible exact ih0 _ _ _ _)
      | (with_reducible exact ih1 _ _ _)
      | (with_reducible exact LeO.refl _)
      | (with_reducible exact LeO.none _)
      | (with_reducible refine LeO.ite ?_ ?_)
      | (with_reducible refine LeO.bind ?_ (fun _ => ?_))
      | exact ih0 _ _ _ _
      | exact ih1 _ _ _
      | exact LeO.none _
      | refine LeO.ite ?_ ?_
      | refine LeO.bind ?_ (fun _ => ?_)
set_option maxHeartbeats 8000000 in
set_option maxRecDepth 100000 in
theorem snmp_appendBase128Int.calls (k : Nat) (P0_ : Nat → Prop) (u9000_ : Value) (l0 : List Int) (a1 : Int) (r : List Int) (w0 w : World) (hB : Below w0.heap.size w0 w) (ho0 : Kd.R (Kd.int .u8) 5 w w0.heap.size P0_ u9000_ l0) (h : snmp_appendBase128Int.f k l0 a1 = some r) :
    Calls Tryd.prog 37 #[u9000_, .int .i64 a1] w fun e w' => ∃ v0_ : Value, e = .returned (v0_) ∧ Kd.R (Kd.int .u8) 5 w' w0.heap.size (fun k_ => (P0_ k_ ∨ w.heap.size ≤ k_)) v0_ r ∧ Below w0.heap.size w0 w' ∧ Kept w w' (fun k_ => P0_ k_) := by
  have HO0 := Aside0.mk (show Kd.R (Kd.int .u8) 5 w w0.heap.size (fun k_ => (P0_ k_ ∨ w.heap.size ≤ k_)) u9000_ l0 from Kd.R_mono ho0 (fun k_ hk => (.inl hk)))
  have HK := Aside0.mk (Kept.refl w (fun k_ => P0_ k_))
  have HW0 := Aside0.mk hB.size
  have HB := Aside0.mk hB
  clear hB
  have H : (if a1 = 0 then (if l0.length < 140737488355328 then (some (l0 ++ [0])) else (none)) else (snmp_appendBase128Int.l0 k l0 a1 0 a1)) = some r := h
  clear h
  by_cases c3 : a1 = 0
  · rw [if_pos c3] at H
    have c3b0 : (a1 == 0) = true := beq_iff_eq.mpr c3
    have c3b1 : (a1 != 0) = false := bne_eq_false_iff_eq.mpr c3
    clear c3
    by_cases c4 : l0.length < 140737488355328
    · rw [if_pos c4] at H
      have LMc4 := Aside0.mk c4
      clear c4
      obtain ⟨y110, hy110⟩ : ∃ y_ : List Int, y_ = (l0 ++ [0]) := ⟨_, rfl⟩
      replace H : (some y110) = some r := by first | (rw [hy110]; with_reducible exact H) | (have H2_ := (Option.bind_some _ _).symm.trans H; rw [hy110]; with_reducible exact H2_) | (have H2_ := (Option.bind_some _ _).symm.trans H; with_reducible exact H2_) | with_reducible exact H | (rw [hy110]; exact H) | exact H
      have Ny110 := Aside0.mk hy110
      clear hy110
      obtain rfl := Option.some.inj H
      go_enter Tryd.func37, Tryd.ntmps37
      go_wp2_with (first | ((with_reducible refine gate_builtin (b := .append) (xs := #[.tmp 11, .tmp 12]) rfl ?_); at_builtin; refine Kd.R_append (Kd.int .u8) (w0 := w0) w0.heap.size rfl (.tmp 11) (.tmp 12) 23 5 (.int .u8 0) 1 rfl Tryd.underlying23 info5 rfl (by decide) (by omega) u9000_ l0 0 [.int .u8 0] (fun k_ => (P0_ k_ ∨ w.heap.size ≤ k_)) (fun _ => False) rfl rfl ?aP (fun _ hk => hk.elim) ?aF ?aO ?aB ?aS ?aL ?_; (case aP => exact rfl); (case aB => exact (by repeat (first | (with_reducible first | exact HB.out | apply below_alloc | apply pw_below_drewN | apply below_drew1) | exact HB.out))); (case aF => exact (fun k_ hk => (.inr (Nat.le_trans (by first | exact HK.out.1 | exact (show Kept w _ (fun k_ => P0_ k_) from by repeat (first | (with_reducible first | exact HK.out | apply Kept.alloc | apply Kept.drewN | apply Kept.drew) | exact HK.out)).1) hk)))); (case aO => exact (by (with_reducible repeat (first | apply Kd.R_alloc | apply Kd.R_drewN | apply Kd.R_drew)); exact HO0.out)); (case aS => exact (below_size (by repeat (first | (with_reducible first | exact HB.out | apply below_alloc | apply pw_below_drewN | apply below_drew1) | exact HB.out)))); (case aL => have := LMc4.out; omega); intro v111 w5 ho hb hg hat; rw [← Ny110.out] at ho; have n0_ := Aside0.mk (hb); have n1_ := Aside0.mk (Kept.of_grown (S := (fun k_ => P0_ k_)) hg (by repeat (first | (with_reducible first | exact HK.out | apply Kept.alloc | apply Kept.drewN | apply Kept.drew) | exact HK.out)) (fun k_ e_ => (HO0.out.1 k_ e_))); have n2_ := Aside0.mk (ho); clear HB; clear HK; clear HO0; have HB := n0_; have HK := n1_; have HO112 := n2_; clear n0_ n1_ n2_; clear ho hb hg hat))
      go_ret
      exact ⟨_, by first | rfl | (simp [errW_none, errW_some] <;> rfl) | (simp [*, errW_none, errW_some] <;> rfl), by (with_reducible repeat (first | apply Kd.R_alloc | apply Kd.R_drewN | apply Kd.R_drew)); exact HO112.out, by repeat (first | (with_reducible first | exact HB.out | apply below_alloc | apply pw_below_drewN | apply below_drew1) | exact HB.out), by repeat (first | (with_reducible first | exact HK.out | apply Kept.alloc | apply Kept.drewN | apply Kept.drew) | exact HK.out)⟩
    · rw [if_neg c4] at H
      exact absurd H (by simp)
  · rw [if_neg c3] at H
    have c3b0 : (a1 == 0) = false := beq_eq_false_iff_ne.mpr c3
    have c3b1 : (a1 != 0) = true := bne_iff_ne.mpr c3
    have H' := Aside0.mk H
    clear H
    go_enter Tryd.func37, Tryd.ntmps37
    go_wp2
    go_loopg [5, 6] k (fun kq v5 v6 w' => ∃ (x5_1 : Int) (x6_1 : Int), v5 = .int .i64 x5_1 ∧ v6 = .int .i64 x6_1 ∧ Aside0 (snmp_appendBase128Int.l0 kq l0 a1 x5_1 x6_1 = some r) ∧ Aside0 (kq ≤ k) ∧ Aside0 (Kd.R (Kd.int .u8) 5 w' w0.heap.size (fun k_ => (P0_ k_ ∨ w.heap.size ≤ k_)) u9000_ l0) ∧ Aside0 (Kept w w' (fun k_ => P0_ k_)) ∧ Aside0 (Below w0.heap.size w0 w'))
    case atStart => exact ⟨(0), (a1), (by first | rfl | (simp; done) | (simp [*]; done)), (by first | rfl | (simp; done) | (simp [*]; done)), H', ⟨Nat.le_refl _⟩, ⟨by (with_reducible repeat (first | apply Kd.R_alloc | apply Kd.R_drewN | apply Kd.R_drew)); exact HO0.out⟩, ⟨by repeat (first | (with_reducible first | exact HK.out | apply Kept.alloc | apply Kept.drewN | apply Kept.drew) | exact HK.out)⟩, ⟨by repeat (first | (with_reducible first | exact HB.out | apply below_alloc | apply pw_below_drewN | apply below_drew1) | exact HB.out)⟩⟩
    case round =>
      clear H'
      try clear p2
      try clear c3
      try clear c3b0
      try clear c3b1
      try clear c4
      obtain ⟨x5_1, x6_1, rfl, rfl, HA, HK1, HO_0, HK, HB⟩ := hrel
      cases gk with
      | zero => exact absurd HA.out (by simp [snmp_appendBase128Int.l0])
      | succ k1 =>
        have H := HA.out
        clear HA
        simp only [snmp_appendBase128Int.l0] at H
        by_cases c6 : x6_1 > 0
        · rw [if_pos c6] at H
          have c6b0 : decide (0 < x6_1) = true := decide_eq_true c6
          clear c6
          have H' := Aside0.mk H
          clear H
          go_wp2
          go_roundg k1
          case measure => have := HK1.out; omega
          case rel => exact ⟨(wrap64 (x5_1 + 1)), (x6_1 / 128), (by first | rfl | (simp; done) | (simp [*]; done)), (by first | rfl | (simp; done) | (simp [*]; done)), H', ⟨by have := HK1.out; omega⟩, ⟨by (with_reducible repeat (first | apply Kd.R_alloc | apply Kd.R_drewN | apply Kd.R_drew)); exact HO_0.out⟩, ⟨by repeat (first | (with_reducible first | exact HK.out | apply Kept.alloc | apply Kept.drewN | apply Kept.drew) | exact HK.out)⟩, ⟨by repeat (first | (with_reducible first | exact HB.out | apply below_alloc | apply pw_below_drewN | apply below_drew1) | exact HB.out)⟩⟩
        · rw [if_neg c6] at H
          have c6b0 : decide (0 < x6_1) = false := decide_eq_false c6
          clear c6
          have H' := Aside0.mk H
          clear H
          go_wp2
          go_loopg [0, 7] k1 (fun kq v0 v7 w' => ∃ (x0_2 : List Int) (x7_2 : Int), v7 = .int .i64 x7_2 ∧ Aside0 (snmp_appendBase128Int.l1 kq x0_2 a1 x7_2 = some r) ∧ Aside0 (kq ≤ k1) ∧ Aside0 (Kd.R (Kd.int .u8) 5 w' w0.heap.size (fun k_ => (P0_ k_ ∨ w.heap.size ≤ k_)) v0 x0_2) ∧ Aside0 (Kept w w' (fun k_ => P0_ k_)) ∧ Aside0 (Below w0.heap.size w0 w'))
          case atStart => exact ⟨(l0), (wrap64 (x5_1 - 1)), (by first | rfl | (simp; done) | (simp [*]; done)), H', ⟨Nat.le_refl _⟩, ⟨by (with_reducible repeat (first | apply Kd.R_alloc | apply Kd.R_drewN | apply Kd.R_drew)); exact HO_0.out⟩, ⟨by repeat (first | (with_reducible first | exact HK.out | apply Kept.alloc | apply Kept.drewN | apply Kept.drew) | exact HK.out)⟩, ⟨by repeat (first | (with_reducible first | exact HB.out | apply below_alloc | apply pw_below_drewN | apply below_drew1) | exact HB.out)⟩⟩
          case round =>
            clear H'
            try clear p2
            try clear c3
            try clear c3b0
            try clear c3b1
            try clear c4
            try clear c6
            try clear c6b0
            try clear p6
            try clear p2
            obtain ⟨x0_2, x7_2, rfl, HA, HK2, HO_0, HK, HB⟩ := hrel
            cases gk with
            | zero => exact absurd HA.out (by simp [snmp_appendBase128Int.l1])
            | succ k2 =>
              have H := HA.out
              clear HA
              simp only [snmp_appendBase128Int.l1] at H
              by_cases c7 : x7_2 ≥ 0
              · rw [if_pos c7] at H
                have c7b0 : decide (0 ≤ x7_2) = true := decide_eq_true c7
                clear c7
                obtain ⟨ji8, hji8⟩ : ∃ j_ : Int, (IntKind.u64.wrap (wrap64 (x7_2 * 7))) = j_ := ⟨_, rfl⟩
                replace H : (if 0 ≤ (ji8) then (if x7_2 = 0 then (if x0_2.length < 140737488355328 then (snmp_appendBase128Int.l1 k2 (x0_2 ++ [Go.bits .and .u8 ((shr .i64 a1 (ji8)) % 256) 127]) a1 (wrap64 (x7_2 - 1))) else (none)) else (if x0_2.length < 140737488355328 then (snmp_appendBase128Int.l1 k2 (x0_2 ++ [Go.bits .or .u8 (Go.bits .and .u8 ((shr .i64 a1 (ji8)) % 256) 127) 128]) a1 (wrap64 (x7_2 - 1))) else (none))) else (none)) = some r := by first | (rw [hji8] at H; exact H) | (simp only [hji8] at H ⊢; exact H)
                by_cases c9 : 0 ≤ (ji8)
                · rw [if_pos c9] at H
                  have c9b0 := eq_true c9
                  have c9b1 : decide (0 ≤ (ji8)) = true := decide_eq_true c9
                  clear c9
                  obtain ⟨ji10, hji10⟩ : ∃ j_ : Int, (shr .i64 a1 (ji8)) = j_ := ⟨_, rfl⟩
                  replace H : (if x7_2 = 0 then (if x0_2.length < 140737488355328 then (snmp_appendBase128Int.l1 k2 (x0_2 ++ [Go.bits .and .u8 ((ji10) % 256) 127]) a1 (wrap64 (x7_2 - 1))) else (none)) else (if x0_2.length < 140737488355328 then (snmp_appendBase128Int.l1 k2 (x0_2 ++ [Go.bits .or .u8 (Go.bits .and .u8 ((ji10) % 256) 127) 128]) a1 (wrap64 (x7_2 - 1))) else (none))) = some r := by first | (rw [hji10] at H; exact H) | (simp only [hji10] at H ⊢; exact H)
                  have hji10_ : (a1 / 2 ^ min (ji8).toNat 64) = ji10 := hji10
                  have hji10z : (ji8) ≤ 64 → (a1 / 2 ^ (ji8).toNat) = ji10 := shr_small hji10
                  by_cases c11 : x7_2 = 0
                  · rw [if_pos c11] at H
                    have c11b0 : (x7_2 == 0) = true := beq_iff_eq.mpr c11
                    have c11b1 : (x7_2 != 0) = false := bne_eq_false_iff_eq.mpr c11
                    clear c11
                    by_cases c12 : x0_2.length < 140737488355328
                    · rw [if_pos c12] at H
                      have LMc12 := Aside0.mk c12
                      clear c12
                      obtain ⟨y113, hy113⟩ : ∃ y_ : List Int, y_ = (x0_2 ++ [Go.bits .and .u8 ((ji10) % 256) 127]) := ⟨_, rfl⟩
                      replace H : (snmp_appendBase128Int.l1 k2 y113 a1 (wrap64 (x7_2 - 1))) = some r := by first | (rw [hy113]; with_reducible exact H) | (have H2_ := (Option.bind_some _ _).symm.trans H; rw [hy113]; with_reducible exact H2_) | (have H2_ := (Option.bind_some _ _).symm.trans H; with_reducible exact H2_) | with_reducible exact H | (rw [hy113]; exact H) | exact H
                      have Ny113 := Aside0.mk hy113
                      clear hy113
                      have H' := Aside0.mk H
                      clear H
                      go_wp2_with (first | ((with_reducible refine gate_builtin (b := .append) (xs := #[.tmp 38, .tmp 40]) rfl ?_); at_builtin; refine Kd.R_append (Kd.int .u8) (w0 := w0) w0.heap.size rfl (.tmp 38) (.tmp 40) 23 5 (.int .u8 0) 1 rfl Tryd.underlying23 info5 rfl (by decide) (by omega) u0 x0_2 (Go.bits .and .u8 ((ji10) % 256) 127) [.int .u8 (Go.bits .and .u8 ((ji10) % 256) 127)] (fun k_ => (P0_ k_ ∨ w.heap.size ≤ k_)) (fun _ => False) rfl rfl ?aP (fun _ hk => hk.elim) ?aF ?aO ?aB ?aS ?aL ?_; (case aP => exact rfl); (case aB => exact (by repeat (first | (with_reducible first | exact HB.out | apply below_alloc | apply pw_below_drewN | apply below_drew1) | exact HB.out))); (case aF => exact (fun k_ hk => (.inr (Nat.le_trans (by first | exact HK.out.1 | exact (show Kept w _ (fun k_ => P0_ k_) from by repeat (first | (with_reducible first | exact HK.out | apply Kept.alloc | apply Kept.drewN | apply Kept.drew) | exact HK.out)).1) hk)))); (case aO => exact (by (with_reducible repeat (first | apply Kd.R_alloc | apply Kd.R_drewN | apply Kd.R_drew)); exact HO_0.out)); (case aS => exact (below_size (by repeat (first | (with_reducible first | exact HB.out | apply below_alloc | apply pw_below_drewN | apply below_drew1) | exact HB.out)))); (case aL => have := LMc12.out; omega); intro v114 w13 ho hb hg hat; rw [← Ny113.out] at ho; have n0_ := Aside0.mk (hb); have n1_ := Aside0.mk (Kept.of_grown (S := (fun k_ => P0_ k_)) hg (by repeat (first | (with_reducible first | exact HK.out | apply Kept.alloc | apply Kept.drewN | apply Kept.drew) | exact HK.out)) (fun k_ e_ => (HO_0.out.1 k_ e_))); have n2_ := Aside0.mk (ho); clear HB; clear HK; clear HO_0; have HB := n0_; have HK := n1_; have HO115 := n2_; clear n0_ n1_ n2_; clear ho hb hg hat))
                      go_roundg k2
                      case measure => have := HK1.out; have := HK2.out; omega
                      case rel => exact ⟨(y113), (wrap64 (x7_2 - 1)), (by first | rfl | (simp; done) | (simp [*]; done)), H', ⟨by have := HK1.out; have := HK2.out; omega⟩, ⟨by (with_reducible repeat (first | apply Kd.R_alloc | apply Kd.R_drewN | apply Kd.R_drew)); exact HO115.out⟩, ⟨by repeat (first | (with_reducible first | exact HK.out | apply Kept.alloc | apply Kept.drewN | apply Kept.drew) | exact HK.out)⟩, ⟨by repeat (first | (with_reducible first | exact HB.out | apply below_alloc | apply pw_below_drewN | apply below_drew1) | exact HB.out)⟩⟩
                    · rw [if_neg c12] at H
                      exact absurd H (by simp)
                  · rw [if_neg c11] at H
                    have c11b0 : (x7_2 == 0) = false := beq_eq_false_iff_ne.mpr c11
                    have c11b1 : (x7_2 != 0) = true := bne_iff_ne.mpr c11
                    by_cases c14 : x0_2.length < 140737488355328
                    · rw [if_pos c14] at H
                      have LMc14 := Aside0.mk c14
                      clear c14
                      obtain ⟨y116, hy116⟩ : ∃ y_ : List Int, y_ = (x0_2 ++ [Go.bits .or .u8 (Go.bits .and .u8 ((ji10) % 256) 127) 128]) := ⟨_, rfl⟩
                      replace H : (snmp_appendBase128Int.l1 k2 y116 a1 (wrap64 (x7_2 - 1))) = some r := by first | (rw [hy116]; with_reducible exact H) | (have H2_ := (Option.bind_some _ _).symm.trans H; rw [hy116]; with_reducible exact H2_) | (have H2_ := (Option.bind_some _ _).symm.trans H; with_reducible exact H2_) | with_reducible exact H | (rw [hy116]; exact H) | exact H
                      have Ny116 := Aside0.mk hy116
                      clear hy116
                      have H' := Aside0.mk H
                      clear H
                      go_wp2_with (first | ((with_reducible refine gate_builtin (b := .append) (xs := #[.tmp 38, .tmp 40]) rfl ?_); at_builtin; refine Kd.R_append (Kd.int .u8) (w0 := w0) w0.heap.size rfl (.tmp 38) (.tmp 40) 23 5 (.int .u8 0) 1 rfl Tryd.underlying23 info5 rfl (by decide) (by omega) u0 x0_2 (Go.bits .or .u8 (Go.bits .and .u8 ((ji10) % 256) 127) 128) [.int .u8 (Go.bits .or .u8 (Go.bits .and .u8 ((ji10) % 256) 127) 128)] (fun k_ => (P0_ k_ ∨ w.heap.size ≤ k_)) (fun _ => False) rfl rfl ?aP (fun _ hk => hk.elim) ?aF ?aO ?aB ?aS ?aL ?_; (case aP => exact rfl); (case aB => exact (by repeat (first | (with_reducible first | exact HB.out | apply below_alloc | apply pw_below_drewN | apply below_drew1) | exact HB.out))); (case aF => exact (fun k_ hk => (.inr (Nat.le_trans (by first | exact HK.out.1 | exact (show Kept w _ (fun k_ => P0_ k_) from by repeat (first | (with_reducible first | exact HK.out | apply Kept.alloc | apply Kept.drewN | apply Kept.drew) | exact HK.out)).1) hk)))); (case aO => exact (by (with_reducible repeat (first | apply Kd.R_alloc | apply Kd.R_drewN | apply Kd.R_drew)); exact HO_0.out)); (case aS => exact (below_size (by repeat (first | (with_reducible first | exact HB.out | apply below_alloc | apply pw_below_drewN | apply below_drew1) | exact HB.out)))); (case aL => have := LMc14.out; omega); intro v117 w15 ho hb hg hat; rw [← Ny116.out] at ho; have n0_ := Aside0.mk (hb); have n1_ := Aside0.mk (Kept.of_grown (S := (fun k_ => P0_ k_)) hg (by repeat (first | (with_reducible first | exact HK.out | apply Kept.alloc | apply Kept.drewN | apply Kept.drew) | exact HK.out)) (fun k_ e_ => (HO_0.out.1 k_ e_))); have n2_ := Aside0.mk (ho); clear HB; clear HK; clear HO_0; have HB := n0_; have HK := n1_; have HO118 := n2_; clear n0_ n1_ n2_; clear ho hb hg hat))
                      go_roundg k2
                      case measure => have := HK1.out; have := HK2.out; omega
                      case rel => exact ⟨(y116), (wrap64 (x7_2 - 1)), (by first | rfl | (simp; done) | (simp [*]; done)), H', ⟨by have := HK1.out; have := HK2.out; omega⟩, ⟨by (with_reducible repeat (first | apply Kd.R_alloc | apply Kd.R_drewN | apply Kd.R_drew)); exact HO118.out⟩, ⟨by repeat (first | (with_reducible first | exact HK.out | apply Kept.alloc | apply Kept.drewN | apply Kept.drew) | exact HK.out)⟩, ⟨by repeat (first | (with_reducible first | exact HB.out | apply below_alloc | apply pw_below_drewN | apply below_drew1) | exact HB.out)⟩⟩
                    · rw [if_neg c14] at H
                      exact absurd H (by simp)
                · rw [if_neg c9] at H
                  exact absurd H (by simp)
              · rw [if_neg c7] at H
                have c7b0 : decide (0 ≤ x7_2) = false := decide_eq_false c7
                clear c7
                obtain rfl := Option.some.inj H
                go_wp2
                go_ret
                exact ⟨_, by first | rfl | (simp [errW_none, errW_some] <;> rfl) | (simp [*, errW_none, errW_some] <;> rfl), by (with_reducible repeat (first | apply Kd.R_alloc | apply Kd.R_drewN | apply Kd.R_drew)); exact HO_0.out, by repeat (first | (with_reducible first | exact HB.out | apply below_alloc | apply pw_below_drewN | apply below_drew1) | exact HB.out), by repeat (first | (with_reducible first | exact HK.out | apply Kept.alloc | apply Kept.drewN | apply Kept.drew) | exact HK.out)⟩

-- NOT PRINTED: function 34 (snmp_marshalObjectIdentifier)

-- NOT PRINTED: function 29 (snmp_ZZName)

-- NOT PRINTED: function 30 (slices_Clone_byte_byte)

-- NOT PRINTED: function 23 (impl_Name)

-- NOT PRINTED: function 12 (laws_alive)

-- NOT PRINTED: function 4 (laws_FnReadUint)

end Go.Proofs.YtacbdhklfgapkaaDoor.PFnReadUint
