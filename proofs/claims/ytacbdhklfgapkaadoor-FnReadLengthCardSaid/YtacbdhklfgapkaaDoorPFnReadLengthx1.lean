-- PRINTED BY print.sh 35421559b90ae4d0a3588c463048766b98c2df88dd9212a6774a882060cdf62d: not written by this session
import Derived.Test.YtacbdhklfgapkaaDoorPFnReadLengthx0
namespace Go.Proofs.YtacbdhklfgapkaaDoor.PFnReadLength
open Go.RowKit Go.Proofs.YtacbdhklfgapkaaDoorW.PrintWords Go.Proofs.YtacbdhklfgapkaaDoorW.PrintLast Go.Proofs.YtacbdhklfgapkaaDoorW.PrintMore
attribute [local go_sem] max2_int min2_int max_two min_two max_three min_three max_four min_four   -- for this text's walks alone
set_option linter.unusedVariables false
set_option linter.unusedSimpArgs false

/-! ### spec_Length: function 20 -/
mutual
def spec_Length.j0 : Nat → Int → Int → Bool → Option (List Int)
  | 0, _, _, _ => none
  | k + 1, x0, x1, x11 => if x11 = true then (some (([(x0) % 256] : List Int))) else (spec_Length.l0 k x0 x1 (([] : List Int)))
def spec_Length.l0 : Nat → Int → Int → List Int → Option (List Int)
  | 0, _, _, _ => none
  | k + 1, x0, x1, x5 => if x0 > 0 then ((some (([(x0) % 256] : List Int) : List Int)).bind fun y107 => (if y107.length + x5.length < 140737488355328 then (spec_Length.l0 k (x0 / 256) x1 (y107 ++ x5)) else (none))) else (spec_Length.l1 k x5 x1 0)
def spec_Length.l1 : Nat → List Int → Int → Int → Option (List Int)
  | 0, _, _, _ => none
  | k + 1, x5, x25, x26 => if x26 < x25 then ((some (([0] : List Int) : List Int)).bind fun y113 => (if y113.length + x5.length < 140737488355328 then (spec_Length.l1 k (y113 ++ x5) x25 (wrap64 (x26 + 1))) else (none))) else ((some (([(wrap64 (128 + (x5.length : Int))) % 256] : List Int) : List Int)).bind fun y119 => (if y119.length + x5.length < 140737488355328 then (some (y119 ++ x5)) else (none)))
end
def spec_Length.f (k : Nat) (a0 : Int) (a1 : Int) : Option (List Int) := if a0 < 128 then (spec_Length.j0 k a0 a1 (a1 == 0)) else (spec_Length.j0 k a0 a1 false)
theorem spec_Length.mono_l : ∀ k, (∀ y0 y1 y2, LeO (spec_Length.j0 k y0 y1 y2) (spec_Length.j0 (k + 1) y0 y1 y2)) ∧ (∀ y0 y1 y2, LeO (spec_Length.l0 k y0 y1 y2) (spec_Length.l0 (k + 1) y0 y1 y2)) ∧ (∀ y0 y1 y2, LeO (spec_Length.l1 k y0 y1 y2) (spec_Length.l1 (k + 1) y0 y1 y2))
  | 0 => ⟨fun _ _ _ r h => by simp [spec_Length.j0] at h, fun _ _ _ r h => by simp [spec_Length.l0] at h, fun _ _ _ r h => by simp [spec_Length.l1] at h⟩
  | k + 1 => by
    obtain ⟨ih0, ih1, ih2⟩ := spec_Length.mono_l k
    refine ⟨?_, ?_, ?_⟩
    · intro y0 y1 y2
      unfold spec_Length.j0
      repeat' first
      | (with_reducible exact ih0 _ _ _)
      | (with_reducible exact ih1 _ _ _)
      | (with_reducible exact ih2 _ _ _)
      | (with_reducible exact LeO.refl _)
      | (with_reducible exact LeO.none _)
      | (with_reducible refine LeO.ite ?_ ?_)
      | (with_reducible refine LeO.bind ?_ (fun _ => ?_))
      | exact ih0 _ _ _
      | exact ih1 _ _ _
      | exact ih2 _ _ _
      | exact LeO.none _
      | refine LeO.ite ?_ ?_
      | refine LeO.bind ?_ (fun _ => ?_)
    · intro y0 y1 y2
      unfold spec_Length.l0
      repeat' first
      | (with_reducible exact ih0 _ _ _)
      | (with_reducible exact ih1 _ _ _)
      | (with_reducible exact ih2 _ _ _)
      | (with_reducible exact LeO.refl _)
      | (with_reducible exact LeO.none _)
      | (with_reducible refine LeO.ite ?_ ?_)
      | (with_reducible refine LeO.bind ?_ (fun _ => ?_))
      | exact ih0 _ _ _
      | exact ih1 _ _ _
      | exact ih2 _ _ _
      | exact LeO.none _
      | refine LeO.ite ?_ ?_
      | refine LeO.bind ?_ (fun _ => ?_)
    · intro y0 y1 y2
      unfold spec_Length.l1
      repeat' first
      | (with_reducible exact ih0 _ _ _)
      | (with_reducible exact ih1 _ _ _)
      | (with_reducible exact ih2 _ _ _)
      | (with_reducible exact LeO.refl _)
      | (with_reducible exact LeO.none _)
      | (with_reducible refine LeO.ite ?_ ?_)
      | (with_reducible refine LeO.bind ?_ (fun _ => ?_))
      | exact ih0 _ _ _
      | exact ih1 _ _ _
      | exact ih2 _ _ _
      | exact LeO.none _
      | refine LeO.ite ?_ ?_
      | refine LeO.bind ?_ (fun _ => ?_)
theorem spec_Length.mono : ∀ a0 a1 k, LeO (spec_Length.f k a0 a1) (spec_Length.f (k + 1) a0 a1) := by
  intro a0 a1 k
  obtain ⟨ih0, ih1, ih2⟩ := spec_Length.mono_l k
  unfold spec_Length.f
  repeat' first
      | (with_reducible exact ih0 _ _ _)
      | (with_reducible exact ih1 _ _ _)
      | (with_reducible exact ih2 _ _ _)
      | (with_reducible exact LeO.refl _)
      | (with_reducible exact LeO.none _)
      | (with_reducible refine LeO.ite ?_ ?_)
      | (with_reducible refine LeO.bind ?_ (fun _ => ?_))
      | exact ih0 _ _ _
      | exact ih1 _ _ _
      | exact ih2 _ _ _
      | exact LeO.none _
      | refine LeO.ite ?_ ?_
      | refine LeO.bind ?_ (fun _ => ?_)
set_option maxHeartbeats 8000000 in
set_option maxRecDepth 100000 in
theorem spec_Length.calls (k : Nat) (a0 : Int) (a1 : Int) (r : List Int) (w : World) (h : spec_Length.f k a0 a1 = some r) :
    Calls Tryd.prog 20 #[.int .i64 a0, .int .i64 a1] w fun e w' => ∃ v0_ : Value, e = .returned (v0_) ∧ Kd.R (Kd.int .u8) 5 w' w.heap.size (fun _ => True) v0_ r ∧ Below w.heap.size w w' := by
  have HB := Aside0.mk (Below.refl w.heap.size w)
  have H : (if a0 < 128 then (spec_Length.j0 k a0 a1 (a1 == 0)) else (spec_Length.j0 k a0 a1 false)) = some r := h
  clear h
  have HC3 := Aside0.mk H
  clear H
  go_enter Tryd.func20, Tryd.ntmps20
  go_upto_region 1 with (fail)
  go_cut [11] (fun v11 wc => ∃ (kq : Nat) (x11_2 : Bool), v11 = .bool x11_2 ∧ Aside0 (spec_Length.j0 kq a0 a1 x11_2 = some r) ∧ Aside0 (kq ≤ k) ∧ Aside0 (Below w.heap.size w wc))
  case first =>
    have H := HC3.out
    clear HC3
    by_cases c4 : a0 < 128
    · rw [if_pos c4] at H
      have c4b0 : decide (a0 < 128) = true := decide_eq_true c4
      clear c4
      (first | rw [c4b0] | (simp only [i64_w, i32_w]; rw [c4b0]) | skip)
      have H' := Aside0.mk H
      clear H
      go_wp2
      go_meet
      case rel => exact ⟨_, ((a1 == 0)), (by first | rfl | (simp; done) | (simp [*]; done)), H', ⟨by first | omega | exact Nat.le_refl _⟩, ⟨by repeat (first | (with_reducible first | exact HB.out | apply below_alloc | apply pw_below_drewN | apply below_drew1) | exact HB.out)⟩⟩
    · rw [if_neg c4] at H
      have c4b0 : decide (a0 < 128) = false := decide_eq_false c4
      clear c4
      (first | rw [c4b0] | (simp only [i64_w, i32_w]; rw [c4b0]) | skip)
      have H' := Aside0.mk H
      clear H
      go_wp2
      go_meet
      case rel => exact ⟨_, (false), (by first | rfl | (simp; done) | (simp [*]; done)), H', ⟨by first | omega | exact Nat.le_refl _⟩, ⟨by repeat (first | (with_reducible first | exact HB.out | apply below_alloc | apply pw_below_drewN | apply below_drew1) | exact HB.out)⟩⟩
  case rest =>
    clear HC3
    try clear c2
    try clear p2
    try clear c4
    try clear c4b0
    obtain ⟨kq, x11_2, rfl, HA, HJ2, HB⟩ := hcut
    cases kq with
    | zero => exact absurd HA.out (by simp [spec_Length.j0])
    | succ kj2 =>
      have H := HA.out
      clear HA
      simp only [spec_Length.j0] at H
      by_cases c5 : x11_2 = true
      · subst c5
        have H1 : (some (([(a0) % 256] : List Int))) = some r := by rw [if_pos rfl] at H; exact H
        clear H
        have H := H1
        clear H1
        obtain ⟨y101, hy101⟩ : ∃ y_ : List Int, y_ = (([(a0) % 256] : List Int)) := ⟨_, rfl⟩
        replace H : (some y101) = some r := by first | (rw [hy101]; with_reducible exact H) | (have H2_ := (Option.bind_some _ _).symm.trans H; rw [hy101]; with_reducible exact H2_) | (have H2_ := (Option.bind_some _ _).symm.trans H; with_reducible exact H2_) | with_reducible exact H | (rw [hy101]; exact H) | exact H
        have Ny101 := Aside0.mk hy101
        clear hy101
        obtain rfl := Option.some.inj H
        go_wp2_with (first | ((with_reducible refine gate_dst (N := 14) rfl ?_); refine Kd.R_lit (Kd.int .u8) _ 5 ?hg (N := 14) ?hd (xs := ([(a0) % 256] : List Int)) (inner := [.int .u8 ((a0) % 256)]) (ok := fun _ => True) (okp := fun _ => True) ?hr ?hp (fun _ hk => hk) trivial (Below.refl _ _) (Nat.le_refl _) (by simp) ?_; (case hd => rfl); (case hg => rfl); (case hr => first | (go_simp; done) | (go_simp; rfl)); (case hp => exact (Reps.one (show Kd.M (Kd.int .u8) _ _ _ ((a0) % 256) [.int .u8 ((a0) % 256)] from rfl) (Reps.none _ _))); intro v102 w6 ho7 hb hg_ hnew_; clear hg_ hnew_; (first | rw [← Ny101.out] at ho7 | (simp only [Int.reduceToNat] at ho7; rw [← Ny101.out] at ho7)); have n0_ := Aside0.mk (Kd.R_lower ho7 (below_size (by repeat (first | (with_reducible first | exact HB.out | apply below_alloc | apply pw_below_drewN | apply below_drew1) | exact HB.out)))); have n1_ := Aside0.mk (below_step (by repeat (first | (with_reducible first | exact HB.out | apply below_alloc | apply pw_below_drewN | apply below_drew1) | exact HB.out)) hb); clear HB; have HO103 := n0_; have HB := n1_; clear n0_ n1_; clear hb ho7))
        go_ret
        exact ⟨_, by first | rfl | (simp [errW_none, errW_some] <;> rfl) | (simp [*, errW_none, errW_some] <;> rfl), by (with_reducible repeat (first | apply Kd.R_alloc | apply Kd.R_drewN | apply Kd.R_drew)); exact HO103.out, by repeat (first | (with_reducible first | exact HB.out | apply below_alloc | apply pw_below_drewN | apply below_drew1) | exact HB.out)⟩
      · replace c5 := Bool.eq_false_iff.mpr c5
        subst c5
        have H1 : (spec_Length.l0 kj2 a0 a1 (([] : List Int))) = some r := by rw [if_neg (show ¬ (false = true) by decide)] at H; exact H
        clear H
        have H := H1
        clear H1
        obtain ⟨y104, hy104⟩ : ∃ y_ : List Int, y_ = (([] : List Int)) := ⟨_, rfl⟩
        replace H : (spec_Length.l0 kj2 a0 a1 y104) = some r := by first | (rw [hy104]; with_reducible exact H) | (have H2_ := (Option.bind_some _ _).symm.trans H; rw [hy104]; with_reducible exact H2_) | (have H2_ := (Option.bind_some _ _).symm.trans H; with_reducible exact H2_) | with_reducible exact H | (rw [hy104]; exact H) | exact H
        have Ny104 := Aside0.mk hy104
        clear hy104
        have H' := Aside0.mk H
        clear H
        go_wp2_with (first | ((with_reducible refine gate_dst (N := 15) rfl ?_); refine Kd.R_lit (Kd.int .u8) _ 5 ?hg (N := 15) ?hd (xs := ([] : List Int)) (inner := []) (ok := fun _ => True) (okp := fun _ => True) ?hr ?hp (fun _ hk => hk) trivial (Below.refl _ _) (Nat.le_refl _) (by simp) ?_; (case hd => rfl); (case hg => rfl); (case hr => first | (go_simp; done) | (go_simp; rfl)); (case hp => exact (Reps.none _ _)); intro v105 w8 ho9 hb hg_ hnew_; clear hg_ hnew_; (first | rw [← Ny104.out] at ho9 | (simp only [Int.reduceToNat] at ho9; rw [← Ny104.out] at ho9)); have n0_ := Aside0.mk (Kd.R_lower ho9 (below_size (by repeat (first | (with_reducible first | exact HB.out | apply below_alloc | apply pw_below_drewN | apply below_drew1) | exact HB.out)))); have n1_ := Aside0.mk (below_step (by repeat (first | (with_reducible first | exact HB.out | apply below_alloc | apply pw_below_drewN | apply below_drew1) | exact HB.out)) hb); clear HB; have HO106 := n0_; have HB := n1_; clear n0_ n1_; clear hb ho9))
        go_loopg [0, 5] kj2 (fun kq v0 v5 w' => ∃ (x0_2 : Int) (x5_2 : List Int), v0 = .int .i64 x0_2 ∧ Aside0 (spec_Length.l0 kq x0_2 a1 x5_2 = some r) ∧ Aside0 (kq ≤ kj2) ∧ Aside0 (Kd.R (Kd.int .u8) 5 w' w.heap.size (fun _ => True) v5 x5_2) ∧ Aside0 (Below w.heap.size w w'))
        case atStart => exact ⟨(a0), (y104), (by first | rfl | (simp; done) | (simp [*]; done)), H', ⟨Nat.le_refl _⟩, ⟨by (with_reducible repeat (first | apply Kd.R_alloc | apply Kd.R_drewN | apply Kd.R_drew)); exact HO106.out⟩, ⟨by repeat (first | (with_reducible first | exact HB.out | apply below_alloc | apply pw_below_drewN | apply below_drew1) | exact HB.out)⟩⟩
        case round =>
          clear H'
          try clear c2
          try clear p2
          try clear c4
          try clear c4b0
          try clear c5
          try clear p2
          obtain ⟨x0_2, x5_2, rfl, HA, HK2, HO_5, HB⟩ := hrel
          cases gk with
          | zero => exact absurd HA.out (by simp [spec_Length.l0])
          | succ k2 =>
            have H := HA.out
            clear HA
            simp only [spec_Length.l0] at H
            by_cases c10 : x0_2 > 0
            · rw [if_pos c10] at H
              have c10b0 : decide (0 < x0_2) = true := decide_eq_true c10
              clear c10
              obtain ⟨y107, hy107⟩ : ∃ y_ : List Int, y_ = (([(x0_2) % 256] : List Int)) := ⟨_, rfl⟩
              replace H : (if y107.length + x5_2.length < 140737488355328 then (spec_Length.l0 k2 (x0_2 / 256) a1 (y107 ++ x5_2)) else (none)) = some r := by first | (rw [hy107]; with_reducible exact H) | (have H2_ := (Option.bind_some _ _).symm.trans H; rw [hy107]; with_reducible exact H2_) | (have H2_ := (Option.bind_some _ _).symm.trans H; with_reducible exact H2_) | with_reducible exact H | (rw [hy107]; exact H) | exact H
              have Ny107 := Aside0.mk hy107
              clear hy107
              by_cases c11 : y107.length + x5_2.length < 140737488355328
              · rw [if_pos c11] at H
                have LMc11 := Aside0.mk c11
                clear c11
                obtain ⟨y110, hy110⟩ : ∃ y_ : List Int, y_ = (y107 ++ x5_2) := ⟨_, rfl⟩
                replace H : (spec_Length.l0 k2 (x0_2 / 256) a1 y110) = some r := by first | (rw [hy110]; with_reducible exact H) | (have H2_ := (Option.bind_some _ _).symm.trans H; rw [hy110]; with_reducible exact H2_) | (have H2_ := (Option.bind_some _ _).symm.trans H; with_reducible exact H2_) | with_reducible exact H | (rw [hy110]; exact H) | exact H
                have Ny110 := Aside0.mk hy110
                clear hy110
                have H' := Aside0.mk H
                clear H
                go_wp2_with (first | ((with_reducible refine gate_dst (N := 20) rfl ?_); refine Kd.R_lit (Kd.int .u8) _ 5 ?hg (N := 20) ?hd (xs := ([(x0_2) % 256] : List Int)) (inner := [.int .u8 ((x0_2) % 256)]) (ok := fun _ => True) (okp := fun _ => True) ?hr ?hp (fun _ hk => hk) trivial (Below.refl _ _) (Nat.le_refl _) (by simp) ?_; (case hd => rfl); (case hg => rfl); (case hr => first | (go_simp; done) | (go_simp; rfl)); (case hp => exact (Reps.one (show Kd.M (Kd.int .u8) _ _ _ ((x0_2) % 256) [.int .u8 ((x0_2) % 256)] from rfl) (Reps.none _ _))); intro v108 w12 ho13 hb hg_ hnew_; clear hg_ hnew_; (first | rw [← Ny107.out] at ho13 | (simp only [Int.reduceToNat] at ho13; rw [← Ny107.out] at ho13)); have n0_ := Aside0.mk (Kd.R_elder' (by (with_reducible repeat (first | apply Kd.R_alloc | apply Kd.R_drewN | apply Kd.R_drew)); exact HO_5.out) (Kd.R_base ho13) hb); have n1_ := Aside0.mk (Kd.R_lower (Kd.R_new' ho13 (Kd.R_lt (by (with_reducible repeat (first | apply Kd.R_alloc | apply Kd.R_drewN | apply Kd.R_drew)); exact HO_5.out))) (below_size (by repeat (first | (with_reducible first | exact HB.out | apply below_alloc | apply pw_below_drewN | apply below_drew1) | exact HB.out)))); have n2_ := Aside0.mk (below_step (by repeat (first | (with_reducible first | exact HB.out | apply below_alloc | apply pw_below_drewN | apply below_drew1) | exact HB.out)) hb); clear HO_5; clear HB; have HO_5 := n0_; have HO109 := n1_; have HB := n2_; clear n0_ n1_ n2_; clear hb ho13; obtain ⟨Ao15, co15, eo15⟩ := Kd.R_slice HO_5.out; subst eo15) | ((with_reducible refine gate_builtin (b := .append) (xs := #[.tmp 20, .tmp 21]) rfl ?_); at_builtin; refine Kd.R_append_rows (Kd.int .u8) (w0 := w) w.heap.size rfl (.tmp 20) (.tmp 21) 23 5 (.int .u8 0) 1 rfl Tryd.underlying23 info5 rfl (by decide) (by omega) v108 y107 x5_2 _ _ _ (fun k_ => some k_ ≠ (.slice Ao15 x5_2.length co15 : Value).ownBlock) (fun _ => False) rfl rfl ?aO ?aR (fun _ _ h => h) (fun _ h => h.elim) ?aF ?aB ?aS ?aL ?_; (case aR => repeat (first | exact (Kd.R_reads' HO_5.out).2.2 | (with_reducible refine Kd.C_alloc ?_ _) | (with_reducible refine Kd.C_drewN ?_ _) | (with_reducible refine Kd.C_drew ?_))); (case aB => exact (by repeat (first | (with_reducible first | exact HB.out | apply below_alloc | apply pw_below_drewN | apply below_drew1) | exact HB.out))); (case aF => exact (fun k_ hk => Kd.fresh' (Kd.R_lt (by (with_reducible repeat (first | apply Kd.R_alloc | apply Kd.R_drewN | apply Kd.R_drew)); exact HO_5.out)) k_ hk)); (case aO => exact (by (with_reducible repeat (first | apply Kd.R_alloc | apply Kd.R_drewN | apply Kd.R_drew)); exact Kd.R_mono HO109.out (fun _ hk => hk.2))); (case aS => exact (below_size (by repeat (first | (with_reducible first | exact HB.out | apply below_alloc | apply pw_below_drewN | apply below_drew1) | exact HB.out)))); (case aL => have := LMc11.out; omega); intro v111 w14 ho hb hg hat; rw [← Ny110.out] at ho; have n0_ := Aside0.mk (Kd.R_after (ok := (fun _ => True)) (by (with_reducible repeat (first | apply Kd.R_alloc | apply Kd.R_drewN | apply Kd.R_drew)); exact HO_5.out) hg hat); have n1_ := Aside0.mk (hb); have n2_ := Aside0.mk (ho); clear HO_5; clear HB; clear HO109; have HO_5 := n0_; have HB := n1_; have HO112 := n2_; clear n0_ n1_ n2_; clear ho hb hg hat))
                go_roundg k2
                case measure => have := HJ2.out; have := HK2.out; omega
                case rel => exact ⟨(x0_2 / 256), (y110), (by first | rfl | (simp; done) | (simp [*]; done)), H', ⟨by have := HJ2.out; have := HK2.out; omega⟩, ⟨by (with_reducible repeat (first | apply Kd.R_alloc | apply Kd.R_drewN | apply Kd.R_drew)); exact Kd.R_mono HO112.out (fun _ hk => trivial)⟩, ⟨by repeat (first | (with_reducible first | exact HB.out | apply below_alloc | apply pw_below_drewN | apply below_drew1) | exact HB.out)⟩⟩
              · rw [if_neg c11] at H
                exact absurd H (by simp)
            · rw [if_neg c10] at H
              have c10b0 : decide (0 < x0_2) = false := decide_eq_false c10
              clear c10
              have H' := Aside0.mk H
              clear H
              go_wp2
              go_loopg [5, 26] k2 (fun kq v5 v26 w' => ∃ (x5_3 : List Int) (x26_3 : Int), v26 = .int .i64 x26_3 ∧ Aside0 (spec_Length.l1 kq x5_3 a1 x26_3 = some r) ∧ Aside0 (kq ≤ k2) ∧ Aside0 (Kd.R (Kd.int .u8) 5 w' w.heap.size (fun _ => True) v5 x5_3) ∧ Aside0 (Below w.heap.size w w'))
              case atStart => exact ⟨(x5_2), (0), (by first | rfl | (simp; done) | (simp [*]; done)), H', ⟨Nat.le_refl _⟩, ⟨by (with_reducible repeat (first | apply Kd.R_alloc | apply Kd.R_drewN | apply Kd.R_drew)); exact HO_5.out⟩, ⟨by repeat (first | (with_reducible first | exact HB.out | apply below_alloc | apply pw_below_drewN | apply below_drew1) | exact HB.out)⟩⟩
              case round =>
                clear H'
                try clear c1
                try clear c2
                try clear p2
                try clear c4
                try clear c4b0
                try clear c5
                try clear c10
                try clear c10b0
                try clear c11
                try clear p2
                obtain ⟨x5_3, x26_3, rfl, HA, HK3, HO_5, HB⟩ := hrel
                cases gk with
                | zero => exact absurd HA.out (by simp [spec_Length.l1])
                | succ k3 =>
                  have H := HA.out
                  clear HA
                  simp only [spec_Length.l1] at H
                  by_cases c16 : x26_3 < a1
                  · rw [if_pos c16] at H
                    have c16b0 : decide (x26_3 < a1) = true := decide_eq_true c16
                    clear c16
                    obtain ⟨y113, hy113⟩ : ∃ y_ : List Int, y_ = (([0] : List Int)) := ⟨_, rfl⟩
                    replace H : (if y113.length + x5_3.length < 140737488355328 then (spec_Length.l1 k3 (y113 ++ x5_3) a1 (wrap64 (x26_3 + 1))) else (none)) = some r := by first | (rw [hy113]; with_reducible exact H) | (have H2_ := (Option.bind_some _ _).symm.trans H; rw [hy113]; with_reducible exact H2_) | (have H2_ := (Option.bind_some _ _).symm.trans H; with_reducible exact H2_) | with_reducible exact H | (rw [hy113]; exact H) | exact H
                    have Ny113 := Aside0.mk hy113
                    clear hy113
                    by_cases c17 : y113.length + x5_3.length < 140737488355328
                    · rw [if_pos c17] at H
                      have LMc17 := Aside0.mk c17
                      clear c17
                      obtain ⟨y116, hy116⟩ : ∃ y_ : List Int, y_ = (y113 ++ x5_3) := ⟨_, rfl⟩
                      replace H : (spec_Length.l1 k3 y116 a1 (wrap64 (x26_3 + 1))) = some r := by first | (rw [hy116]; with_reducible exact H) | (have H2_ := (Option.bind_some _ _).symm.trans H; rw [hy116]; with_reducible exact H2_) | (have H2_ := (Option.bind_some _ _).symm.trans H; with_reducible exact H2_) | with_reducible exact H | (rw [hy116]; exact H) | exact H
                      have Ny116 := Aside0.mk hy116
                      clear hy116
                      have H' := Aside0.mk H
                      clear H
                      go_wp2_with (first | ((with_reducible refine gate_dst (N := 28) rfl ?_); refine Kd.R_lit (Kd.int .u8) _ 5 ?hg (N := 28) ?hd (xs := ([0] : List Int)) (inner := [.int .u8 0]) (ok := fun _ => True) (okp := fun _ => True) ?hr ?hp (fun _ hk => hk) trivial (Below.refl _ _) (Nat.le_refl _) (by simp) ?_; (case hd => rfl); (case hg => rfl); (case hr => first | (go_simp; done) | (go_simp; rfl)); (case hp => exact (Reps.one (show Kd.M (Kd.int .u8) _ _ _ 0 [.int .u8 0] from rfl) (Reps.none _ _))); intro v114 w18 ho19 hb hg_ hnew_; clear hg_ hnew_; (first | rw [← Ny113.out] at ho19 | (simp only [Int.reduceToNat] at ho19; rw [← Ny113.out] at ho19)); have n0_ := Aside0.mk (Kd.R_elder' (by (with_reducible repeat (first | apply Kd.R_alloc | apply Kd.R_drewN | apply Kd.R_drew)); exact HO_5.out) (Kd.R_base ho19) hb); have n1_ := Aside0.mk (Kd.R_lower (Kd.R_new' ho19 (Kd.R_lt (by (with_reducible repeat (first | apply Kd.R_alloc | apply Kd.R_drewN | apply Kd.R_drew)); exact HO_5.out))) (below_size (by repeat (first | (with_reducible first | exact HB.out | apply below_alloc | apply pw_below_drewN | apply below_drew1) | exact HB.out)))); have n2_ := Aside0.mk (below_step (by repeat (first | (with_reducible first | exact HB.out | apply below_alloc | apply pw_below_drewN | apply below_drew1) | exact HB.out)) hb); clear HO_5; clear HB; have HO_5 := n0_; have HO115 := n1_; have HB := n2_; clear n0_ n1_ n2_; clear hb ho19; obtain ⟨Ao21, co21, eo21⟩ := Kd.R_slice HO_5.out; subst eo21) | ((with_reducible refine gate_builtin (b := .append) (xs := #[.tmp 28, .tmp 29]) rfl ?_); at_builtin; refine Kd.R_append_rows (Kd.int .u8) (w0 := w) w.heap.size rfl (.tmp 28) (.tmp 29) 23 5 (.int .u8 0) 1 rfl Tryd.underlying23 info5 rfl (by decide) (by omega) v114 y113 x5_3 _ _ _ (fun k_ => some k_ ≠ (.slice Ao21 x5_3.length co21 : Value).ownBlock) (fun _ => False) rfl rfl ?aO ?aR (fun _ _ h => h) (fun _ h => h.elim) ?aF ?aB ?aS ?aL ?_; (case aR => repeat (first | exact (Kd.R_reads' HO_5.out).2.2 | (with_reducible refine Kd.C_alloc ?_ _) | (with_reducible refine Kd.C_drewN ?_ _) | (with_reducible refine Kd.C_drew ?_))); (case aB => exact (by repeat (first | (with_reducible first | exact HB.out | apply below_alloc | apply pw_below_drewN | apply below_drew1) | exact HB.out))); (case aF => exact (fun k_ hk => Kd.fresh' (Kd.R_lt (by (with_reducible repeat (first | apply Kd.R_alloc | apply Kd.R_drewN | apply Kd.R_drew)); exact HO_5.out)) k_ hk)); (case aO => exact (by (with_reducible repeat (first | apply Kd.R_alloc | apply Kd.R_drewN | apply Kd.R_drew)); exact Kd.R_mono HO115.out (fun _ hk => hk.2))); (case aS => exact (below_size (by repeat (first | (with_reducible first | exact HB.out | apply below_alloc | apply pw_below_drewN | apply below_drew1) | exact HB.out)))); (case aL => have := LMc17.out; omega); intro v117 w20 ho hb hg hat; rw [← Ny116.out] at ho; have n0_ := Aside0.mk (Kd.R_after (ok := (fun _ => True)) (by (with_reducible repeat (first | apply Kd.R_alloc | apply Kd.R_drewN | apply Kd.R_drew)); exact HO_5.out) hg hat); have n1_ := Aside0.mk (hb); have n2_ := Aside0.mk (ho); clear HO_5; clear HB; clear HO115; have HO_5 := n0_; have HB := n1_; have HO118 := n2_; clear n0_ n1_ n2_; clear ho hb hg hat))
                      go_roundg k3
                      case measure => have := HJ2.out; have := HK2.out; have := HK3.out; omega
                      case rel => exact ⟨(y116), (wrap64 (x26_3 + 1)), (by first | rfl | (simp; done) | (simp [*]; done)), H', ⟨by have := HJ2.out; have := HK2.out; have := HK3.out; omega⟩, ⟨by (with_reducible repeat (first | apply Kd.R_alloc | apply Kd.R_drewN | apply Kd.R_drew)); exact Kd.R_mono HO118.out (fun _ hk => trivial)⟩, ⟨by repeat (first | (with_reducible first | exact HB.out | apply below_alloc | apply pw_below_drewN | apply below_drew1) | exact HB.out)⟩⟩
                    · rw [if_neg c17] at H
                      exact absurd H (by simp)
                  · rw [if_neg c16] at H
                    have c16b0 : decide (x26_3 < a1) = false := decide_eq_false c16
                    clear c16
                    obtain ⟨y119, hy119⟩ : ∃ y_ : List Int, y_ = (([(wrap64 (128 + (x5_3.length : Int))) % 256] : List Int)) := ⟨_, rfl⟩
                    replace H : (if y119.length + x5_3.length < 140737488355328 then (some (y119 ++ x5_3)) else (none)) = some r := by first | (rw [hy119]; with_reducible exact H) | (have H2_ := (Option.bind_some _ _).symm.trans H; rw [hy119]; with_reducible exact H2_) | (have H2_ := (Option.bind_some _ _).symm.trans H; with_reducible exact H2_) | with_reducible exact H | (rw [hy119]; exact H) | exact H
                    have Ny119 := Aside0.mk hy119
                    clear hy119
                    by_cases c22 : y119.length + x5_3.length < 140737488355328
                    · rw [if_pos c22] at H
                      have LMc22 := Aside0.mk c22
                      clear c22
                      obtain ⟨y122, hy122⟩ : ∃ y_ : List Int, y_ = (y119 ++ x5_3) := ⟨_, rfl⟩
                      replace H : (some y122) = some r := by first | (rw [hy122]; with_reducible exact H) | (have H2_ := (Option.bind_some _ _).symm.trans H; rw [hy122]; with_reducible exact H2_) | (have H2_ := (Option.bind_some _ _).symm.trans H; with_reducible exact H2_) | with_reducible exact H | (rw [hy122]; exact H) | exact H
                      have Ny122 := Aside0.mk hy122
                      clear hy122
                      obtain rfl := Option.some.inj H
                      obtain ⟨Ao23, co23, eo23⟩ := Kd.R_slice HO_5.out
                      subst eo23
                      go_wp2_with (first | ((with_reducible refine gate_dst (N := 36) rfl ?_); refine Kd.R_lit (Kd.int .u8) _ 5 ?hg (N := 36) ?hd (xs := ([(wrap64 (128 + (x5_3.length : Int))) % 256] : List Int)) (inner := [.int .u8 ((wrap64 (128 + (x5_3.length : Int))) % 256)]) (ok := fun _ => True) (okp := fun _ => True) ?hr ?hp (fun _ hk => hk) trivial (Below.refl _ _) (Nat.le_refl _) (by simp) ?_; (case hd => rfl); (case hg => rfl); (case hr => first | (go_simp; done) | (go_simp; rfl)); (case hp => exact (Reps.one (show Kd.M (Kd.int .u8) _ _ _ ((wrap64 (128 + (x5_3.length : Int))) % 256) [.int .u8 ((wrap64 (128 + (x5_3.length : Int))) % 256)] from rfl) (Reps.none _ _))); intro v120 w24 ho25 hb hg_ hnew_; clear hg_ hnew_; (first | rw [← Ny119.out] at ho25 | (simp only [Int.reduceToNat] at ho25; rw [← Ny119.out] at ho25)); have n0_ := Aside0.mk (Kd.R_elder' (by (with_reducible repeat (first | apply Kd.R_alloc | apply Kd.R_drewN | apply Kd.R_drew)); exact HO_5.out) (Kd.R_base ho25) hb); have n1_ := Aside0.mk (Kd.R_lower (Kd.R_new' ho25 (Kd.R_lt (by (with_reducible repeat (first | apply Kd.R_alloc | apply Kd.R_drewN | apply Kd.R_drew)); exact HO_5.out))) (below_size (by repeat (first | (with_reducible first | exact HB.out | apply below_alloc | apply pw_below_drewN | apply below_drew1) | exact HB.out)))); have n2_ := Aside0.mk (below_step (by repeat (first | (with_reducible first | exact HB.out | apply below_alloc | apply pw_below_drewN | apply below_drew1) | exact HB.out)) hb); clear HO_5; clear HB; have HO_5 := n0_; have HO121 := n1_; have HB := n2_; clear n0_ n1_ n2_; clear hb ho25) | ((with_reducible refine gate_builtin (b := .append) (xs := #[.tmp 36, .tmp 37]) rfl ?_); at_builtin; refine Kd.R_append_rows (Kd.int .u8) (w0 := w) w.heap.size rfl (.tmp 36) (.tmp 37) 23 5 (.int .u8 0) 1 rfl Tryd.underlying23 info5 rfl (by decide) (by omega) v120 y119 x5_3 _ _ _ (fun k_ => some k_ ≠ (.slice Ao23 x5_3.length co23 : Value).ownBlock) (fun _ => False) rfl rfl ?aO ?aR (fun _ _ h => h) (fun _ h => h.elim) ?aF ?aB ?aS ?aL ?_; (case aR => repeat (first | exact (Kd.R_reads' HO_5.out).2.2 | (with_reducible refine Kd.C_alloc ?_ _) | (with_reducible refine Kd.C_drewN ?_ _) | (with_reducible refine Kd.C_drew ?_))); (case aB => exact (by repeat (first | (with_reducible first | exact HB.out | apply below_alloc | apply pw_below_drewN | apply below_drew1) | exact HB.out))); (case aF => exact (fun k_ hk => Kd.fresh' (Kd.R_lt (by (with_reducible repeat (first | apply Kd.R_alloc | apply Kd.R_drewN | apply Kd.R_drew)); exact HO_5.out)) k_ hk)); (case aO => exact (by (with_reducible repeat (first | apply Kd.R_alloc | apply Kd.R_drewN | apply Kd.R_drew)); exact Kd.R_mono HO121.out (fun _ hk => hk.2))); (case aS => exact (below_size (by repeat (first | (with_reducible first | exact HB.out | apply below_alloc | apply pw_below_drewN | apply below_drew1) | exact HB.out)))); (case aL => have := LMc22.out; omega); intro v123 w26 ho hb hg hat; rw [← Ny122.out] at ho; have n0_ := Aside0.mk (Kd.R_after (ok := (fun _ => True)) (by (with_reducible repeat (first | apply Kd.R_alloc | apply Kd.R_drewN | apply Kd.R_drew)); exact HO_5.out) hg hat); have n1_ := Aside0.mk (hb); have n2_ := Aside0.mk (ho); clear HO_5; clear HB; clear HO121; have HO_5 := n0_; have HB := n1_; have HO124 := n2_; clear n0_ n1_ n2_; clear ho hb hg hat))
                      go_ret
                      exact ⟨_, by first | rfl | (simp [errW_none, errW_some] <;> rfl) | (simp [*, errW_none, errW_some] <;> rfl), by (with_reducible repeat (first | apply Kd.R_alloc | apply Kd.R_drewN | apply Kd.R_drew)); exact Kd.R_mono HO124.out (fun _ hk => trivial), by repeat (first | (with_reducible first | exact HB.out | apply below_alloc | apply pw_below_drewN | apply below_drew1) | exact HB.out)⟩
                    · rw [if_neg c22] at H
                      exact absurd H (by simp)

/-! ### spec_Sealed: function 8 -/
def spec_Sealed.f (k : Nat) (a0 : Int) (l1 : List Int) (a2 : Int) : Option (List Int) := (some (([(a0) % 256] : List Int) : List Int)).bind fun y125 => ((spec_Length.f k (l1.length : Int) a2).bind fun t128 => (if y125.length + t128.length < 140737488355328 then ((some (y125 ++ t128 : List Int)).bind fun y131 => (if y131.length + l1.length < 140737488355328 then (some (y131 ++ l1)) else (none))) else (none)))
theorem spec_Sealed.mono : ∀ a0 a1 a2 k, LeO (spec_Sealed.f k a0 a1 a2) (spec_Sealed.f (k + 1) a0 a1 a2) := by
  intro a0 a1 a2 k
  unfold spec_Sealed.f
  repeat' first
      | (with_reducible exact spec_Length.mono _ _ _)
      | (with_reducible exact LeO.refl _)
      | (with_reducible exact LeO.none _)
      | (with_reducible refine LeO.ite ?_ ?_)
      | (with_reducible refine LeO.bind ?_ (fun _ => ?_))
      | exact spec_Length.mono _ _ _
      | exact LeO.none _
      | refine LeO.ite ?_ ?_
      | refine LeO.bind ?_ (fun _ => ?_)
set_option maxHeartbeats 8000000 in
set_option maxRecDepth 100000 in
theorem spec_Sealed.calls (k : Nat) (a0 : Int) (A1 : Option Addr) (c1 : Nat) (l1 : List Int) (a2 : Int) (r : List Int) (w : World) (hr1 : Kd.C (Kd.int .u8) w A1 l1.length l1) (hc1 : l1.length ≤ c1) (h : spec_Sealed.f k a0 l1 a2 = some r) :
    Calls Tryd.prog 8 #[.int .i64 a0, .slice A1 l1.length c1, .int .i64 a2] w fun e w' => ∃ v0_ : Value, e = .returned (v0_) ∧ Kd.R (Kd.int .u8) 5 w' w.heap.size (fun _ => True) v0_ r ∧ Below w.heap.size w w' := by
  have HR1 := Aside0.mk hr1
  have HC1 := Aside0.mk hc1
  clear hr1 hc1
  have HB := Aside0.mk (Below.refl w.heap.size w)
  have H : ((some (([(a0) % 256] : List Int) : List Int)).bind fun y125 => ((spec_Length.f k (l1.length : Int) a2).bind fun t128 => (if y125.length + t128.length < 140737488355328 then ((some (y125 ++ t128 : List Int)).bind fun y131 => (if y131.length + l1.length < 140737488355328 then (some (y131 ++ l1)) else (none))) else (none)))) = some r := h
  clear h
  obtain ⟨y125, hy125⟩ : ∃ y_ : List Int, y_ = (([(a0) % 256] : List Int)) := ⟨_, rfl⟩
  replace H : ((spec_Length.f k (l1.length : Int) a2).bind fun t128 => (if y125.length + t128.length < 140737488355328 then ((some (y125 ++ t128 : List Int)).bind fun y131 => (if y131.length + l1.length < 140737488355328 then (some (y131 ++ l1)) else (none))) else (none))) = some r := by first | (rw [hy125]; with_reducible exact H) | (have H2_ := (Option.bind_some _ _).symm.trans H; rw [hy125]; with_reducible exact H2_) | (have H2_ := (Option.bind_some _ _).symm.trans H; with_reducible exact H2_) | with_reducible exact H | (rw [hy125]; exact H) | exact H
  have Ny125 := Aside0.mk hy125
  clear hy125
  replace H := Option.bind_eq_some_iff.mp H
  obtain ⟨t128, A40, H⟩ := H
  replace H : (if y125.length + t128.length < 140737488355328 then ((some (y125 ++ t128 : List Int)).bind fun y131 => (if y131.length + l1.length < 140737488355328 then (some (y131 ++ l1)) else (none))) else (none)) = some r := H
  have A4 := Aside0.mk A40
  clear A40
  by_cases c5 : y125.length + t128.length < 140737488355328
  · rw [if_pos c5] at H
    have LMc5 := Aside0.mk c5
    clear c5
    obtain ⟨y131, hy131⟩ : ∃ y_ : List Int, y_ = (y125 ++ t128) := ⟨_, rfl⟩
    replace H : (if y131.length + l1.length < 140737488355328 then (some (y131 ++ l1)) else (none)) = some r := by first | (rw [hy131]; with_reducible exact H) | (have H2_ := (Option.bind_some _ _).symm.trans H; rw [hy131]; with_reducible exact H2_) | (have H2_ := (Option.bind_some _ _).symm.trans H; with_reducible exact H2_) | with_reducible exact H | (rw [hy131]; exact H) | exact H
    have Ny131 := Aside0.mk hy131
    clear hy131
    by_cases c6 : y131.length + l1.length < 140737488355328
    · rw [if_pos c6] at H
      have LMc6 := Aside0.mk c6
      clear c6
      obtain ⟨y134, hy134⟩ : ∃ y_ : List Int, y_ = (y131 ++ l1) := ⟨_, rfl⟩
      replace H : (some y134) = some r := by first | (rw [hy134]; with_reducible exact H) | (have H2_ := (Option.bind_some _ _).symm.trans H; rw [hy134]; with_reducible exact H2_) | (have H2_ := (Option.bind_some _ _).symm.trans H; with_reducible exact H2_) | with_reducible exact H | (rw [hy134]; exact H) | exact H
      have Ny134 := Aside0.mk hy134
      clear hy134
      obtain rfl := Option.some.inj H
      go_enter Tryd.func8, Tryd.ntmps8
      go_wp2_with (first | ((with_reducible refine gate_dst (N := 9) rfl ?_); refine Kd.R_lit (Kd.int .u8) _ 5 ?hg (N := 9) ?hd (xs := ([(a0) % 256] : List Int)) (inner := [.int .u8 ((a0) % 256)]) (ok := fun _ => True) (okp := fun _ => True) ?hr ?hp (fun _ hk => hk) trivial (Below.refl _ _) (Nat.le_refl _) (by simp) ?_; (case hd => rfl); (case hg => rfl); (case hr => first | (go_simp; done) | (go_simp; rfl)); (case hp => exact (Reps.one (show Kd.M (Kd.int .u8) _ _ _ ((a0) % 256) [.int .u8 ((a0) % 256)] from rfl) (Reps.none _ _))); intro v126 w7 ho8 hb hg_ hnew_; clear hg_ hnew_; (first | rw [← Ny125.out] at ho8 | (simp only [Int.reduceToNat] at ho8; rw [← Ny125.out] at ho8)); have n0_ := Aside0.mk (Kd.R_lower ho8 (below_size (by repeat (first | (with_reducible first | exact HB.out | apply below_alloc | apply pw_below_drewN | apply below_drew1) | exact HB.out)))); have n1_ := Aside0.mk (below_step (by repeat (first | (with_reducible first | exact HB.out | apply below_alloc | apply pw_below_drewN | apply below_drew1) | exact HB.out)) hb); clear HB; have HO127 := n0_; have HB := n1_; clear n0_ n1_; clear hb ho8) | ((with_reducible refine gate_callee (f := 20) rfl ?_); refine goesL_ (some 13) rfl rfl Tryd.func20 (by kernel_rfl) rfl #[.int .i64 (l1.length : Int), .int .i64 a2] rfl (by (try simp only [List.map_toArray, List.map_cons, List.map_nil]); first | done | rfl | (simp only [List.length_drop, List.length_take]; rfl)) ?_; (with_reducible refine (spec_Length.calls k (l1.length : Int) a2 t128 _ A4.out).mono ?_); rintro e w9 ⟨v129, rfl, ho0, hb⟩; refine ⟨_, rfl, ?_⟩; have n0_ := Aside0.mk (Kd.R_elder' (by (with_reducible repeat (first | apply Kd.R_alloc | apply Kd.R_drewN | apply Kd.R_drew)); exact HO127.out) (Kd.R_base ho0) hb); have n1_ := Aside0.mk (Kd.R_lower (Kd.R_new' ho0 (Kd.R_lt (by (with_reducible repeat (first | apply Kd.R_alloc | apply Kd.R_drewN | apply Kd.R_drew)); exact HO127.out))) (below_size (by repeat (first | (with_reducible first | exact HB.out | apply below_alloc | apply pw_below_drewN | apply below_drew1) | exact HB.out)))); have n2_ := Aside0.mk (below_step (by repeat (first | (with_reducible first | exact HB.out | apply below_alloc | apply pw_below_drewN | apply below_drew1) | exact HB.out)) hb); clear HO127; clear HB; have HO127 := n0_; have HO130 := n1_; have HB := n2_; clear n0_ n1_ n2_; (try clear hb); (try clear hb2); (try clear hk); (try clear hi); (try clear ho0); obtain ⟨Ao11, co11, eo11⟩ := Kd.R_slice HO130.out; subst eo11) | ((with_reducible refine gate_builtin (b := .append) (xs := #[.tmp 9, .tmp 13]) rfl ?_); at_builtin; refine Kd.R_append_rows (Kd.int .u8) (w0 := w) w.heap.size rfl (.tmp 9) (.tmp 13) 23 5 (.int .u8 0) 1 rfl Tryd.underlying23 info5 rfl (by decide) (by omega) v126 y125 t128 _ _ _ (fun k_ => some k_ ≠ (.slice Ao11 t128.length co11 : Value).ownBlock) (fun _ => False) rfl rfl ?aO ?aR (fun _ _ h => h) (fun _ h => h.elim) ?aF ?aB ?aS ?aL ?_; (case aR => repeat (first | exact (Kd.R_reads' HO130.out).2.2 | (with_reducible refine Kd.C_alloc ?_ _) | (with_reducible refine Kd.C_drewN ?_ _) | (with_reducible refine Kd.C_drew ?_))); (case aB => exact (by repeat (first | (with_reducible first | exact HB.out | apply below_alloc | apply pw_below_drewN | apply below_drew1) | exact HB.out))); (case aF => exact (fun k_ hk => Kd.fresh' (Kd.R_lt (by (with_reducible repeat (first | apply Kd.R_alloc | apply Kd.R_drewN | apply Kd.R_drew)); exact HO130.out)) k_ hk)); (case aO => exact (by (with_reducible repeat (first | apply Kd.R_alloc | apply Kd.R_drewN | apply Kd.R_drew)); exact Kd.R_mono HO127.out (fun _ hk => hk.2))); (case aS => exact (below_size (by repeat (first | (with_reducible first | exact HB.out | apply below_alloc | apply pw_below_drewN | apply below_drew1) | exact HB.out)))); (case aL => have := LMc5.out; omega); intro v132 w10 ho hb hg hat; rw [← Ny131.out] at ho; have n0_ := Aside0.mk (Kd.R_after (ok := (fun _ => True)) (by (with_reducible repeat (first | apply Kd.R_alloc | apply Kd.R_drewN | apply Kd.R_drew)); exact HO130.out) hg hat); have n1_ := Aside0.mk (hb); have n2_ := Aside0.mk (ho); clear HO130; clear HB; clear HO127; have HO130 := n0_; have HB := n1_; have HO133 := n2_; clear n0_ n1_ n2_; clear ho hb hg hat) | ((with_reducible refine gate_builtin (b := .append) (xs := #[.tmp 14, .tmp 15]) rfl ?_); at_builtin; refine Kd.R_append_rows (Kd.int .u8) (w0 := w) w.heap.size rfl (.tmp 14) (.tmp 15) 23 5 (.int .u8 0) 1 rfl Tryd.underlying23 info5 rfl (by decide) (by omega) v132 y131 l1 _ _ _ (fun k_ => some k_ ≠ (.slice Ao11 t128.length co11 : Value).ownBlock) (fun _ => False) rfl rfl ?aO ?aR (fun _ _ h => h) (fun _ h => h.elim) ?aF ?aB ?aS ?aL ?_; (case aR => repeat (first | exact (Kd.C_below HR1.out HB.out) | (with_reducible refine Kd.C_alloc ?_ _) | (with_reducible refine Kd.C_drewN ?_ _) | (with_reducible refine Kd.C_drew ?_))); (case aB => exact (by repeat (first | (with_reducible first | exact HB.out | apply below_alloc | apply pw_below_drewN | apply below_drew1) | exact HB.out))); (case aF => exact (fun k_ hk => Kd.fresh' (Kd.R_lt (by (with_reducible repeat (first | apply Kd.R_alloc | apply Kd.R_drewN | apply Kd.R_drew)); exact HO130.out)) k_ hk)); (case aO => exact (by (with_reducible repeat (first | apply Kd.R_alloc | apply Kd.R_drewN | apply Kd.R_drew)); exact HO133.out)); (case aS => exact (below_size (by repeat (first | (with_reducible first | exact HB.out | apply below_alloc | apply pw_below_drewN | apply below_drew1) | exact HB.out)))); (case aL => have := LMc6.out; omega); intro v135 w12 ho hb hg hat; rw [← Ny134.out] at ho; have n0_ := Aside0.mk (Kd.R_after (ok := (fun _ => True)) (by (with_reducible repeat (first | apply Kd.R_alloc | apply Kd.R_drewN | apply Kd.R_drew)); exact HO130.out) hg hat); have n1_ := Aside0.mk (hb); have n2_ := Aside0.mk (ho); clear HO130; clear HB; clear HO133; have HO130 := n0_; have HB := n1_; have HO136 := n2_; clear n0_ n1_ n2_; clear ho hb hg hat))
      go_ret
      exact ⟨_, by first | rfl | (simp [errW_none, errW_some] <;> rfl) | (simp [*, errW_none, errW_some] <;> rfl), by (with_reducible repeat (first | apply Kd.R_alloc | apply Kd.R_drewN | apply Kd.R_drew)); exact Kd.R_mono HO136.out (fun _ hk => trivial), by repeat (first | (with_reducible first | exact HB.out | apply below_alloc | apply pw_below_drewN | apply below_drew1) | exact HB.out)⟩
    · rw [if_neg c6] at H
      exact absurd H (by simp)
  · rw [if_neg c5] at H
    exact absurd H (by simp)

-- NOT PRINTED: function 33 (errors_New)

-- NOT PRINTED: function 27 (snmp_parseLength)

-- NOT PRINTED: function 21 (snmp_ZZReadLength)

-- NOT PRINTED: function 9 (impl_ReadLength)

-- NOT PRINTED: function 3 (laws_FnReadLength)

end Go.Proofs.YtacbdhklfgapkaaDoor.PFnReadLength
