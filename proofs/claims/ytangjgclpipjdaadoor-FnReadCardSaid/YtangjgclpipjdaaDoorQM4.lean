/- The lemmas and walks that FnDecode and FnCut and FnRead rests on, part 4: PFnValuex3. -/
import Derived.Test.YtangjgclpipjdaaDoorQM3
namespace Go.Proofs.YtangjgclpipjdaaDoor.PFnValue
open Go.RowKit Go.Proofs.YtangjgclpipjdaaDoorW.PrintWords Go.Proofs.YtangjgclpipjdaaDoorW.PrintLast Go.Proofs.YtangjgclpipjdaaDoorW.PrintMore
attribute [local go_sem] max2_int min2_int max_two min_two max_three min_three max_four min_four   -- for this text's walks alone
set_option linter.unusedVariables false
set_option linter.unusedSimpArgs false
def spec_Int.l0 : Nat → Int → List Int → Option (List Int)
  | 0, _, _ => none
  | k + 1, x0, x3 => if x0 < (-128) then ((some (([(x0 / 256) % 256] : List Int) : List Int)).bind fun y135 => (if y135.length + x3.length < 140737488355328 then (spec_Int.l0 k (x0 / 256) (y135 ++ x3)) else (none))) else (if x0 > 127 then ((some (([(x0 / 256) % 256] : List Int) : List Int)).bind fun y141 => (if y141.length + x3.length < 140737488355328 then (spec_Int.l0 k (x0 / 256) (y141 ++ x3)) else (none))) else (some x3))
def spec_Int.f (k : Nat) (a0 : Int) : Option (List Int) := spec_Int.l0 k a0 (([(a0) % 256] : List Int))
theorem spec_Int.mono_l : ∀ k, (∀ y0 y1, LeO (spec_Int.l0 k y0 y1) (spec_Int.l0 (k + 1) y0 y1))
  | 0 => fun _ _ r h => by simp [spec_Int.l0] at h
  | k + 1 => by
    have ih0 := spec_Int.mono_l k
    · intro y0 y1
      unfold spec_Int.l0
      repeat' first
      | (with_reducible exact ih0 _ _)
      | (with_reducible exact LeO.refl _)
      | (with_reducible exact LeO.none _)
      | (with_reducible refine LeO.ite ?_ ?_)
      | (with_reducible refine LeO.bind ?_ (fun _ => ?_))
      | exact ih0 _ _
      | exact LeO.none _
      | refine LeO.ite ?_ ?_
      | refine LeO.bind ?_ (fun _ => ?_)
theorem spec_Int.mono : ∀ a0 k, LeO (spec_Int.f k a0) (spec_Int.f (k + 1) a0) := by
  intro a0 k
  have ih0 := spec_Int.mono_l k
  unfold spec_Int.f
  repeat' first
      | (with_reducible exact ih0 _ _)
      | (with_reducible exact LeO.refl _)
      | (with_reducible exact LeO.none _)
      | (with_reducible refine LeO.ite ?_ ?_)
      | (with_reducible refine LeO.bind ?_ (fun _ => ?_))
      | exact ih0 _ _
      | exact LeO.none _
      | refine LeO.ite ?_ ?_
      | refine LeO.bind ?_ (fun _ => ?_)
set_option maxHeartbeats 8000000 in
set_option maxRecDepth 100000 in
theorem spec_Int.calls (k : Nat) (a0 : Int) (r : List Int) (w : World) (h : spec_Int.f k a0 = some r) :
    Calls Tryd.prog 42 #[.int .i64 a0] w fun e w' => ∃ v0_ : Value, e = .returned (v0_) ∧ Kd.R (Kd.int .u8) 5 w' w.heap.size (fun _ => True) v0_ r ∧ Below w.heap.size w w' := by
  have HB := Aside0.mk (Below.refl w.heap.size w)
  have H : (spec_Int.l0 k a0 (([(a0) % 256] : List Int))) = some r := h
  clear h
  obtain ⟨y132, hy132⟩ : ∃ y_ : List Int, y_ = (([(a0) % 256] : List Int)) := ⟨_, rfl⟩
  replace H : (spec_Int.l0 k a0 y132) = some r := by first | (rw [hy132]; with_reducible exact H) | (have H2_ := (Option.bind_some _ _).symm.trans H; rw [hy132]; with_reducible exact H2_) | (have H2_ := (Option.bind_some _ _).symm.trans H; with_reducible exact H2_) | with_reducible exact H | (rw [hy132]; exact H) | exact H
  have Ny132 := Aside0.mk hy132
  clear hy132
  have H' := Aside0.mk H
  clear H
  go_enter Tryd.func42, Tryd.ntmps42
  go_wp2_with (first | ((with_reducible refine gate_dst (N := 6) rfl ?_); refine Kd.R_lit (Kd.int .u8) _ 5 ?hg (N := 6) ?hd (xs := ([(a0) % 256] : List Int)) (inner := [.int .u8 ((a0) % 256)]) (ok := fun _ => True) (okp := fun _ => True) ?hr ?hp (fun _ hk => hk) trivial (Below.refl _ _) (Nat.le_refl _) (by simp) ?_; (case hd => rfl); (case hg => rfl); (case hr => first | (go_simp; done) | (go_simp; rfl)); (case hp => exact (Reps.one (show Kd.M (Kd.int .u8) _ _ _ ((a0) % 256) [.int .u8 ((a0) % 256)] from rfl) (Reps.none _ _))); intro v133 w2 ho3 hb hg_ hnew_; clear hg_ hnew_; (first | rw [← Ny132.out] at ho3 | (simp only [Int.reduceToNat] at ho3; rw [← Ny132.out] at ho3)); have n0_ := Aside0.mk (Kd.R_lower ho3 (below_size (by repeat (first | (with_reducible first | exact HB.out | apply below_alloc | apply pw_below_drewN | apply below_drew1) | exact HB.out)))); have n1_ := Aside0.mk (below_step (by repeat (first | (with_reducible first | exact HB.out | apply below_alloc | apply pw_below_drewN | apply below_drew1) | exact HB.out)) hb); clear HB; have HO134 := n0_; have HB := n1_; clear n0_ n1_; clear hb ho3))
  go_loopg [0, 3] k (fun kq v0 v3 w' => ∃ (x0_1 : Int) (x3_1 : List Int), v0 = .int .i64 x0_1 ∧ Aside0 (spec_Int.l0 kq x0_1 x3_1 = some r) ∧ Aside0 (kq ≤ k) ∧ Aside0 (Kd.R (Kd.int .u8) 5 w' w.heap.size (fun _ => True) v3 x3_1) ∧ Aside0 (Below w.heap.size w w'))
  case atStart => exact ⟨(a0), (y132), (by first | rfl | (simp; done) | (simp [*]; done)), H', ⟨Nat.le_refl _⟩, ⟨by (with_reducible repeat (first | apply Kd.R_alloc | apply Kd.R_drewN | apply Kd.R_drew)); exact HO134.out⟩, ⟨by repeat (first | (with_reducible first | exact HB.out | apply below_alloc | apply pw_below_drewN | apply below_drew1) | exact HB.out)⟩⟩
  case round =>
    clear H'
    try clear p2
    obtain ⟨x0_1, x3_1, rfl, HA, HK1, HO_3, HB⟩ := hrel
    cases gk with
    | zero => exact absurd HA.out (by simp [spec_Int.l0])
    | succ k1 =>
      have H := HA.out
      clear HA
      simp only [spec_Int.l0] at H
      by_cases c4 : x0_1 < (-128)
      · rw [if_pos c4] at H
        have c4b0 : decide (x0_1 < (-128)) = true := decide_eq_true c4
        clear c4
        obtain ⟨y135, hy135⟩ : ∃ y_ : List Int, y_ = (([(x0_1 / 256) % 256] : List Int)) := ⟨_, rfl⟩
        replace H : (if y135.length + x3_1.length < 140737488355328 then (spec_Int.l0 k1 (x0_1 / 256) (y135 ++ x3_1)) else (none)) = some r := by first | (rw [hy135]; with_reducible exact H) | (have H2_ := (Option.bind_some _ _).symm.trans H; rw [hy135]; with_reducible exact H2_) | (have H2_ := (Option.bind_some _ _).symm.trans H; with_reducible exact H2_) | with_reducible exact H | (rw [hy135]; exact H) | exact H
        have Ny135 := Aside0.mk hy135
        clear hy135
        by_cases c5 : y135.length + x3_1.length < 140737488355328
        · rw [if_pos c5] at H
          have LMc5 := Aside0.mk c5
          clear c5
          obtain ⟨y138, hy138⟩ : ∃ y_ : List Int, y_ = (y135 ++ x3_1) := ⟨_, rfl⟩
          replace H : (spec_Int.l0 k1 (x0_1 / 256) y138) = some r := by first | (rw [hy138]; with_reducible exact H) | (have H2_ := (Option.bind_some _ _).symm.trans H; rw [hy138]; with_reducible exact H2_) | (have H2_ := (Option.bind_some _ _).symm.trans H; with_reducible exact H2_) | with_reducible exact H | (rw [hy138]; exact H) | exact H
          have Ny138 := Aside0.mk hy138
          clear hy138
          have H' := Aside0.mk H
          clear H
          go_wp2_with (first | ((with_reducible refine gate_dst (N := 17) rfl ?_); refine Kd.R_lit (Kd.int .u8) _ 5 ?hg (N := 17) ?hd (xs := ([(x0_1 / 256) % 256] : List Int)) (inner := [.int .u8 ((x0_1 / 256) % 256)]) (ok := fun _ => True) (okp := fun _ => True) ?hr ?hp (fun _ hk => hk) trivial (Below.refl _ _) (Nat.le_refl _) (by simp) ?_; (case hd => rfl); (case hg => rfl); (case hr => first | (go_simp; done) | (go_simp; rfl)); (case hp => exact (Reps.one (show Kd.M (Kd.int .u8) _ _ _ ((x0_1 / 256) % 256) [.int .u8 ((x0_1 / 256) % 256)] from rfl) (Reps.none _ _))); intro v136 w6 ho7 hb hg_ hnew_; clear hg_ hnew_; (first | rw [← Ny135.out] at ho7 | (simp only [Int.reduceToNat] at ho7; rw [← Ny135.out] at ho7)); have n0_ := Aside0.mk (Kd.R_elder' (by (with_reducible repeat (first | apply Kd.R_alloc | apply Kd.R_drewN | apply Kd.R_drew)); exact HO_3.out) (Kd.R_base ho7) hb); have n1_ := Aside0.mk (Kd.R_lower (Kd.R_new' ho7 (Kd.R_lt (by (with_reducible repeat (first | apply Kd.R_alloc | apply Kd.R_drewN | apply Kd.R_drew)); exact HO_3.out))) (below_size (by repeat (first | (with_reducible first | exact HB.out | apply below_alloc | apply pw_below_drewN | apply below_drew1) | exact HB.out)))); have n2_ := Aside0.mk (below_step (by repeat (first | (with_reducible first | exact HB.out | apply below_alloc | apply pw_below_drewN | apply below_drew1) | exact HB.out)) hb); clear HO_3; clear HB; have HO_3 := n0_; have HO137 := n1_; have HB := n2_; clear n0_ n1_ n2_; clear hb ho7; obtain ⟨Ao9, co9, eo9⟩ := Kd.R_slice HO_3.out; subst eo9) | ((with_reducible refine gate_builtin (b := .append) (xs := #[.tmp 17, .tmp 18]) rfl ?_); at_builtin; refine Kd.R_append_rows (Kd.int .u8) (w0 := w) w.heap.size rfl (.tmp 17) (.tmp 18) 26 5 (.int .u8 0) 1 rfl Tryd.underlying26 info5 rfl (by decide) (by omega) v136 y135 x3_1 _ _ _ (fun k_ => some k_ ≠ (.slice Ao9 x3_1.length co9 : Value).ownBlock) (fun _ => False) rfl rfl ?aO ?aR (fun _ _ h => h) (fun _ h => h.elim) ?aF ?aB ?aS ?aL ?_; (case aR => repeat (first | exact (Kd.R_reads' HO_3.out).2.2 | (with_reducible refine Kd.C_alloc ?_ _) | (with_reducible refine Kd.C_drewN ?_ _) | (with_reducible refine Kd.C_drew ?_))); (case aB => exact (by repeat (first | (with_reducible first | exact HB.out | apply below_alloc | apply pw_below_drewN | apply below_drew1) | exact HB.out))); (case aF => exact (fun k_ hk => Kd.fresh' (Kd.R_lt (by (with_reducible repeat (first | apply Kd.R_alloc | apply Kd.R_drewN | apply Kd.R_drew)); exact HO_3.out)) k_ hk)); (case aO => exact (by (with_reducible repeat (first | apply Kd.R_alloc | apply Kd.R_drewN | apply Kd.R_drew)); exact Kd.R_mono HO137.out (fun _ hk => hk.2))); (case aS => exact (below_size (by repeat (first | (with_reducible first | exact HB.out | apply below_alloc | apply pw_below_drewN | apply below_drew1) | exact HB.out)))); (case aL => have := LMc5.out; omega); intro v139 w8 ho hb hg hat; rw [← Ny138.out] at ho; have n0_ := Aside0.mk (Kd.R_after (ok := (fun _ => True)) (by (with_reducible repeat (first | apply Kd.R_alloc | apply Kd.R_drewN | apply Kd.R_drew)); exact HO_3.out) hg hat); have n1_ := Aside0.mk (hb); have n2_ := Aside0.mk (ho); clear HO_3; clear HB; clear HO137; have HO_3 := n0_; have HB := n1_; have HO140 := n2_; clear n0_ n1_ n2_; clear ho hb hg hat))
          go_roundg k1
          case measure => have := HK1.out; omega
          case rel => exact ⟨(x0_1 / 256), (y138), (by first | rfl | (simp; done) | (simp [*]; done)), H', ⟨by have := HK1.out; omega⟩, ⟨by (with_reducible repeat (first | apply Kd.R_alloc | apply Kd.R_drewN | apply Kd.R_drew)); exact Kd.R_mono HO140.out (fun _ hk => trivial)⟩, ⟨by repeat (first | (with_reducible first | exact HB.out | apply below_alloc | apply pw_below_drewN | apply below_drew1) | exact HB.out)⟩⟩
        · rw [if_neg c5] at H
          exact absurd H (by simp)
      · rw [if_neg c4] at H
        have c4b0 : decide (x0_1 < (-128)) = false := decide_eq_false c4
        clear c4
        by_cases c10 : x0_1 > 127
        · rw [if_pos c10] at H
          have c10b0 : decide (127 < x0_1) = true := decide_eq_true c10
          clear c10
          obtain ⟨y141, hy141⟩ : ∃ y_ : List Int, y_ = (([(x0_1 / 256) % 256] : List Int)) := ⟨_, rfl⟩
          replace H : (if y141.length + x3_1.length < 140737488355328 then (spec_Int.l0 k1 (x0_1 / 256) (y141 ++ x3_1)) else (none)) = some r := by first | (rw [hy141]; with_reducible exact H) | (have H2_ := (Option.bind_some _ _).symm.trans H; rw [hy141]; with_reducible exact H2_) | (have H2_ := (Option.bind_some _ _).symm.trans H; with_reducible exact H2_) | with_reducible exact H | (rw [hy141]; exact H) | exact H
          have Ny141 := Aside0.mk hy141
          clear hy141
          by_cases c11 : y141.length + x3_1.length < 140737488355328
          · rw [if_pos c11] at H
            have LMc11 := Aside0.mk c11
            clear c11
            obtain ⟨y144, hy144⟩ : ∃ y_ : List Int, y_ = (y141 ++ x3_1) := ⟨_, rfl⟩
            replace H : (spec_Int.l0 k1 (x0_1 / 256) y144) = some r := by first | (rw [hy144]; with_reducible exact H) | (have H2_ := (Option.bind_some _ _).symm.trans H; rw [hy144]; with_reducible exact H2_) | (have H2_ := (Option.bind_some _ _).symm.trans H; with_reducible exact H2_) | with_reducible exact H | (rw [hy144]; exact H) | exact H
            have Ny144 := Aside0.mk hy144
            clear hy144
            have H' := Aside0.mk H
            clear H
            go_wp2_with (first | ((with_reducible refine gate_dst (N := 17) rfl ?_); refine Kd.R_lit (Kd.int .u8) _ 5 ?hg (N := 17) ?hd (xs := ([(x0_1 / 256) % 256] : List Int)) (inner := [.int .u8 ((x0_1 / 256) % 256)]) (ok := fun _ => True) (okp := fun _ => True) ?hr ?hp (fun _ hk => hk) trivial (Below.refl _ _) (Nat.le_refl _) (by simp) ?_; (case hd => rfl); (case hg => rfl); (case hr => first | (go_simp; done) | (go_simp; rfl)); (case hp => exact (Reps.one (show Kd.M (Kd.int .u8) _ _ _ ((x0_1 / 256) % 256) [.int .u8 ((x0_1 / 256) % 256)] from rfl) (Reps.none _ _))); intro v142 w12 ho13 hb hg_ hnew_; clear hg_ hnew_; (first | rw [← Ny141.out] at ho13 | (simp only [Int.reduceToNat] at ho13; rw [← Ny141.out] at ho13)); have n0_ := Aside0.mk (Kd.R_elder' (by (with_reducible repeat (first | apply Kd.R_alloc | apply Kd.R_drewN | apply Kd.R_drew)); exact HO_3.out) (Kd.R_base ho13) hb); have n1_ := Aside0.mk (Kd.R_lower (Kd.R_new' ho13 (Kd.R_lt (by (with_reducible repeat (first | apply Kd.R_alloc | apply Kd.R_drewN | apply Kd.R_drew)); exact HO_3.out))) (below_size (by repeat (first | (with_reducible first | exact HB.out | apply below_alloc | apply pw_below_drewN | apply below_drew1) | exact HB.out)))); have n2_ := Aside0.mk (below_step (by repeat (first | (with_reducible first | exact HB.out | apply below_alloc | apply pw_below_drewN | apply below_drew1) | exact HB.out)) hb); clear HO_3; clear HB; have HO_3 := n0_; have HO143 := n1_; have HB := n2_; clear n0_ n1_ n2_; clear hb ho13; obtain ⟨Ao15, co15, eo15⟩ := Kd.R_slice HO_3.out; subst eo15) | ((with_reducible refine gate_builtin (b := .append) (xs := #[.tmp 17, .tmp 18]) rfl ?_); at_builtin; refine Kd.R_append_rows (Kd.int .u8) (w0 := w) w.heap.size rfl (.tmp 17) (.tmp 18) 26 5 (.int .u8 0) 1 rfl Tryd.underlying26 info5 rfl (by decide) (by omega) v142 y141 x3_1 _ _ _ (fun k_ => some k_ ≠ (.slice Ao15 x3_1.length co15 : Value).ownBlock) (fun _ => False) rfl rfl ?aO ?aR (fun _ _ h => h) (fun _ h => h.elim) ?aF ?aB ?aS ?aL ?_; (case aR => repeat (first | exact (Kd.R_reads' HO_3.out).2.2 | (with_reducible refine Kd.C_alloc ?_ _) | (with_reducible refine Kd.C_drewN ?_ _) | (with_reducible refine Kd.C_drew ?_))); (case aB => exact (by repeat (first | (with_reducible first | exact HB.out | apply below_alloc | apply pw_below_drewN | apply below_drew1) | exact HB.out))); (case aF => exact (fun k_ hk => Kd.fresh' (Kd.R_lt (by (with_reducible repeat (first | apply Kd.R_alloc | apply Kd.R_drewN | apply Kd.R_drew)); exact HO_3.out)) k_ hk)); (case aO => exact (by (with_reducible repeat (first | apply Kd.R_alloc | apply Kd.R_drewN | apply Kd.R_drew)); exact Kd.R_mono HO143.out (fun _ hk => hk.2))); (case aS => exact (below_size (by repeat (first | (with_reducible first | exact HB.out | apply below_alloc | apply pw_below_drewN | apply below_drew1) | exact HB.out)))); (case aL => have := LMc11.out; omega); intro v145 w14 ho hb hg hat; rw [← Ny144.out] at ho; have n0_ := Aside0.mk (Kd.R_after (ok := (fun _ => True)) (by (with_reducible repeat (first | apply Kd.R_alloc | apply Kd.R_drewN | apply Kd.R_drew)); exact HO_3.out) hg hat); have n1_ := Aside0.mk (hb); have n2_ := Aside0.mk (ho); clear HO_3; clear HB; clear HO143; have HO_3 := n0_; have HB := n1_; have HO146 := n2_; clear n0_ n1_ n2_; clear ho hb hg hat))
            go_roundg k1
            case measure => have := HK1.out; omega
            case rel => exact ⟨(x0_1 / 256), (y144), (by first | rfl | (simp; done) | (simp [*]; done)), H', ⟨by have := HK1.out; omega⟩, ⟨by (with_reducible repeat (first | apply Kd.R_alloc | apply Kd.R_drewN | apply Kd.R_drew)); exact Kd.R_mono HO146.out (fun _ hk => trivial)⟩, ⟨by repeat (first | (with_reducible first | exact HB.out | apply below_alloc | apply pw_below_drewN | apply below_drew1) | exact HB.out)⟩⟩
          · rw [if_neg c11] at H
            exact absurd H (by simp)
        · rw [if_neg c10] at H
          have c10b0 : decide (127 < x0_1) = false := decide_eq_false c10
          clear c10
          obtain rfl := Option.some.inj H
          go_wp2
          go_ret
          exact ⟨_, by first | rfl | (simp [errW_none, errW_some] <;> rfl) | (simp [*, errW_none, errW_some] <;> rfl), by (with_reducible repeat (first | apply Kd.R_alloc | apply Kd.R_drewN | apply Kd.R_drew)); exact HO_3.out, by repeat (first | (with_reducible first | exact HB.out | apply below_alloc | apply pw_below_drewN | apply below_drew1) | exact HB.out)⟩
mutual
def spec_address.l0 : Nat → ByteArray → List Int → Int → Bool → Int → Option (List Int × Bool)
  | 0, _, _, _, _, _ => none
  | k + 1, x0, x4, x5, x6, x7 => if x7 ≤ (x0.size : Int) then (if x7 = (x0.size : Int) then (spec_address.j1 k x0 x4 x5 x6 x7 true) else (if 0 ≤ x7 then (if x7 < (x0.size : Int) then (spec_address.j1 k x0 x4 x5 x6 x7 ((bt x0 x7) == 46)) else (none)) else (none))) else (some (x4, ((x4.length : Int) == 4)))
def spec_address.j1 : Nat → ByteArray → List Int → Int → Bool → Int → Bool → Option (List Int × Bool)
  | 0, _, _, _, _, _, _ => none
  | k + 1, x0, x4, x5, x6, x7, x24 => if x24 = true then (if x6 = true then (if (x4.length : Int) = 4 then (some (([] : List Int), false)) else (if x4.length < 140737488355328 then (spec_address.l0 k x0 (x4 ++ [(x5) % 256]) 0 false (wrap64 (x7 + 1))) else (none))) else (some (([] : List Int), false))) else (if 0 ≤ x7 then (if x7 < (x0.size : Int) then (if (bt x0 x7) < 48 then (spec_address.j2 k x0 x4 x5 x7 true) else (if (bt x0 x7) > 57 then (spec_address.j2 k x0 x4 x5 x7 true) else (if x6 = true then (spec_address.j2 k x0 x4 x5 x7 (x5 == 0)) else (spec_address.j2 k x0 x4 x5 x7 false)))) else (none)) else (none))
def spec_address.j2 : Nat → ByteArray → List Int → Int → Int → Bool → Option (List Int × Bool)
  | 0, _, _, _, _, _ => none
  | k + 1, x0, x4, x5, x7, x53 => if x53 = true then (some (([] : List Int), false)) else (if 0 ≤ x7 then (if x7 < (x0.size : Int) then (if (wrap64 ((wrap64 (10 * x5)) + (((bt x0 x7) - 48) % 256))) > 255 then (some (([] : List Int), false)) else (spec_address.l0 k x0 x4 (wrap64 ((wrap64 (10 * x5)) + (((bt x0 x7) - 48) % 256))) true (wrap64 (x7 + 1)))) else (none)) else (none))
end
def spec_address.f (k : Nat) (a0 : ByteArray) : Option (List Int × Bool) := spec_address.l0 k a0 (([] : List Int)) 0 false 0
theorem spec_address.mono_l : ∀ k, (∀ y0 y1 y2 y3 y4, LeO (spec_address.l0 k y0 y1 y2 y3 y4) (spec_address.l0 (k + 1) y0 y1 y2 y3 y4)) ∧ (∀ y0 y1 y2 y3 y4 y5, LeO (spec_address.j1 k y0 y1 y2 y3 y4 y5) (spec_address.j1 (k + 1) y0 y1 y2 y3 y4 y5)) ∧ (∀ y0 y1 y2 y3 y4, LeO (spec_address.j2 k y0 y1 y2 y3 y4) (spec_address.j2 (k + 1) y0 y1 y2 y3 y4))
  | 0 => ⟨fun _ _ _ _ _ r h => by simp [spec_address.l0] at h, fun _ _ _ _ _ _ r h => by simp [spec_address.j1] at h, fun _ _ _ _ _ r h => by simp [spec_address.j2] at h⟩
  | k + 1 => by
    obtain ⟨ih0, ih1, ih2⟩ := spec_address.mono_l k
    refine ⟨?_, ?_, ?_⟩
    · intro y0 y1 y2 y3 y4
      unfold spec_address.l0
      repeat' first
      | (with_reducible exact ih0 _ _ _ _ _)
      | (with_reducible exact ih1 _ _ _ _ _ _)
      | (with_reducible exact ih2 _ _ _ _ _)
      | (with_reducible exact LeO.refl _)
      | (with_reducible exact LeO.none _)
      | (with_reducible refine LeO.ite ?_ ?_)
      | (with_reducible refine LeO.bind ?_ (fun _ => ?_))
      | exact ih0 _ _ _ _ _
      | exact ih1 _ _ _ _ _ _
      | exact ih2 _ _ _ _ _
      | exact LeO.none _
      | refine LeO.ite ?_ ?_
      | refine LeO.bind ?_ (fun _ => ?_)
    · intro y0 y1 y2 y3 y4 y5
      unfold spec_address.j1
      repeat' first
      | (with_reducible exact ih0 _ _ _ _ _)
      | (with_reducible exact ih1 _ _ _ _ _ _)
      | (with_reducible exact ih2 _ _ _ _ _)
      | (with_reducible exact LeO.refl _)
      | (with_reducible exact LeO.none _)
      | (with_reducible refine LeO.ite ?_ ?_)
      | (with_reducible refine LeO.bind ?_ (fun _ => ?_))
      | exact ih0 _ _ _ _ _
      | exact ih1 _ _ _ _ _ _
      | exact ih2 _ _ _ _ _
      | exact LeO.none _
      | refine LeO.ite ?_ ?_
      | refine LeO.bind ?_ (fun _ => ?_)
    · intro y0 y1 y2 y3 y4
      unfold spec_address.j2
      repeat' first
      | (with_reducible exact ih0 _ _ _ _ _)
      | (with_reducible exact ih1 _ _ _ _ _ _)
      | (with_reducible exact ih2 _ _ _ _ _)
      | (with_reducible exact LeO.refl _)
      | (with_reducible exact LeO.none _)
      | (with_reducible refine LeO.ite ?_ ?_)
      | (with_reducible refine LeO.bind ?_ (fun _ => ?_))
      | exact ih0 _ _ _ _ _
      | exact ih1 _ _ _ _ _ _
      | exact ih2 _ _ _ _ _
      | exact LeO.none _
      | refine LeO.ite ?_ ?_
      | refine LeO.bind ?_ (fun _ => ?_)
theorem spec_address.mono : ∀ a0 k, LeO (spec_address.f k a0) (spec_address.f (k + 1) a0) := by
  intro a0 k
  obtain ⟨ih0, ih1, ih2⟩ := spec_address.mono_l k
  unfold spec_address.f
  repeat' first
      | (with_reducible exact ih0 _ _ _ _ _)
      | (with_reducible exact ih1 _ _ _ _ _ _)
      | (with_reducible exact ih2 _ _ _ _ _)
      | (with_reducible exact LeO.refl _)
      | (with_reducible exact LeO.none _)
      | (with_reducible refine LeO.ite ?_ ?_)
      | (with_reducible refine LeO.bind ?_ (fun _ => ?_))
      | exact ih0 _ _ _ _ _
      | exact ih1 _ _ _ _ _ _
      | exact ih2 _ _ _ _ _
      | exact LeO.none _
      | refine LeO.ite ?_ ?_
      | refine LeO.bind ?_ (fun _ => ?_)
set_option maxHeartbeats 8000000 in
set_option maxRecDepth 100000 in
theorem spec_address.calls (k : Nat) (a0 : ByteArray) (r1 : List Int) (r2 : Bool) (w : World) (h : spec_address.f k a0 = some (r1, r2)) :
    Calls Tryd.prog 45 #[.string a0] w fun e w' => ∃ v0_ : Value, e = .returned (.tuple #[v0_, .bool r2]) ∧ Kd.R (Kd.int .u8) 5 w' w.heap.size (fun _ => True) v0_ r1 ∧ Below w.heap.size w w' := by
  have HB := Aside0.mk (Below.refl w.heap.size w)
  have H : (spec_address.l0 k a0 (([] : List Int)) 0 false 0) = some (r1, r2) := h
  clear h
  obtain ⟨y147, hy147⟩ : ∃ y_ : List Int, y_ = (([] : List Int)) := ⟨_, rfl⟩
  replace H : (spec_address.l0 k a0 y147 0 false 0) = some (r1, r2) := by first | (rw [hy147]; with_reducible exact H) | (have H2_ := (Option.bind_some _ _).symm.trans H; rw [hy147]; with_reducible exact H2_) | (have H2_ := (Option.bind_some _ _).symm.trans H; with_reducible exact H2_) | with_reducible exact H | (rw [hy147]; exact H) | exact H
  have Ny147 := Aside0.mk hy147
  clear hy147
  have H' := Aside0.mk H
  clear H
  go_enter Tryd.func45, Tryd.ntmps45
  go_wp2_with (first | ((with_reducible refine gate_dst (N := 8) rfl ?_); (try (refine gate_guard (by rfl) ?_; dsimp only)); refine Kd.R_lit (Kd.int .u8) _ 5 ?hg (N := 8) ?hd (xs := ([] : List Int)) (inner := []) (ok := fun _ => True) (okp := fun _ => True) ?hr ?hp (fun _ hk => hk) trivial (Below.refl _ _) (Nat.le_refl _) (by simp) ?_; (case hd => rfl); (case hg => rfl); (case hr => first | (go_simp; done) | (go_simp; rfl)); (case hp => exact (Reps.none _ _)); intro v148 w2 ho3 hb hg_ hnew_; clear hg_ hnew_; (first | rw [← Ny147.out] at ho3 | (simp only [Int.reduceToNat] at ho3; rw [← Ny147.out] at ho3)); have n0_ := Aside0.mk (Kd.R_lower ho3 (below_size (by repeat (first | (with_reducible first | exact HB.out | apply below_alloc | apply pw_below_drewN | apply below_drew1) | exact HB.out)))); have n1_ := Aside0.mk (below_step (by repeat (first | (with_reducible first | exact HB.out | apply below_alloc | apply pw_below_drewN | apply below_drew1) | exact HB.out)) hb); clear HB; have HO149 := n0_; have HB := n1_; clear n0_ n1_; clear hb ho3))
  go_loopg [4, 5, 6, 7] k (fun kq v4 v5 v6 v7 w' => ∃ (x4_1 : List Int) (x5_1 : Int) (x6_1 : Bool) (x7_1 : Int), v5 = .int .i64 x5_1 ∧ v6 = .bool x6_1 ∧ v7 = .int .i64 x7_1 ∧ Aside0 (spec_address.l0 kq a0 x4_1 x5_1 x6_1 x7_1 = some (r1, r2)) ∧ Aside0 (kq ≤ k) ∧ Aside0 (Kd.R (Kd.int .u8) 5 w' w.heap.size (fun _ => True) v4 x4_1) ∧ Aside0 (Below w.heap.size w w'))
  case atStart => exact ⟨(y147), (0), (false), (0), (by first | rfl | (simp; done) | (simp [*]; done)), (by first | rfl | (simp; done) | (simp [*]; done)), (by first | rfl | (simp; done) | (simp [*]; done)), H', ⟨Nat.le_refl _⟩, ⟨by (with_reducible repeat (first | apply Kd.R_alloc | apply Kd.R_drewN | apply Kd.R_drew)); exact HO149.out⟩, ⟨by repeat (first | (with_reducible first | exact HB.out | apply below_alloc | apply pw_below_drewN | apply below_drew1) | exact HB.out)⟩⟩
  case round =>
    clear H'
    try clear p2
    obtain ⟨x4_1, x5_1, x6_1, x7_1, rfl, rfl, rfl, HA, HK1, HO_4, HB⟩ := hrel
    cases gk with
    | zero => exact absurd HA.out (by simp [spec_address.l0])
    | succ k1 =>
      have H := HA.out
      clear HA
      simp only [spec_address.l0] at H
      by_cases c4 : x7_1 ≤ (a0.size : Int)
      · rw [if_pos c4] at H
        have c4b0 : decide (x7_1 ≤ (a0.size : Int)) = true := decide_eq_true c4
        clear c4
        have HC5 := Aside0.mk H
        clear H
        go_upto_region 5 with (fail)
        go_cut [24] (fun v24 wc => ∃ (kq : Nat) (x24_4 : Bool), v24 = .bool x24_4 ∧ Aside0 (spec_address.j1 kq a0 x4_1 x5_1 x6_1 x7_1 x24_4 = some (r1, r2)) ∧ Aside0 (kq ≤ k1) ∧ Aside0 (Kd.R (Kd.int .u8) 5 wc w.heap.size (fun _ => True) u4 x4_1) ∧ Aside0 (Below w.heap.size w wc))
        case first =>
          have H := HC5.out
          clear HC5
          by_cases c6 : x7_1 = (a0.size : Int)
          · rw [if_pos c6] at H
            have c6b0 : (x7_1 == (a0.size : Int)) = true := beq_iff_eq.mpr c6
            have c6b1 : (x7_1 != (a0.size : Int)) = false := bne_eq_false_iff_eq.mpr c6
            clear c6
            (first | rw [c6b0] | (simp only [i64_w, i32_w]; rw [c6b0]) | skip)
            have H' := Aside0.mk H
            clear H
            go_wp2
            go_meet
            case rel => exact ⟨_, (true), (by first | rfl | (simp; done) | (simp [*]; done)), H', ⟨by have := HK1.out; first | omega | exact Nat.le_refl _⟩, ⟨by (with_reducible repeat (first | apply Kd.R_alloc | apply Kd.R_drewN | apply Kd.R_drew)); exact HO_4.out⟩, ⟨by repeat (first | (with_reducible first | exact HB.out | apply below_alloc | apply pw_below_drewN | apply below_drew1) | exact HB.out)⟩⟩
          · rw [if_neg c6] at H
            have c6b0 : (x7_1 == (a0.size : Int)) = false := beq_eq_false_iff_ne.mpr c6
            have c6b1 : (x7_1 != (a0.size : Int)) = true := bne_iff_ne.mpr c6
            (first | rw [c6b0] | (simp only [i64_w, i32_w]; rw [c6b0]) | skip)
            by_cases c7 : 0 ≤ x7_1
            · rw [if_pos c7] at H
              have c7b0 : decide (0 ≤ x7_1) = true := decide_eq_true c7
              clear c7
              by_cases c8 : x7_1 < (a0.size : Int)
              · rw [if_pos c8] at H
                have c8b0 : decide (x7_1 < (a0.size : Int)) = true := decide_eq_true c8
                clear c8
                have H' := Aside0.mk H
                clear H
                have p9 : 0 ≤ (x7_1 : Int) := of_decide_eq_true (by first | (with_reducible assumption) | assumption)
                have q9 : x7_1 < (a0.size : Int) := of_decide_eq_true (by first | (with_reducible assumption) | assumption)
                have hx9 := bt_at a0 x7_1
                replace p9 := eq_true p9
                replace q9 := eq_true q9
                go_wp2
                go_meet
                case rel => exact ⟨_, (((bt a0 x7_1) == 46)), (by first | rfl | (simp; done) | (simp [*]; done)), H', ⟨by have := HK1.out; first | omega | exact Nat.le_refl _⟩, ⟨by (with_reducible repeat (first | apply Kd.R_alloc | apply Kd.R_drewN | apply Kd.R_drew)); exact HO_4.out⟩, ⟨by repeat (first | (with_reducible first | exact HB.out | apply below_alloc | apply pw_below_drewN | apply below_drew1) | exact HB.out)⟩⟩
              · rw [if_neg c8] at H
                exact absurd H (by simp)
            · rw [if_neg c7] at H
              exact absurd H (by simp)
        case rest =>
          clear HC5
          try clear p2
          try clear c4
          try clear c4b0
          try clear c6
          try clear c6b0
          try clear c6b1
          try clear c7
          try clear c7b0
          try clear c8
          try clear c8b0
          try clear p9
          try clear q9
          try clear hx9
          try clear p2
          try clear p9
          try clear q9
          obtain ⟨kq, x24_4, rfl, HA, HJ4, HO_4, HB⟩ := hcut
          cases kq with
          | zero => exact absurd HA.out (by simp [spec_address.j1])
          | succ kj4 =>
            have H := HA.out
            clear HA
            simp only [spec_address.j1] at H
            by_cases c10 : x24_4 = true
            · subst c10
              have H1 : (if x6_1 = true then (if (x4_1.length : Int) = 4 then (some (([] : List Int), false)) else (if x4_1.length < 140737488355328 then (spec_address.l0 kj4 a0 (x4_1 ++ [(x5_1) % 256]) 0 false (wrap64 (x7_1 + 1))) else (none))) else (some (([] : List Int), false))) = some (r1, r2) := by rw [if_pos rfl] at H; exact H
              clear H
              have H := H1
              clear H1
              by_cases c11 : x6_1 = true
              · subst c11
                have H1 : (if (x4_1.length : Int) = 4 then (some (([] : List Int), false)) else (if x4_1.length < 140737488355328 then (spec_address.l0 kj4 a0 (x4_1 ++ [(x5_1) % 256]) 0 false (wrap64 (x7_1 + 1))) else (none))) = some (r1, r2) := by rw [if_pos rfl] at H; exact H
                clear H
                have H := H1
                clear H1
                by_cases c12 : (x4_1.length : Int) = 4
                · rw [if_pos c12] at H
                  have c12b0 : ((x4_1.length : Int) == 4) = true := beq_iff_eq.mpr c12
                  have c12b1 : ((x4_1.length : Int) != 4) = false := bne_eq_false_iff_eq.mpr c12
                  clear c12
                  simp only [Option.some.injEq, Prod.mk.injEq] at H
                  obtain ⟨rfl, rfl⟩ := H
                  obtain ⟨Ao13, co13, eo13⟩ := Kd.R_slice HO_4.out
                  subst eo13
                  go_wp2
                  go_ret2
                  exact ⟨_, by first | rfl | (simp [errW_none, errW_some] <;> rfl) | (simp [*, errW_none, errW_some] <;> rfl), by first | exact Kd.R_nil _ _ _ _ _ | exact Kd.N_nil _ _ _ _ _ | exact Kd.V_nil _ _ _ _ _ | exact Kd.Q_nil _ _ _ _ _ | exact Kd.S_nil _ _ _ _ _, by repeat (first | (with_reducible first | exact HB.out | apply below_alloc | apply pw_below_drewN | apply below_drew1) | exact HB.out)⟩
                · rw [if_neg c12] at H
                  have c12b0 : ((x4_1.length : Int) == 4) = false := beq_eq_false_iff_ne.mpr c12
                  have c12b1 : ((x4_1.length : Int) != 4) = true := bne_iff_ne.mpr c12
                  by_cases c14 : x4_1.length < 140737488355328
                  · rw [if_pos c14] at H
                    have LMc14 := Aside0.mk c14
                    clear c14
                    obtain ⟨y150, hy150⟩ : ∃ y_ : List Int, y_ = (x4_1 ++ [(x5_1) % 256]) := ⟨_, rfl⟩
                    replace H : (spec_address.l0 kj4 a0 y150 0 false (wrap64 (x7_1 + 1))) = some (r1, r2) := by first | (rw [hy150]; with_reducible exact H) | (have H2_ := (Option.bind_some _ _).symm.trans H; rw [hy150]; with_reducible exact H2_) | (have H2_ := (Option.bind_some _ _).symm.trans H; with_reducible exact H2_) | with_reducible exact H | (rw [hy150]; exact H) | exact H
                    have Ny150 := Aside0.mk hy150
                    clear hy150
                    have H' := Aside0.mk H
                    clear H
                    obtain ⟨Ao15, co15, eo15⟩ := Kd.R_slice HO_4.out
                    subst eo15
                    go_wp2_with (first | ((with_reducible refine gate_builtin (b := .append) (xs := #[.tmp 32, .tmp 35]) rfl ?_); (try (refine gate_guard (by rfl) ?_; dsimp only)); at_builtin; refine Kd.R_append (Kd.int .u8) (w0 := w) w.heap.size rfl (.tmp 32) (.tmp 35) 26 5 (.int .u8 0) 1 rfl Tryd.underlying26 info5 rfl (by decide) (by omega) (.slice Ao15 x4_1.length co15) x4_1 ((x5_1) % 256) [.int .u8 ((x5_1) % 256)] (fun _ => True) (fun _ => False) rfl rfl ?aP (fun _ hk => hk.elim) ?aF ?aO ?aB ?aS ?aL ?_; (case aP => exact rfl); (case aB => exact (by repeat (first | (with_reducible first | exact HB.out | apply below_alloc | apply pw_below_drewN | apply below_drew1) | exact HB.out))); (case aF => exact (fun _ _ => trivial)); (case aO => exact (by (with_reducible repeat (first | apply Kd.R_alloc | apply Kd.R_drewN | apply Kd.R_drew)); exact HO_4.out)); (case aS => exact (below_size (by repeat (first | (with_reducible first | exact HB.out | apply below_alloc | apply pw_below_drewN | apply below_drew1) | exact HB.out)))); (case aL => have := LMc14.out; omega); intro v151 w16 ho hb hg hat; rw [← Ny150.out] at ho; have n0_ := Aside0.mk (hb); have n1_ := Aside0.mk (ho); clear HB; clear HO_4; have HB := n0_; have HO152 := n1_; clear n0_ n1_; clear ho hb hg hat))
                    go_roundg kj4
                    case measure => have := HK1.out; have := HJ4.out; omega
                    case rel => exact ⟨(y150), (0), (false), (wrap64 (x7_1 + 1)), (by first | rfl | (simp; done) | (simp [*]; done)), (by first | rfl | (simp; done) | (simp [*]; done)), (by first | rfl | (simp; done) | (simp [*]; done)), H', ⟨by have := HK1.out; have := HJ4.out; omega⟩, ⟨by (with_reducible repeat (first | apply Kd.R_alloc | apply Kd.R_drewN | apply Kd.R_drew)); exact HO152.out⟩, ⟨by repeat (first | (with_reducible first | exact HB.out | apply below_alloc | apply pw_below_drewN | apply below_drew1) | exact HB.out)⟩⟩
                  · rw [if_neg c14] at H
                    exact absurd H (by simp)
              · replace c11 := Bool.eq_false_iff.mpr c11
                subst c11
                have H1 : (some (([] : List Int), false)) = some (r1, r2) := by rw [if_neg (show ¬ (false = true) by decide)] at H; exact H
                clear H
                have H := H1
                clear H1
                simp only [Option.some.injEq, Prod.mk.injEq] at H
                obtain ⟨rfl, rfl⟩ := H
                go_wp2
                go_ret2
                exact ⟨_, by first | rfl | (simp [errW_none, errW_some] <;> rfl) | (simp [*, errW_none, errW_some] <;> rfl), by first | exact Kd.R_nil _ _ _ _ _ | exact Kd.N_nil _ _ _ _ _ | exact Kd.V_nil _ _ _ _ _ | exact Kd.Q_nil _ _ _ _ _ | exact Kd.S_nil _ _ _ _ _, by repeat (first | (with_reducible first | exact HB.out | apply below_alloc | apply pw_below_drewN | apply below_drew1) | exact HB.out)⟩
            · replace c10 := Bool.eq_false_iff.mpr c10
              subst c10
              have H1 : (if 0 ≤ x7_1 then (if x7_1 < (a0.size : Int) then (if (bt a0 x7_1) < 48 then (spec_address.j2 kj4 a0 x4_1 x5_1 x7_1 true) else (if (bt a0 x7_1) > 57 then (spec_address.j2 kj4 a0 x4_1 x5_1 x7_1 true) else (if x6_1 = true then (spec_address.j2 kj4 a0 x4_1 x5_1 x7_1 (x5_1 == 0)) else (spec_address.j2 kj4 a0 x4_1 x5_1 x7_1 false)))) else (none)) else (none)) = some (r1, r2) := by rw [if_neg (show ¬ (false = true) by decide)] at H; exact H
              clear H
              have H := H1
              clear H1
              have HC17 := Aside0.mk H
              clear H
              go_upto_region 10 with (fail)
              go_cut [53] (fun v53 wc => ∃ (kq : Nat) (x53_16 : Bool), v53 = .bool x53_16 ∧ Aside0 (spec_address.j2 kq a0 x4_1 x5_1 x7_1 x53_16 = some (r1, r2)) ∧ Aside0 (kq ≤ kj4) ∧ Aside0 (Kd.R (Kd.int .u8) 5 wc w.heap.size (fun _ => True) u4 x4_1) ∧ Aside0 (Below w.heap.size w wc))
              case first =>
                have H := HC17.out
                clear HC17
                by_cases c18 : 0 ≤ x7_1
                · rw [if_pos c18] at H
                  have c18b0 : decide (0 ≤ x7_1) = true := decide_eq_true c18
                  clear c18
                  (first | rw [c18b0] | (simp only [i64_w, i32_w]; rw [c18b0]) | skip)
                  by_cases c19 : x7_1 < (a0.size : Int)
                  · rw [if_pos c19] at H
                    have c19b0 : decide (x7_1 < (a0.size : Int)) = true := decide_eq_true c19
                    clear c19
                    by_cases c21 : (bt a0 x7_1) < 48
                    · rw [if_pos c21] at H
                      have c21b0 : decide ((bt a0 x7_1) < 48) = true := decide_eq_true c21
                      clear c21
                      have H' := Aside0.mk H
                      clear H
                      have p20 : 0 ≤ (x7_1 : Int) := of_decide_eq_true (by first | (with_reducible assumption) | assumption)
                      have q20 : x7_1 < (a0.size : Int) := of_decide_eq_true (by first | (with_reducible assumption) | assumption)
                      have hx20 := bt_at a0 x7_1
                      replace p20 := eq_true p20
                      replace q20 := eq_true q20
                      go_wp2
                      go_meet
                      case rel => exact ⟨_, (true), (by first | rfl | (simp; done) | (simp [*]; done)), H', ⟨by have := HK1.out; have := HJ4.out; first | omega | exact Nat.le_refl _⟩, ⟨by (with_reducible repeat (first | apply Kd.R_alloc | apply Kd.R_drewN | apply Kd.R_drew)); exact HO_4.out⟩, ⟨by repeat (first | (with_reducible first | exact HB.out | apply below_alloc | apply pw_below_drewN | apply below_drew1) | exact HB.out)⟩⟩
                    · rw [if_neg c21] at H
                      have c21b0 : decide ((bt a0 x7_1) < 48) = false := decide_eq_false c21
                      clear c21
                      by_cases c23 : (bt a0 x7_1) > 57
                      · rw [if_pos c23] at H
                        have c23b0 : decide (57 < (bt a0 x7_1)) = true := decide_eq_true c23
                        clear c23
                        have H' := Aside0.mk H
                        clear H
                        have p20 : 0 ≤ (x7_1 : Int) := of_decide_eq_true (by first | (with_reducible assumption) | assumption)
                        have q20 : x7_1 < (a0.size : Int) := of_decide_eq_true (by first | (with_reducible assumption) | assumption)
                        have hx20 := bt_at a0 x7_1
                        replace p20 := eq_true p20
                        replace q20 := eq_true q20
                        have p22 : 0 ≤ (x7_1 : Int) := of_decide_eq_true (by first | (with_reducible assumption) | assumption)
                        have q22 : x7_1 < (a0.size : Int) := of_decide_eq_true (by first | (with_reducible assumption) | assumption)
                        have hx22 := bt_at a0 x7_1
                        replace p22 := eq_true p22
                        replace q22 := eq_true q22
                        go_wp2
                        go_meet
                        case rel => exact ⟨_, (true), (by first | rfl | (simp; done) | (simp [*]; done)), H', ⟨by have := HK1.out; have := HJ4.out; first | omega | exact Nat.le_refl _⟩, ⟨by (with_reducible repeat (first | apply Kd.R_alloc | apply Kd.R_drewN | apply Kd.R_drew)); exact HO_4.out⟩, ⟨by repeat (first | (with_reducible first | exact HB.out | apply below_alloc | apply pw_below_drewN | apply below_drew1) | exact HB.out)⟩⟩
                      · rw [if_neg c23] at H
                        have c23b0 : decide (57 < (bt a0 x7_1)) = false := decide_eq_false c23
                        clear c23
                        by_cases c24 : x6_1 = true
                        · subst c24
                          have H1 : (spec_address.j2 kj4 a0 x4_1 x5_1 x7_1 (x5_1 == 0)) = some (r1, r2) := by rw [if_pos rfl] at H; exact H
                          clear H
                          have H := H1
                          clear H1
                          have H' := Aside0.mk H
                          clear H
                          have p20 : 0 ≤ (x7_1 : Int) := of_decide_eq_true (by first | (with_reducible assumption) | assumption)
                          have q20 : x7_1 < (a0.size : Int) := of_decide_eq_true (by first | (with_reducible assumption) | assumption)
                          have hx20 := bt_at a0 x7_1
                          replace p20 := eq_true p20
                          replace q20 := eq_true q20
                          have p22 : 0 ≤ (x7_1 : Int) := of_decide_eq_true (by first | (with_reducible assumption) | assumption)
                          have q22 : x7_1 < (a0.size : Int) := of_decide_eq_true (by first | (with_reducible assumption) | assumption)
                          have hx22 := bt_at a0 x7_1
                          replace p22 := eq_true p22
                          replace q22 := eq_true q22
                          go_wp2
                          go_meet
                          case rel => exact ⟨_, ((x5_1 == 0)), (by first | rfl | (simp; done) | (simp [*]; done)), H', ⟨by have := HK1.out; have := HJ4.out; first | omega | exact Nat.le_refl _⟩, ⟨by (with_reducible repeat (first | apply Kd.R_alloc | apply Kd.R_drewN | apply Kd.R_drew)); exact HO_4.out⟩, ⟨by repeat (first | (with_reducible first | exact HB.out | apply below_alloc | apply pw_below_drewN | apply below_drew1) | exact HB.out)⟩⟩
                        · replace c24 := Bool.eq_false_iff.mpr c24
                          subst c24
                          have H1 : (spec_address.j2 kj4 a0 x4_1 x5_1 x7_1 false) = some (r1, r2) := by rw [if_neg (show ¬ (false = true) by decide)] at H; exact H
                          clear H
                          have H := H1
                          clear H1
                          have H' := Aside0.mk H
                          clear H
                          have p20 : 0 ≤ (x7_1 : Int) := of_decide_eq_true (by first | (with_reducible assumption) | assumption)
                          have q20 : x7_1 < (a0.size : Int) := of_decide_eq_true (by first | (with_reducible assumption) | assumption)
                          have hx20 := bt_at a0 x7_1
                          replace p20 := eq_true p20
                          replace q20 := eq_true q20
                          have p22 : 0 ≤ (x7_1 : Int) := of_decide_eq_true (by first | (with_reducible assumption) | assumption)
                          have q22 : x7_1 < (a0.size : Int) := of_decide_eq_true (by first | (with_reducible assumption) | assumption)
                          have hx22 := bt_at a0 x7_1
                          replace p22 := eq_true p22
                          replace q22 := eq_true q22
                          go_wp2
                          go_meet
                          case rel => exact ⟨_, (false), (by first | rfl | (simp; done) | (simp [*]; done)), H', ⟨by have := HK1.out; have := HJ4.out; first | omega | exact Nat.le_refl _⟩, ⟨by (with_reducible repeat (first | apply Kd.R_alloc | apply Kd.R_drewN | apply Kd.R_drew)); exact HO_4.out⟩, ⟨by repeat (first | (with_reducible first | exact HB.out | apply below_alloc | apply pw_below_drewN | apply below_drew1) | exact HB.out)⟩⟩
                  · rw [if_neg c19] at H
                    exact absurd H (by simp)
                · rw [if_neg c18] at H
                  exact absurd H (by simp)
              case rest =>
                clear HC17
                try clear c1
                try clear c2
                try clear p2
                try clear q2
                try clear hx2
                try clear c4
                try clear c4b0
                try clear c6
                try clear c6b0
                try clear c6b1
                try clear p6
                try clear c7
                try clear c7b0
                try clear c8
                try clear c8b0
                try clear p9
                try clear q9
                try clear hx9
                try clear c10
                try clear c11
                try clear c12
                try clear c12b0
                try clear c12b1
                try clear c14
                try clear c18
                try clear c18b0
                try clear c19
                try clear c19b0
                try clear p20
                try clear q20
                try clear hx20
                try clear c21
                try clear c21b0
                try clear p22
                try clear q22
                try clear hx22
                try clear c23
                try clear c23b0
                try clear c24
                try clear p2
                try clear p20
                try clear p22
                try clear p9
                try clear q20
                try clear q22
                try clear q9
                obtain ⟨kq, x53_16, rfl, HA, HJ16, HO_4, HB⟩ := hcut
                cases kq with
                | zero => exact absurd HA.out (by simp [spec_address.j2])
                | succ kj16 =>
                  have H := HA.out
                  clear HA
                  simp only [spec_address.j2] at H
                  by_cases c25 : x53_16 = true
                  · subst c25
                    have H1 : (some (([] : List Int), false)) = some (r1, r2) := by rw [if_pos rfl] at H; exact H
                    clear H
                    have H := H1
                    clear H1
                    simp only [Option.some.injEq, Prod.mk.injEq] at H
                    obtain ⟨rfl, rfl⟩ := H
                    go_wp2
                    go_ret2
                    exact ⟨_, by first | rfl | (simp [errW_none, errW_some] <;> rfl) | (simp [*, errW_none, errW_some] <;> rfl), by first | exact Kd.R_nil _ _ _ _ _ | exact Kd.N_nil _ _ _ _ _ | exact Kd.V_nil _ _ _ _ _ | exact Kd.Q_nil _ _ _ _ _ | exact Kd.S_nil _ _ _ _ _, by repeat (first | (with_reducible first | exact HB.out | apply below_alloc | apply pw_below_drewN | apply below_drew1) | exact HB.out)⟩
                  · replace c25 := Bool.eq_false_iff.mpr c25
                    subst c25
                    have H1 : (if 0 ≤ x7_1 then (if x7_1 < (a0.size : Int) then (if (wrap64 ((wrap64 (10 * x5_1)) + (((bt a0 x7_1) - 48) % 256))) > 255 then (some (([] : List Int), false)) else (spec_address.l0 kj16 a0 x4_1 (wrap64 ((wrap64 (10 * x5_1)) + (((bt a0 x7_1) - 48) % 256))) true (wrap64 (x7_1 + 1)))) else (none)) else (none)) = some (r1, r2) := by rw [if_neg (show ¬ (false = true) by decide)] at H; exact H
                    clear H
                    have H := H1
                    clear H1
                    by_cases c26 : 0 ≤ x7_1
                    · rw [if_pos c26] at H
                      have c26b0 : decide (0 ≤ x7_1) = true := decide_eq_true c26
                      clear c26
                      by_cases c27 : x7_1 < (a0.size : Int)
                      · rw [if_pos c27] at H
                        have c27b0 : decide (x7_1 < (a0.size : Int)) = true := decide_eq_true c27
                        clear c27
                        by_cases c29 : (wrap64 ((wrap64 (10 * x5_1)) + (((bt a0 x7_1) - 48) % 256))) > 255
                        · rw [if_pos c29] at H
                          have c29b0 : decide (255 < (wrap64 ((wrap64 (10 * x5_1)) + (((bt a0 x7_1) - 48) % 256)))) = true := decide_eq_true c29
                          clear c29
                          simp only [Option.some.injEq, Prod.mk.injEq] at H
                          obtain ⟨rfl, rfl⟩ := H
                          have p28 : 0 ≤ (x7_1 : Int) := of_decide_eq_true (by first | (with_reducible assumption) | assumption)
                          have q28 : x7_1 < (a0.size : Int) := of_decide_eq_true (by first | (with_reducible assumption) | assumption)
                          have hx28 := bt_at a0 x7_1
                          replace p28 := eq_true p28
                          replace q28 := eq_true q28
                          go_wp2
                          go_ret2
                          exact ⟨_, by first | rfl | (simp [errW_none, errW_some] <;> rfl) | (simp [*, errW_none, errW_some] <;> rfl), by first | exact Kd.R_nil _ _ _ _ _ | exact Kd.N_nil _ _ _ _ _ | exact Kd.V_nil _ _ _ _ _ | exact Kd.Q_nil _ _ _ _ _ | exact Kd.S_nil _ _ _ _ _, by repeat (first | (with_reducible first | exact HB.out | apply below_alloc | apply pw_below_drewN | apply below_drew1) | exact HB.out)⟩
                        · rw [if_neg c29] at H
                          have c29b0 : decide (255 < (wrap64 ((wrap64 (10 * x5_1)) + (((bt a0 x7_1) - 48) % 256)))) = false := decide_eq_false c29
                          clear c29
                          have H' := Aside0.mk H
                          clear H
                          have p28 : 0 ≤ (x7_1 : Int) := of_decide_eq_true (by first | (with_reducible assumption) | assumption)
                          have q28 : x7_1 < (a0.size : Int) := of_decide_eq_true (by first | (with_reducible assumption) | assumption)
                          have hx28 := bt_at a0 x7_1
                          replace p28 := eq_true p28
                          replace q28 := eq_true q28
                          go_wp2
                          go_roundg kj16
                          case measure => have := HK1.out; have := HJ4.out; have := HJ16.out; omega
                          case rel => exact ⟨(x4_1), (wrap64 ((wrap64 (10 * x5_1)) + (((bt a0 x7_1) - 48) % 256))), (true), (wrap64 (x7_1 + 1)), (by first | rfl | (simp; done) | (simp [*]; done)), (by first | rfl | (simp; done) | (simp [*]; done)), (by first | rfl | (simp; done) | (simp [*]; done)), H', ⟨by have := HK1.out; have := HJ4.out; have := HJ16.out; omega⟩, ⟨by (with_reducible repeat (first | apply Kd.R_alloc | apply Kd.R_drewN | apply Kd.R_drew)); exact HO_4.out⟩, ⟨by repeat (first | (with_reducible first | exact HB.out | apply below_alloc | apply pw_below_drewN | apply below_drew1) | exact HB.out)⟩⟩
                      · rw [if_neg c27] at H
                        exact absurd H (by simp)
                    · rw [if_neg c26] at H
                      exact absurd H (by simp)
      · rw [if_neg c4] at H
        have c4b0 : decide (x7_1 ≤ (a0.size : Int)) = false := decide_eq_false c4
        clear c4
        simp only [Option.some.injEq, Prod.mk.injEq] at H
        obtain ⟨rfl, rfl⟩ := H
        obtain ⟨Ao30, co30, eo30⟩ := Kd.R_slice HO_4.out
        subst eo30
        go_wp2
        go_ret2
        exact ⟨_, by first | rfl | (simp [errW_none, errW_some] <;> rfl) | (simp [*, errW_none, errW_some] <;> rfl), by (with_reducible repeat (first | apply Kd.R_alloc | apply Kd.R_drewN | apply Kd.R_drew)); exact HO_4.out, by repeat (first | (with_reducible first | exact HB.out | apply below_alloc | apply pw_below_drewN | apply below_drew1) | exact HB.out)⟩
def spec_Uint.l0 : Nat → Int → List Int → Option (List Int)
  | 0, _, _ => none
  | k + 1, x0, x3 => if x0 > 255 then ((some (([(x0 / 256) % 256] : List Int) : List Int)).bind fun y156 => (if y156.length + x3.length < 140737488355328 then (spec_Uint.l0 k (x0 / 256) (y156 ++ x3)) else (none))) else (if 0 < (x3.length : Int) then (if (rd x3 0) > 127 then ((some (([0] : List Int) : List Int)).bind fun y163 => (if y163.length + x3.length < 140737488355328 then (some (y163 ++ x3)) else (none))) else (some x3)) else (none))
def spec_Uint.f (k : Nat) (a0 : Int) : Option (List Int) := spec_Uint.l0 k a0 (([(a0) % 256] : List Int))
theorem spec_Uint.mono_l : ∀ k, (∀ y0 y1, LeO (spec_Uint.l0 k y0 y1) (spec_Uint.l0 (k + 1) y0 y1))
  | 0 => fun _ _ r h => by simp [spec_Uint.l0] at h
  | k + 1 => by
    have ih0 := spec_Uint.mono_l k
    · intro y0 y1
      unfold spec_Uint.l0
      repeat' first
      | (with_reducible exact ih0 _ _)
      | (with_reducible exact LeO.refl _)
      | (with_reducible exact LeO.none _)
      | (with_reducible refine LeO.ite ?_ ?_)
      | (with_reducible refine LeO.bind ?_ (fun _ => ?_))
      | exact ih0 _ _
      | exact LeO.none _
      | refine LeO.ite ?_ ?_
      | refine LeO.bind ?_ (fun _ => ?_)
theorem spec_Uint.mono : ∀ a0 k, LeO (spec_Uint.f k a0) (spec_Uint.f (k + 1) a0) := by
  intro a0 k
  have ih0 := spec_Uint.mono_l k
  unfold spec_Uint.f
  repeat' first
      | (with_reducible exact ih0 _ _)
      | (with_reducible exact LeO.refl _)
      | (with_reducible exact LeO.none _)
      | (with_reducible refine LeO.ite ?_ ?_)
      | (with_reducible refine LeO.bind ?_ (fun _ => ?_))
      | exact ih0 _ _
      | exact LeO.none _
      | refine LeO.ite ?_ ?_
      | refine LeO.bind ?_ (fun _ => ?_)
set_option maxHeartbeats 8000000 in
set_option maxRecDepth 100000 in
theorem spec_Uint.calls (k : Nat) (a0 : Int) (r : List Int) (w : World) (h : spec_Uint.f k a0 = some r) :
    Calls Tryd.prog 46 #[.int .u64 a0] w fun e w' => ∃ v0_ : Value, e = .returned (v0_) ∧ Kd.R (Kd.int .u8) 5 w' w.heap.size (fun _ => True) v0_ r ∧ Below w.heap.size w w' := by
  have HB := Aside0.mk (Below.refl w.heap.size w)
  have H : (spec_Uint.l0 k a0 (([(a0) % 256] : List Int))) = some r := h
  clear h
  obtain ⟨y153, hy153⟩ : ∃ y_ : List Int, y_ = (([(a0) % 256] : List Int)) := ⟨_, rfl⟩
  replace H : (spec_Uint.l0 k a0 y153) = some r := by first | (rw [hy153]; with_reducible exact H) | (have H2_ := (Option.bind_some _ _).symm.trans H; rw [hy153]; with_reducible exact H2_) | (have H2_ := (Option.bind_some _ _).symm.trans H; with_reducible exact H2_) | with_reducible exact H | (rw [hy153]; exact H) | exact H
  have Ny153 := Aside0.mk hy153
  clear hy153
  have H' := Aside0.mk H
  clear H
  go_enter Tryd.func46, Tryd.ntmps46
  go_wp2_with (first | ((with_reducible refine gate_dst (N := 6) rfl ?_); refine Kd.R_lit (Kd.int .u8) _ 5 ?hg (N := 6) ?hd (xs := ([(a0) % 256] : List Int)) (inner := [.int .u8 ((a0) % 256)]) (ok := fun _ => True) (okp := fun _ => True) ?hr ?hp (fun _ hk => hk) trivial (Below.refl _ _) (Nat.le_refl _) (by simp) ?_; (case hd => rfl); (case hg => rfl); (case hr => first | (go_simp; done) | (go_simp; rfl)); (case hp => exact (Reps.one (show Kd.M (Kd.int .u8) _ _ _ ((a0) % 256) [.int .u8 ((a0) % 256)] from rfl) (Reps.none _ _))); intro v154 w2 ho3 hb hg_ hnew_; clear hg_ hnew_; (first | rw [← Ny153.out] at ho3 | (simp only [Int.reduceToNat] at ho3; rw [← Ny153.out] at ho3)); have n0_ := Aside0.mk (Kd.R_lower ho3 (below_size (by repeat (first | (with_reducible first | exact HB.out | apply below_alloc | apply pw_below_drewN | apply below_drew1) | exact HB.out)))); have n1_ := Aside0.mk (below_step (by repeat (first | (with_reducible first | exact HB.out | apply below_alloc | apply pw_below_drewN | apply below_drew1) | exact HB.out)) hb); clear HB; have HO155 := n0_; have HB := n1_; clear n0_ n1_; clear hb ho3))
  go_loopg [0, 3] k (fun kq v0 v3 w' => ∃ (x0_1 : Int) (x3_1 : List Int), v0 = .int .u64 x0_1 ∧ Aside0 (spec_Uint.l0 kq x0_1 x3_1 = some r) ∧ Aside0 (kq ≤ k) ∧ Aside0 (Kd.R (Kd.int .u8) 5 w' w.heap.size (fun _ => True) v3 x3_1) ∧ Aside0 (Below w.heap.size w w'))
  case atStart => exact ⟨(a0), (y153), (by first | rfl | (simp; done) | (simp [*]; done)), H', ⟨Nat.le_refl _⟩, ⟨by (with_reducible repeat (first | apply Kd.R_alloc | apply Kd.R_drewN | apply Kd.R_drew)); exact HO155.out⟩, ⟨by repeat (first | (with_reducible first | exact HB.out | apply below_alloc | apply pw_below_drewN | apply below_drew1) | exact HB.out)⟩⟩
  case round =>
    clear H'
    try clear p2
    obtain ⟨x0_1, x3_1, rfl, HA, HK1, HO_3, HB⟩ := hrel
    cases gk with
    | zero => exact absurd HA.out (by simp [spec_Uint.l0])
    | succ k1 =>
      have H := HA.out
      clear HA
      simp only [spec_Uint.l0] at H
      by_cases c4 : x0_1 > 255
      · rw [if_pos c4] at H
        have c4b0 : decide (255 < x0_1) = true := decide_eq_true c4
        clear c4
        obtain ⟨y156, hy156⟩ : ∃ y_ : List Int, y_ = (([(x0_1 / 256) % 256] : List Int)) := ⟨_, rfl⟩
        replace H : (if y156.length + x3_1.length < 140737488355328 then (spec_Uint.l0 k1 (x0_1 / 256) (y156 ++ x3_1)) else (none)) = some r := by first | (rw [hy156]; with_reducible exact H) | (have H2_ := (Option.bind_some _ _).symm.trans H; rw [hy156]; with_reducible exact H2_) | (have H2_ := (Option.bind_some _ _).symm.trans H; with_reducible exact H2_) | with_reducible exact H | (rw [hy156]; exact H) | exact H
        have Ny156 := Aside0.mk hy156
        clear hy156
        by_cases c5 : y156.length + x3_1.length < 140737488355328
        · rw [if_pos c5] at H
          have LMc5 := Aside0.mk c5
          clear c5
          obtain ⟨y159, hy159⟩ : ∃ y_ : List Int, y_ = (y156 ++ x3_1) := ⟨_, rfl⟩
          replace H : (spec_Uint.l0 k1 (x0_1 / 256) y159) = some r := by first | (rw [hy159]; with_reducible exact H) | (have H2_ := (Option.bind_some _ _).symm.trans H; rw [hy159]; with_reducible exact H2_) | (have H2_ := (Option.bind_some _ _).symm.trans H; with_reducible exact H2_) | with_reducible exact H | (rw [hy159]; exact H) | exact H
          have Ny159 := Aside0.mk hy159
          clear hy159
          have H' := Aside0.mk H
          clear H
          go_wp2_with (first | ((with_reducible refine gate_dst (N := 13) rfl ?_); refine Kd.R_lit (Kd.int .u8) _ 5 ?hg (N := 13) ?hd (xs := ([(x0_1 / 256) % 256] : List Int)) (inner := [.int .u8 ((x0_1 / 256) % 256)]) (ok := fun _ => True) (okp := fun _ => True) ?hr ?hp (fun _ hk => hk) trivial (Below.refl _ _) (Nat.le_refl _) (by simp) ?_; (case hd => rfl); (case hg => rfl); (case hr => first | (go_simp; done) | (go_simp; rfl)); (case hp => exact (Reps.one (show Kd.M (Kd.int .u8) _ _ _ ((x0_1 / 256) % 256) [.int .u8 ((x0_1 / 256) % 256)] from rfl) (Reps.none _ _))); intro v157 w6 ho7 hb hg_ hnew_; clear hg_ hnew_; (first | rw [← Ny156.out] at ho7 | (simp only [Int.reduceToNat] at ho7; rw [← Ny156.out] at ho7)); have n0_ := Aside0.mk (Kd.R_elder' (by (with_reducible repeat (first | apply Kd.R_alloc | apply Kd.R_drewN | apply Kd.R_drew)); exact HO_3.out) (Kd.R_base ho7) hb); have n1_ := Aside0.mk (Kd.R_lower (Kd.R_new' ho7 (Kd.R_lt (by (with_reducible repeat (first | apply Kd.R_alloc | apply Kd.R_drewN | apply Kd.R_drew)); exact HO_3.out))) (below_size (by repeat (first | (with_reducible first | exact HB.out | apply below_alloc | apply pw_below_drewN | apply below_drew1) | exact HB.out)))); have n2_ := Aside0.mk (below_step (by repeat (first | (with_reducible first | exact HB.out | apply below_alloc | apply pw_below_drewN | apply below_drew1) | exact HB.out)) hb); clear HO_3; clear HB; have HO_3 := n0_; have HO158 := n1_; have HB := n2_; clear n0_ n1_ n2_; clear hb ho7; obtain ⟨Ao9, co9, eo9⟩ := Kd.R_slice HO_3.out; subst eo9) | ((with_reducible refine gate_builtin (b := .append) (xs := #[.tmp 13, .tmp 14]) rfl ?_); at_builtin; refine Kd.R_append_rows (Kd.int .u8) (w0 := w) w.heap.size rfl (.tmp 13) (.tmp 14) 26 5 (.int .u8 0) 1 rfl Tryd.underlying26 info5 rfl (by decide) (by omega) v157 y156 x3_1 _ _ _ (fun k_ => some k_ ≠ (.slice Ao9 x3_1.length co9 : Value).ownBlock) (fun _ => False) rfl rfl ?aO ?aR (fun _ _ h => h) (fun _ h => h.elim) ?aF ?aB ?aS ?aL ?_; (case aR => repeat (first | exact (Kd.R_reads' HO_3.out).2.2 | (with_reducible refine Kd.C_alloc ?_ _) | (with_reducible refine Kd.C_drewN ?_ _) | (with_reducible refine Kd.C_drew ?_))); (case aB => exact (by repeat (first | (with_reducible first | exact HB.out | apply below_alloc | apply pw_below_drewN | apply below_drew1) | exact HB.out))); (case aF => exact (fun k_ hk => Kd.fresh' (Kd.R_lt (by (with_reducible repeat (first | apply Kd.R_alloc | apply Kd.R_drewN | apply Kd.R_drew)); exact HO_3.out)) k_ hk)); (case aO => exact (by (with_reducible repeat (first | apply Kd.R_alloc | apply Kd.R_drewN | apply Kd.R_drew)); exact Kd.R_mono HO158.out (fun _ hk => hk.2))); (case aS => exact (below_size (by repeat (first | (with_reducible first | exact HB.out | apply below_alloc | apply pw_below_drewN | apply below_drew1) | exact HB.out)))); (case aL => have := LMc5.out; omega); intro v160 w8 ho hb hg hat; rw [← Ny159.out] at ho; have n0_ := Aside0.mk (Kd.R_after (ok := (fun _ => True)) (by (with_reducible repeat (first | apply Kd.R_alloc | apply Kd.R_drewN | apply Kd.R_drew)); exact HO_3.out) hg hat); have n1_ := Aside0.mk (hb); have n2_ := Aside0.mk (ho); clear HO_3; clear HB; clear HO158; have HO_3 := n0_; have HB := n1_; have HO161 := n2_; clear n0_ n1_ n2_; clear ho hb hg hat))
          go_roundg k1
          case measure => have := HK1.out; omega
          case rel => exact ⟨(x0_1 / 256), (y159), (by first | rfl | (simp; done) | (simp [*]; done)), H', ⟨by have := HK1.out; omega⟩, ⟨by (with_reducible repeat (first | apply Kd.R_alloc | apply Kd.R_drewN | apply Kd.R_drew)); exact Kd.R_mono HO161.out (fun _ hk => trivial)⟩, ⟨by repeat (first | (with_reducible first | exact HB.out | apply below_alloc | apply pw_below_drewN | apply below_drew1) | exact HB.out)⟩⟩
        · rw [if_neg c5] at H
          exact absurd H (by simp)
      · rw [if_neg c4] at H
        have c4b0 : decide (255 < x0_1) = false := decide_eq_false c4
        clear c4
        by_cases c10 : 0 < (x3_1.length : Int)
        · rw [if_pos c10] at H
          have c10b0 : decide (0 < (x3_1.length : Int)) = true := decide_eq_true c10
          have c10b1 : decide (0 < x3_1.length) = true := decide_eq_true (by omega)
          clear c10
          by_cases c11 : (rd x3_1 0) > 127
          · rw [if_pos c11] at H
            have c11b0 : decide (127 < (rd x3_1 0)) = true := decide_eq_true c11
            clear c11
            obtain ⟨y163, hy163⟩ : ∃ y_ : List Int, y_ = (([0] : List Int)) := ⟨_, rfl⟩
            replace H : (if y163.length + x3_1.length < 140737488355328 then (some (y163 ++ x3_1)) else (none)) = some r := by first | (rw [hy163]; with_reducible exact H) | (have H2_ := (Option.bind_some _ _).symm.trans H; rw [hy163]; with_reducible exact H2_) | (have H2_ := (Option.bind_some _ _).symm.trans H; with_reducible exact H2_) | with_reducible exact H | (rw [hy163]; exact H) | exact H
            have Ny163 := Aside0.mk hy163
            clear hy163
            by_cases c12 : y163.length + x3_1.length < 140737488355328
            · rw [if_pos c12] at H
              have LMc12 := Aside0.mk c12
              clear c12
              obtain ⟨y166, hy166⟩ : ∃ y_ : List Int, y_ = (y163 ++ x3_1) := ⟨_, rfl⟩
              replace H : (some y166) = some r := by first | (rw [hy166]; with_reducible exact H) | (have H2_ := (Option.bind_some _ _).symm.trans H; rw [hy166]; with_reducible exact H2_) | (have H2_ := (Option.bind_some _ _).symm.trans H; with_reducible exact H2_) | with_reducible exact H | (rw [hy166]; exact H) | exact H
              have Ny166 := Aside0.mk hy166
              clear hy166
              obtain rfl := Option.some.inj H
              obtain ⟨Ao13, co13, eo13⟩ := Kd.R_slice HO_3.out
              subst eo13
              have p162 : 0 ≤ (0 : Int) := (by omega)
              have q162 : 0 < (x3_1.length : Int) := of_decide_eq_true (by first | (with_reducible assumption) | assumption)
              obtain ⟨ad162, e162, hx162_0⟩ := Kd.at_int (Kd.R_reads' HO_3.out).2.2 0 p162 q162
              cases e162
              have qi162 : (0 < x3_1.length) = True := eq_true (by omega)
              (try rw [show ((0 : Int)).toNat = 0 from rfl] at hx162_0)
              (try rw [Addr.add_zero'] at hx162_0)
              replace p162 := eq_true p162
              replace q162 := eq_true q162
              go_wp2_with (first | ((with_reducible refine gate_dst (N := 20) rfl ?_); refine Kd.R_lit (Kd.int .u8) _ 5 ?hg (N := 20) ?hd (xs := ([0] : List Int)) (inner := [.int .u8 0]) (ok := fun _ => True) (okp := fun _ => True) ?hr ?hp (fun _ hk => hk) trivial (Below.refl _ _) (Nat.le_refl _) (by simp) ?_; (case hd => rfl); (case hg => rfl); (case hr => first | (go_simp; done) | (go_simp; rfl)); (case hp => exact (Reps.one (show Kd.M (Kd.int .u8) _ _ _ 0 [.int .u8 0] from rfl) (Reps.none _ _))); intro v164 w14 ho15 hb hg_ hnew_; clear hg_ hnew_; (first | rw [← Ny163.out] at ho15 | (simp only [Int.reduceToNat] at ho15; rw [← Ny163.out] at ho15)); have n0_ := Aside0.mk (Kd.R_elder' (by (with_reducible repeat (first | apply Kd.R_alloc | apply Kd.R_drewN | apply Kd.R_drew)); exact HO_3.out) (Kd.R_base ho15) hb); have n1_ := Aside0.mk (Kd.R_lower (Kd.R_new' ho15 (Kd.R_lt (by (with_reducible repeat (first | apply Kd.R_alloc | apply Kd.R_drewN | apply Kd.R_drew)); exact HO_3.out))) (below_size (by repeat (first | (with_reducible first | exact HB.out | apply below_alloc | apply pw_below_drewN | apply below_drew1) | exact HB.out)))); have n2_ := Aside0.mk (below_step (by repeat (first | (with_reducible first | exact HB.out | apply below_alloc | apply pw_below_drewN | apply below_drew1) | exact HB.out)) hb); clear HO_3; clear HB; have HO_3 := n0_; have HO165 := n1_; have HB := n2_; clear n0_ n1_ n2_; clear hb ho15) | ((with_reducible refine gate_builtin (b := .append) (xs := #[.tmp 20, .tmp 21]) rfl ?_); at_builtin; refine Kd.R_append_rows (Kd.int .u8) (w0 := w) w.heap.size rfl (.tmp 20) (.tmp 21) 26 5 (.int .u8 0) 1 rfl Tryd.underlying26 info5 rfl (by decide) (by omega) v164 y163 x3_1 _ _ _ (fun k_ => some k_ ≠ (.slice (some ad162) x3_1.length co13 : Value).ownBlock) (fun _ => False) rfl rfl ?aO ?aR (fun _ _ h => h) (fun _ h => h.elim) ?aF ?aB ?aS ?aL ?_; (case aR => repeat (first | exact (Kd.R_reads' HO_3.out).2.2 | (with_reducible refine Kd.C_alloc ?_ _) | (with_reducible refine Kd.C_drewN ?_ _) | (with_reducible refine Kd.C_drew ?_))); (case aB => exact (by repeat (first | (with_reducible first | exact HB.out | apply below_alloc | apply pw_below_drewN | apply below_drew1) | exact HB.out))); (case aF => exact (fun k_ hk => Kd.fresh' (Kd.R_lt (by (with_reducible repeat (first | apply Kd.R_alloc | apply Kd.R_drewN | apply Kd.R_drew)); exact HO_3.out)) k_ hk)); (case aO => exact (by (with_reducible repeat (first | apply Kd.R_alloc | apply Kd.R_drewN | apply Kd.R_drew)); exact Kd.R_mono HO165.out (fun _ hk => hk.2))); (case aS => exact (below_size (by repeat (first | (with_reducible first | exact HB.out | apply below_alloc | apply pw_below_drewN | apply below_drew1) | exact HB.out)))); (case aL => have := LMc12.out; omega); intro v167 w16 ho hb hg hat; rw [← Ny166.out] at ho; have n0_ := Aside0.mk (Kd.R_after (ok := (fun _ => True)) (by (with_reducible repeat (first | apply Kd.R_alloc | apply Kd.R_drewN | apply Kd.R_drew)); exact HO_3.out) hg hat); have n1_ := Aside0.mk (hb); have n2_ := Aside0.mk (ho); clear HO_3; clear HB; clear HO165; have HO_3 := n0_; have HB := n1_; have HO168 := n2_; clear n0_ n1_ n2_; clear ho hb hg hat))
              go_ret
              exact ⟨_, by first | rfl | (simp [errW_none, errW_some] <;> rfl) | (simp [*, errW_none, errW_some] <;> rfl), by (with_reducible repeat (first | apply Kd.R_alloc | apply Kd.R_drewN | apply Kd.R_drew)); exact Kd.R_mono HO168.out (fun _ hk => trivial), by repeat (first | (with_reducible first | exact HB.out | apply below_alloc | apply pw_below_drewN | apply below_drew1) | exact HB.out)⟩
            · rw [if_neg c12] at H
              exact absurd H (by simp)
          · rw [if_neg c11] at H
            have c11b0 : decide (127 < (rd x3_1 0)) = false := decide_eq_false c11
            clear c11
            obtain rfl := Option.some.inj H
            obtain ⟨Ao17, co17, eo17⟩ := Kd.R_slice HO_3.out
            subst eo17
            have p162 : 0 ≤ (0 : Int) := (by omega)
            have q162 : 0 < (x3_1.length : Int) := of_decide_eq_true (by first | (with_reducible assumption) | assumption)
            obtain ⟨ad162, e162, hx162_0⟩ := Kd.at_int (Kd.R_reads' HO_3.out).2.2 0 p162 q162
            cases e162
            have qi162 : (0 < x3_1.length) = True := eq_true (by omega)
            (try rw [show ((0 : Int)).toNat = 0 from rfl] at hx162_0)
            (try rw [Addr.add_zero'] at hx162_0)
            replace p162 := eq_true p162
            replace q162 := eq_true q162
            go_wp2
            go_ret
            exact ⟨_, by first | rfl | (simp [errW_none, errW_some] <;> rfl) | (simp [*, errW_none, errW_some] <;> rfl), by (with_reducible repeat (first | apply Kd.R_alloc | apply Kd.R_drewN | apply Kd.R_drew)); exact HO_3.out, by repeat (first | (with_reducible first | exact HB.out | apply below_alloc | apply pw_below_drewN | apply below_drew1) | exact HB.out)⟩
        · rw [if_neg c10] at H
          exact absurd H (by simp)
end Go.Proofs.YtangjgclpipjdaaDoor.PFnValue
