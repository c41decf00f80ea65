/- The lemmas and walks that FnEncode rests on, part 3: PFnValuex4 PFnValuex6 PFnEncodex0 PFnEncodex7. -/
import Derived.Test.YtangjgclpipjdaaDoorProg
import Derived.Below
import Derived.Deep.Draws
import Derived.Deep.AppendLies
import Derived.Maps.AppendAt
import Derived.OwnWalk
import Derived.Laws.BytesArg
import Derived.Laws.MakeOwn
import Derived.Laws.OwnMore
import Derived.Deep.OwnRows
import Derived.Tactics
import Derived.Lib.ConvBytes
import Derived.Laws.Slices
import Derived.WalkKit
import Derived.KernelRfl
import Derived.RowKit3
import Derived.Deep.LoopGhost
import Derived.Deep.QuietTactic
import Derived.BigQuiet
import Derived.WideLaws
import Derived.Deep.DeepCutAuto
import Derived.Deep.CutBlock
import Derived.Deep.RegionHeld3
import Derived.Laws.Rows
import Derived.Lib.AppendStr
import Derived.ArgAppend
import Derived.Laws.IdiomCopy
import Derived.OrdersHeld
import Derived.Laws.BitsLemmas
import Derived.RowKit
import Derived.Laws.StructEq
import Derived.Test.YtangjgclpipjdaaDoorQE1
import Derived.Test.YtangjgclpipjdaaDoorQE2
namespace Go.Proofs.YtangjgclpipjdaaDoor.PFnValue
open Go.RowKit Go.Proofs.YtangjgclpipjdaaDoorW.PrintWords Go.Proofs.YtangjgclpipjdaaDoorW.PrintLast Go.Proofs.YtangjgclpipjdaaDoorW.PrintMore
attribute [local go_sem] max2_int min2_int max_two min_two max_three min_three max_four min_four   -- for this text's walks alone
set_option linter.unusedVariables false
set_option linter.unusedSimpArgs false
mutual
def spec_Length.j0 : Nat → Int → Int → Bool → Option (List Int)
  | 0, _, _, _ => none
  | k + 1, x0, x1, x11 => if x11 = true then (some (([(x0) % 256] : List Int))) else (spec_Length.l0 k x0 x1 (([] : List Int)))
def spec_Length.l0 : Nat → Int → Int → List Int → Option (List Int)
  | 0, _, _, _ => none
  | k + 1, x0, x1, x5 => if x0 > 0 then ((some (([(x0) % 256] : List Int) : List Int)).bind fun y179 => (if y179.length + x5.length < 140737488355328 then (spec_Length.l0 k (x0 / 256) x1 (y179 ++ x5)) else (none))) else (spec_Length.l1 k x5 x1 0)
def spec_Length.l1 : Nat → List Int → Int → Int → Option (List Int)
  | 0, _, _, _ => none
  | k + 1, x5, x25, x26 => if x26 < x25 then ((some (([0] : List Int) : List Int)).bind fun y185 => (if y185.length + x5.length < 140737488355328 then (spec_Length.l1 k (y185 ++ x5) x25 (wrap64 (x26 + 1))) else (none))) else ((some (([(wrap64 (128 + (x5.length : Int))) % 256] : List Int) : List Int)).bind fun y191 => (if y191.length + x5.length < 140737488355328 then (some (y191 ++ x5)) else (none)))
end
def spec_Length.f (k : Nat) (a0 : Int) (a1 : Int) : Option (List Int) := if a0 < 128 then (spec_Length.j0 k a0 a1 (a1 == 0)) else (spec_Length.j0 k a0 a1 false)
theorem spec_Length.mono_l : ∀ k, (∀ y0 y1 y2, LeO (spec_Length.j0 k y0 y1 y2) (spec_Length.j0 (k + 1) y0 y1 y2)) ∧ (∀ y0 y1 y2, LeO (spec_Length.l0 k y0 y1 y2) (spec_Length.l0 (k + 1) y0 y1 y2)) ∧ (∀ y0 y1 y2, LeO (spec_Length.l1 k y0 y1 y2) (spec_Length.l1 (k + 1) y0 y1 y2))
  | 0 => ⟨fun _ _ _ r h => by simp [spec_Length.j0] at h, fun _ _ _ r h => by simp [spec_Length.l0] at h, fun _ _ _ r h => by simp [spec_Length.l1] at h⟩
  | k + 1 => by
    obtain ⟨ih0, ih1, ih2⟩ := spec_Length.mono_l k
    refine ⟨?_, ?_, ?_⟩
    · intro y0 y1 y2
      unfold spec_Length.j0
      repeat' first
      | (with_reducible exact ih0 _ _ _)
      | (with_reducible exact ih1 _ _ _)
      | (with_reducible exact ih2 _ _ _)
      | (with_reducible exact LeO.refl _)
      | (with_reducible exact LeO.none _)
      | (with_reducible refine LeO.ite ?_ ?_)
      | (with_reducible refine LeO.bind ?_ (fun _ => ?_))
      | exact ih0 _ _ _
      | exact ih1 _ _ _
      | exact ih2 _ _ _
      | exact LeO.none _
      | refine LeO.ite ?_ ?_
      | refine LeO.bind ?_ (fun _ => ?_)
    · intro y0 y1 y2
      unfold spec_Length.l0
      repeat' first
      | (with_reducible exact ih0 _ _ _)
      | (with_reducible exact ih1 _ _ _)
      | (with_reducible exact ih2 _ _ _)
      | (with_reducible exact LeO.refl _)
      | (with_reducible exact LeO.none _)
      | (with_reducible refine LeO.ite ?_ ?_)
      | (with_reducible refine LeO.bind ?_ (fun _ => ?_))
      | exact ih0 _ _ _
      | exact ih1 _ _ _
      | exact ih2 _ _ _
      | exact LeO.none _
      | refine LeO.ite ?_ ?_
      | refine LeO.bind ?_ (fun _ => ?_)
    · intro y0 y1 y2
      unfold spec_Length.l1
      repeat' first
      | (with_reducible exact ih0 _ _ _)
      | (with_reducible exact ih1 _ _ _)
      | (with_reducible exact ih2 _ _ _)
      | (with_reducible exact LeO.refl _)
      | (with_reducible exact LeO.none _)
      | (with_reducible refine LeO.ite ?_ ?_)
      | (with_reducible refine LeO.bind ?_ (fun _ => ?_))
      | exact ih0 _ _ _
      | exact ih1 _ _ _
      | exact ih2 _ _ _
      | exact LeO.none _
      | refine LeO.ite ?_ ?_
      | refine LeO.bind ?_ (fun _ => ?_)
theorem spec_Length.mono : ∀ a0 a1 k, LeO (spec_Length.f k a0 a1) (spec_Length.f (k + 1) a0 a1) := by
  intro a0 a1 k
  obtain ⟨ih0, ih1, ih2⟩ := spec_Length.mono_l k
  unfold spec_Length.f
  repeat' first
      | (with_reducible exact ih0 _ _ _)
      | (with_reducible exact ih1 _ _ _)
      | (with_reducible exact ih2 _ _ _)
      | (with_reducible exact LeO.refl _)
      | (with_reducible exact LeO.none _)
      | (with_reducible refine LeO.ite ?_ ?_)
      | (with_reducible refine LeO.bind ?_ (fun _ => ?_))
      | exact ih0 _ _ _
      | exact ih1 _ _ _
      | exact ih2 _ _ _
      | exact LeO.none _
      | refine LeO.ite ?_ ?_
      | refine LeO.bind ?_ (fun _ => ?_)
set_option maxHeartbeats 8000000 in
set_option maxRecDepth 100000 in
theorem spec_Length.calls (k : Nat) (a0 : Int) (a1 : Int) (r : List Int) (w : World) (h : spec_Length.f k a0 a1 = some r) :
    Calls Tryd.prog 47 #[.int .i64 a0, .int .i64 a1] w fun e w' => ∃ v0_ : Value, e = .returned (v0_) ∧ Kd.R (Kd.int .u8) 5 w' w.heap.size (fun _ => True) v0_ r ∧ Below w.heap.size w w' := by
  have HB := Aside0.mk (Below.refl w.heap.size w)
  have H : (if a0 < 128 then (spec_Length.j0 k a0 a1 (a1 == 0)) else (spec_Length.j0 k a0 a1 false)) = some r := h
  clear h
  have HC3 := Aside0.mk H
  clear H
  go_enter Tryd.func47, Tryd.ntmps47
  go_upto_region 1 with (fail)
  go_cut [11] (fun v11 wc => ∃ (kq : Nat) (x11_2 : Bool), v11 = .bool x11_2 ∧ Aside0 (spec_Length.j0 kq a0 a1 x11_2 = some r) ∧ Aside0 (kq ≤ k) ∧ Aside0 (Below w.heap.size w wc))
  case first =>
    have H := HC3.out
    clear HC3
    by_cases c4 : a0 < 128
    · rw [if_pos c4] at H
      have c4b0 : decide (a0 < 128) = true := decide_eq_true c4
      clear c4
      (first | rw [c4b0] | (simp only [i64_w, i32_w]; rw [c4b0]) | skip)
      have H' := Aside0.mk H
      clear H
      go_wp2
      go_meet
      case rel => exact ⟨_, ((a1 == 0)), (by first | rfl | (simp; done) | (simp [*]; done)), H', ⟨by first | omega | exact Nat.le_refl _⟩, ⟨by repeat (first | (with_reducible first | exact HB.out | apply below_alloc | apply pw_below_drewN | apply below_drew1) | exact HB.out)⟩⟩
    · rw [if_neg c4] at H
      have c4b0 : decide (a0 < 128) = false := decide_eq_false c4
      clear c4
      (first | rw [c4b0] | (simp only [i64_w, i32_w]; rw [c4b0]) | skip)
      have H' := Aside0.mk H
      clear H
      go_wp2
      go_meet
      case rel => exact ⟨_, (false), (by first | rfl | (simp; done) | (simp [*]; done)), H', ⟨by first | omega | exact Nat.le_refl _⟩, ⟨by repeat (first | (with_reducible first | exact HB.out | apply below_alloc | apply pw_below_drewN | apply below_drew1) | exact HB.out)⟩⟩
  case rest =>
    clear HC3
    try clear p2
    try clear c4
    try clear c4b0
    obtain ⟨kq, x11_2, rfl, HA, HJ2, HB⟩ := hcut
    cases kq with
    | zero => exact absurd HA.out (by simp [spec_Length.j0])
    | succ kj2 =>
      have H := HA.out
      clear HA
      simp only [spec_Length.j0] at H
      by_cases c5 : x11_2 = true
      · subst c5
        have H1 : (some (([(a0) % 256] : List Int))) = some r := by rw [if_pos rfl] at H; exact H
        clear H
        have H := H1
        clear H1
        obtain ⟨y173, hy173⟩ : ∃ y_ : List Int, y_ = (([(a0) % 256] : List Int)) := ⟨_, rfl⟩
        replace H : (some y173) = some r := by first | (rw [hy173]; with_reducible exact H) | (have H2_ := (Option.bind_some _ _).symm.trans H; rw [hy173]; with_reducible exact H2_) | (have H2_ := (Option.bind_some _ _).symm.trans H; with_reducible exact H2_) | with_reducible exact H | (rw [hy173]; exact H) | exact H
        have Ny173 := Aside0.mk hy173
        clear hy173
        obtain rfl := Option.some.inj H
        go_wp2_with (first | ((with_reducible refine gate_dst (N := 14) rfl ?_); refine Kd.R_lit (Kd.int .u8) _ 5 ?hg (N := 14) ?hd (xs := ([(a0) % 256] : List Int)) (inner := [.int .u8 ((a0) % 256)]) (ok := fun _ => True) (okp := fun _ => True) ?hr ?hp (fun _ hk => hk) trivial (Below.refl _ _) (Nat.le_refl _) (by simp) ?_; (case hd => rfl); (case hg => rfl); (case hr => first | (go_simp; done) | (go_simp; rfl)); (case hp => exact (Reps.one (show Kd.M (Kd.int .u8) _ _ _ ((a0) % 256) [.int .u8 ((a0) % 256)] from rfl) (Reps.none _ _))); intro v174 w6 ho7 hb hg_ hnew_; clear hg_ hnew_; (first | rw [← Ny173.out] at ho7 | (simp only [Int.reduceToNat] at ho7; rw [← Ny173.out] at ho7)); have n0_ := Aside0.mk (Kd.R_lower ho7 (below_size (by repeat (first | (with_reducible first | exact HB.out | apply below_alloc | apply pw_below_drewN | apply below_drew1) | exact HB.out)))); have n1_ := Aside0.mk (below_step (by repeat (first | (with_reducible first | exact HB.out | apply below_alloc | apply pw_below_drewN | apply below_drew1) | exact HB.out)) hb); clear HB; have HO175 := n0_; have HB := n1_; clear n0_ n1_; clear hb ho7))
        go_ret
        exact ⟨_, by first | rfl | (simp [errW_none, errW_some] <;> rfl) | (simp [*, errW_none, errW_some] <;> rfl), by (with_reducible repeat (first | apply Kd.R_alloc | apply Kd.R_drewN | apply Kd.R_drew)); exact HO175.out, by repeat (first | (with_reducible first | exact HB.out | apply below_alloc | apply pw_below_drewN | apply below_drew1) | exact HB.out)⟩
      · replace c5 := Bool.eq_false_iff.mpr c5
        subst c5
        have H1 : (spec_Length.l0 kj2 a0 a1 (([] : List Int))) = some r := by rw [if_neg (show ¬ (false = true) by decide)] at H; exact H
        clear H
        have H := H1
        clear H1
        obtain ⟨y176, hy176⟩ : ∃ y_ : List Int, y_ = (([] : List Int)) := ⟨_, rfl⟩
        replace H : (spec_Length.l0 kj2 a0 a1 y176) = some r := by first | (rw [hy176]; with_reducible exact H) | (have H2_ := (Option.bind_some _ _).symm.trans H; rw [hy176]; with_reducible exact H2_) | (have H2_ := (Option.bind_some _ _).symm.trans H; with_reducible exact H2_) | with_reducible exact H | (rw [hy176]; exact H) | exact H
        have Ny176 := Aside0.mk hy176
        clear hy176
        have H' := Aside0.mk H
        clear H
        go_wp2_with (first | ((with_reducible refine gate_dst (N := 15) rfl ?_); refine Kd.R_lit (Kd.int .u8) _ 5 ?hg (N := 15) ?hd (xs := ([] : List Int)) (inner := []) (ok := fun _ => True) (okp := fun _ => True) ?hr ?hp (fun _ hk => hk) trivial (Below.refl _ _) (Nat.le_refl _) (by simp) ?_; (case hd => rfl); (case hg => rfl); (case hr => first | (go_simp; done) | (go_simp; rfl)); (case hp => exact (Reps.none _ _)); intro v177 w8 ho9 hb hg_ hnew_; clear hg_ hnew_; (first | rw [← Ny176.out] at ho9 | (simp only [Int.reduceToNat] at ho9; rw [← Ny176.out] at ho9)); have n0_ := Aside0.mk (Kd.R_lower ho9 (below_size (by repeat (first | (with_reducible first | exact HB.out | apply below_alloc | apply pw_below_drewN | apply below_drew1) | exact HB.out)))); have n1_ := Aside0.mk (below_step (by repeat (first | (with_reducible first | exact HB.out | apply below_alloc | apply pw_below_drewN | apply below_drew1) | exact HB.out)) hb); clear HB; have HO178 := n0_; have HB := n1_; clear n0_ n1_; clear hb ho9))
        go_loopg [0, 5] kj2 (fun kq v0 v5 w' => ∃ (x0_2 : Int) (x5_2 : List Int), v0 = .int .i64 x0_2 ∧ Aside0 (spec_Length.l0 kq x0_2 a1 x5_2 = some r) ∧ Aside0 (kq ≤ kj2) ∧ Aside0 (Kd.R (Kd.int .u8) 5 w' w.heap.size (fun _ => True) v5 x5_2) ∧ Aside0 (Below w.heap.size w w'))
        case atStart => exact ⟨(a0), (y176), (by first | rfl | (simp; done) | (simp [*]; done)), H', ⟨Nat.le_refl _⟩, ⟨by (with_reducible repeat (first | apply Kd.R_alloc | apply Kd.R_drewN | apply Kd.R_drew)); exact HO178.out⟩, ⟨by repeat (first | (with_reducible first | exact HB.out | apply below_alloc | apply pw_below_drewN | apply below_drew1) | exact HB.out)⟩⟩
        case round =>
          clear H'
          try clear p2
          try clear c4
          try clear c4b0
          try clear c5
          try clear p2
          obtain ⟨x0_2, x5_2, rfl, HA, HK2, HO_5, HB⟩ := hrel
          cases gk with
          | zero => exact absurd HA.out (by simp [spec_Length.l0])
          | succ k2 =>
            have H := HA.out
            clear HA
            simp only [spec_Length.l0] at H
            by_cases c10 : x0_2 > 0
            · rw [if_pos c10] at H
              have c10b0 : decide (0 < x0_2) = true := decide_eq_true c10
              clear c10
              obtain ⟨y179, hy179⟩ : ∃ y_ : List Int, y_ = (([(x0_2) % 256] : List Int)) := ⟨_, rfl⟩
              replace H : (if y179.length + x5_2.length < 140737488355328 then (spec_Length.l0 k2 (x0_2 / 256) a1 (y179 ++ x5_2)) else (none)) = some r := by first | (rw [hy179]; with_reducible exact H) | (have H2_ := (Option.bind_some _ _).symm.trans H; rw [hy179]; with_reducible exact H2_) | (have H2_ := (Option.bind_some _ _).symm.trans H; with_reducible exact H2_) | with_reducible exact H | (rw [hy179]; exact H) | exact H
              have Ny179 := Aside0.mk hy179
              clear hy179
              by_cases c11 : y179.length + x5_2.length < 140737488355328
              · rw [if_pos c11] at H
                have LMc11 := Aside0.mk c11
                clear c11
                obtain ⟨y182, hy182⟩ : ∃ y_ : List Int, y_ = (y179 ++ x5_2) := ⟨_, rfl⟩
                replace H : (spec_Length.l0 k2 (x0_2 / 256) a1 y182) = some r := by first | (rw [hy182]; with_reducible exact H) | (have H2_ := (Option.bind_some _ _).symm.trans H; rw [hy182]; with_reducible exact H2_) | (have H2_ := (Option.bind_some _ _).symm.trans H; with_reducible exact H2_) | with_reducible exact H | (rw [hy182]; exact H) | exact H
                have Ny182 := Aside0.mk hy182
                clear hy182
                have H' := Aside0.mk H
                clear H
                go_wp2_with (first | ((with_reducible refine gate_dst (N := 20) rfl ?_); refine Kd.R_lit (Kd.int .u8) _ 5 ?hg (N := 20) ?hd (xs := ([(x0_2) % 256] : List Int)) (inner := [.int .u8 ((x0_2) % 256)]) (ok := fun _ => True) (okp := fun _ => True) ?hr ?hp (fun _ hk => hk) trivial (Below.refl _ _) (Nat.le_refl _) (by simp) ?_; (case hd => rfl); (case hg => rfl); (case hr => first | (go_simp; done) | (go_simp; rfl)); (case hp => exact (Reps.one (show Kd.M (Kd.int .u8) _ _ _ ((x0_2) % 256) [.int .u8 ((x0_2) % 256)] from rfl) (Reps.none _ _))); intro v180 w12 ho13 hb hg_ hnew_; clear hg_ hnew_; (first | rw [← Ny179.out] at ho13 | (simp only [Int.reduceToNat] at ho13; rw [← Ny179.out] at ho13)); have n0_ := Aside0.mk (Kd.R_elder' (by (with_reducible repeat (first | apply Kd.R_alloc | apply Kd.R_drewN | apply Kd.R_drew)); exact HO_5.out) (Kd.R_base ho13) hb); have n1_ := Aside0.mk (Kd.R_lower (Kd.R_new' ho13 (Kd.R_lt (by (with_reducible repeat (first | apply Kd.R_alloc | apply Kd.R_drewN | apply Kd.R_drew)); exact HO_5.out))) (below_size (by repeat (first | (with_reducible first | exact HB.out | apply below_alloc | apply pw_below_drewN | apply below_drew1) | exact HB.out)))); have n2_ := Aside0.mk (below_step (by repeat (first | (with_reducible first | exact HB.out | apply below_alloc | apply pw_below_drewN | apply below_drew1) | exact HB.out)) hb); clear HO_5; clear HB; have HO_5 := n0_; have HO181 := n1_; have HB := n2_; clear n0_ n1_ n2_; clear hb ho13; obtain ⟨Ao15, co15, eo15⟩ := Kd.R_slice HO_5.out; subst eo15) | ((with_reducible refine gate_builtin (b := .append) (xs := #[.tmp 20, .tmp 21]) rfl ?_); at_builtin; refine Kd.R_append_rows (Kd.int .u8) (w0 := w) w.heap.size rfl (.tmp 20) (.tmp 21) 26 5 (.int .u8 0) 1 rfl Tryd.underlying26 info5 rfl (by decide) (by omega) v180 y179 x5_2 _ _ _ (fun k_ => some k_ ≠ (.slice Ao15 x5_2.length co15 : Value).ownBlock) (fun _ => False) rfl rfl ?aO ?aR (fun _ _ h => h) (fun _ h => h.elim) ?aF ?aB ?aS ?aL ?_; (case aR => repeat (first | exact (Kd.R_reads' HO_5.out).2.2 | (with_reducible refine Kd.C_alloc ?_ _) | (with_reducible refine Kd.C_drewN ?_ _) | (with_reducible refine Kd.C_drew ?_))); (case aB => exact (by repeat (first | (with_reducible first | exact HB.out | apply below_alloc | apply pw_below_drewN | apply below_drew1) | exact HB.out))); (case aF => exact (fun k_ hk => Kd.fresh' (Kd.R_lt (by (with_reducible repeat (first | apply Kd.R_alloc | apply Kd.R_drewN | apply Kd.R_drew)); exact HO_5.out)) k_ hk)); (case aO => exact (by (with_reducible repeat (first | apply Kd.R_alloc | apply Kd.R_drewN | apply Kd.R_drew)); exact Kd.R_mono HO181.out (fun _ hk => hk.2))); (case aS => exact (below_size (by repeat (first | (with_reducible first | exact HB.out | apply below_alloc | apply pw_below_drewN | apply below_drew1) | exact HB.out)))); (case aL => have := LMc11.out; omega); intro v183 w14 ho hb hg hat; rw [← Ny182.out] at ho; have n0_ := Aside0.mk (Kd.R_after (ok := (fun _ => True)) (by (with_reducible repeat (first | apply Kd.R_alloc | apply Kd.R_drewN | apply Kd.R_drew)); exact HO_5.out) hg hat); have n1_ := Aside0.mk (hb); have n2_ := Aside0.mk (ho); clear HO_5; clear HB; clear HO181; have HO_5 := n0_; have HB := n1_; have HO184 := n2_; clear n0_ n1_ n2_; clear ho hb hg hat))
                go_roundg k2
                case measure => have := HJ2.out; have := HK2.out; omega
                case rel => exact ⟨(x0_2 / 256), (y182), (by first | rfl | (simp; done) | (simp [*]; done)), H', ⟨by have := HJ2.out; have := HK2.out; omega⟩, ⟨by (with_reducible repeat (first | apply Kd.R_alloc | apply Kd.R_drewN | apply Kd.R_drew)); exact Kd.R_mono HO184.out (fun _ hk => trivial)⟩, ⟨by repeat (first | (with_reducible first | exact HB.out | apply below_alloc | apply pw_below_drewN | apply below_drew1) | exact HB.out)⟩⟩
              · rw [if_neg c11] at H
                exact absurd H (by simp)
            · rw [if_neg c10] at H
              have c10b0 : decide (0 < x0_2) = false := decide_eq_false c10
              clear c10
              have H' := Aside0.mk H
              clear H
              go_wp2
              go_loopg [5, 26] k2 (fun kq v5 v26 w' => ∃ (x5_3 : List Int) (x26_3 : Int), v26 = .int .i64 x26_3 ∧ Aside0 (spec_Length.l1 kq x5_3 a1 x26_3 = some r) ∧ Aside0 (kq ≤ k2) ∧ Aside0 (Kd.R (Kd.int .u8) 5 w' w.heap.size (fun _ => True) v5 x5_3) ∧ Aside0 (Below w.heap.size w w'))
              case atStart => exact ⟨(x5_2), (0), (by first | rfl | (simp; done) | (simp [*]; done)), H', ⟨Nat.le_refl _⟩, ⟨by (with_reducible repeat (first | apply Kd.R_alloc | apply Kd.R_drewN | apply Kd.R_drew)); exact HO_5.out⟩, ⟨by repeat (first | (with_reducible first | exact HB.out | apply below_alloc | apply pw_below_drewN | apply below_drew1) | exact HB.out)⟩⟩
              case round =>
                clear H'
                try clear c1
                try clear p2
                try clear c4
                try clear c4b0
                try clear c5
                try clear c10
                try clear c10b0
                try clear c11
                try clear p2
                obtain ⟨x5_3, x26_3, rfl, HA, HK3, HO_5, HB⟩ := hrel
                cases gk with
                | zero => exact absurd HA.out (by simp [spec_Length.l1])
                | succ k3 =>
                  have H := HA.out
                  clear HA
                  simp only [spec_Length.l1] at H
                  by_cases c16 : x26_3 < a1
                  · rw [if_pos c16] at H
                    have c16b0 : decide (x26_3 < a1) = true := decide_eq_true c16
                    clear c16
                    obtain ⟨y185, hy185⟩ : ∃ y_ : List Int, y_ = (([0] : List Int)) := ⟨_, rfl⟩
                    replace H : (if y185.length + x5_3.length < 140737488355328 then (spec_Length.l1 k3 (y185 ++ x5_3) a1 (wrap64 (x26_3 + 1))) else (none)) = some r := by first | (rw [hy185]; with_reducible exact H) | (have H2_ := (Option.bind_some _ _).symm.trans H; rw [hy185]; with_reducible exact H2_) | (have H2_ := (Option.bind_some _ _).symm.trans H; with_reducible exact H2_) | with_reducible exact H | (rw [hy185]; exact H) | exact H
                    have Ny185 := Aside0.mk hy185
                    clear hy185
                    by_cases c17 : y185.length + x5_3.length < 140737488355328
                    · rw [if_pos c17] at H
                      have LMc17 := Aside0.mk c17
                      clear c17
                      obtain ⟨y188, hy188⟩ : ∃ y_ : List Int, y_ = (y185 ++ x5_3) := ⟨_, rfl⟩
                      replace H : (spec_Length.l1 k3 y188 a1 (wrap64 (x26_3 + 1))) = some r := by first | (rw [hy188]; with_reducible exact H) | (have H2_ := (Option.bind_some _ _).symm.trans H; rw [hy188]; with_reducible exact H2_) | (have H2_ := (Option.bind_some _ _).symm.trans H; with_reducible exact H2_) | with_reducible exact H | (rw [hy188]; exact H) | exact H
                      have Ny188 := Aside0.mk hy188
                      clear hy188
                      have H' := Aside0.mk H
                      clear H
                      go_wp2_with (first | ((with_reducible refine gate_dst (N := 28) rfl ?_); refine Kd.R_lit (Kd.int .u8) _ 5 ?hg (N := 28) ?hd (xs := ([0] : List Int)) (inner := [.int .u8 0]) (ok := fun _ => True) (okp := fun _ => True) ?hr ?hp (fun _ hk => hk) trivial (Below.refl _ _) (Nat.le_refl _) (by simp) ?_; (case hd => rfl); (case hg => rfl); (case hr => first | (go_simp; done) | (go_simp; rfl)); (case hp => exact (Reps.one (show Kd.M (Kd.int .u8) _ _ _ 0 [.int .u8 0] from rfl) (Reps.none _ _))); intro v186 w18 ho19 hb hg_ hnew_; clear hg_ hnew_; (first | rw [← Ny185.out] at ho19 | (simp only [Int.reduceToNat] at ho19; rw [← Ny185.out] at ho19)); have n0_ := Aside0.mk (Kd.R_elder' (by (with_reducible repeat (first | apply Kd.R_alloc | apply Kd.R_drewN | apply Kd.R_drew)); exact HO_5.out) (Kd.R_base ho19) hb); have n1_ := Aside0.mk (Kd.R_lower (Kd.R_new' ho19 (Kd.R_lt (by (with_reducible repeat (first | apply Kd.R_alloc | apply Kd.R_drewN | apply Kd.R_drew)); exact HO_5.out))) (below_size (by repeat (first | (with_reducible first | exact HB.out | apply below_alloc | apply pw_below_drewN | apply below_drew1) | exact HB.out)))); have n2_ := Aside0.mk (below_step (by repeat (first | (with_reducible first | exact HB.out | apply below_alloc | apply pw_below_drewN | apply below_drew1) | exact HB.out)) hb); clear HO_5; clear HB; have HO_5 := n0_; have HO187 := n1_; have HB := n2_; clear n0_ n1_ n2_; clear hb ho19; obtain ⟨Ao21, co21, eo21⟩ := Kd.R_slice HO_5.out; subst eo21) | ((with_reducible refine gate_builtin (b := .append) (xs := #[.tmp 28, .tmp 29]) rfl ?_); at_builtin; refine Kd.R_append_rows (Kd.int .u8) (w0 := w) w.heap.size rfl (.tmp 28) (.tmp 29) 26 5 (.int .u8 0) 1 rfl Tryd.underlying26 info5 rfl (by decide) (by omega) v186 y185 x5_3 _ _ _ (fun k_ => some k_ ≠ (.slice Ao21 x5_3.length co21 : Value).ownBlock) (fun _ => False) rfl rfl ?aO ?aR (fun _ _ h => h) (fun _ h => h.elim) ?aF ?aB ?aS ?aL ?_; (case aR => repeat (first | exact (Kd.R_reads' HO_5.out).2.2 | (with_reducible refine Kd.C_alloc ?_ _) | (with_reducible refine Kd.C_drewN ?_ _) | (with_reducible refine Kd.C_drew ?_))); (case aB => exact (by repeat (first | (with_reducible first | exact HB.out | apply below_alloc | apply pw_below_drewN | apply below_drew1) | exact HB.out))); (case aF => exact (fun k_ hk => Kd.fresh' (Kd.R_lt (by (with_reducible repeat (first | apply Kd.R_alloc | apply Kd.R_drewN | apply Kd.R_drew)); exact HO_5.out)) k_ hk)); (case aO => exact (by (with_reducible repeat (first | apply Kd.R_alloc | apply Kd.R_drewN | apply Kd.R_drew)); exact Kd.R_mono HO187.out (fun _ hk => hk.2))); (case aS => exact (below_size (by repeat (first | (with_reducible first | exact HB.out | apply below_alloc | apply pw_below_drewN | apply below_drew1) | exact HB.out)))); (case aL => have := LMc17.out; omega); intro v189 w20 ho hb hg hat; rw [← Ny188.out] at ho; have n0_ := Aside0.mk (Kd.R_after (ok := (fun _ => True)) (by (with_reducible repeat (first | apply Kd.R_alloc | apply Kd.R_drewN | apply Kd.R_drew)); exact HO_5.out) hg hat); have n1_ := Aside0.mk (hb); have n2_ := Aside0.mk (ho); clear HO_5; clear HB; clear HO187; have HO_5 := n0_; have HB := n1_; have HO190 := n2_; clear n0_ n1_ n2_; clear ho hb hg hat))
                      go_roundg k3
                      case measure => have := HJ2.out; have := HK2.out; have := HK3.out; omega
                      case rel => exact ⟨(y188), (wrap64 (x26_3 + 1)), (by first | rfl | (simp; done) | (simp [*]; done)), H', ⟨by have := HJ2.out; have := HK2.out; have := HK3.out; omega⟩, ⟨by (with_reducible repeat (first | apply Kd.R_alloc | apply Kd.R_drewN | apply Kd.R_drew)); exact Kd.R_mono HO190.out (fun _ hk => trivial)⟩, ⟨by repeat (first | (with_reducible first | exact HB.out | apply below_alloc | apply pw_below_drewN | apply below_drew1) | exact HB.out)⟩⟩
                    · rw [if_neg c17] at H
                      exact absurd H (by simp)
                  · rw [if_neg c16] at H
                    have c16b0 : decide (x26_3 < a1) = false := decide_eq_false c16
                    clear c16
                    obtain ⟨y191, hy191⟩ : ∃ y_ : List Int, y_ = (([(wrap64 (128 + (x5_3.length : Int))) % 256] : List Int)) := ⟨_, rfl⟩
                    replace H : (if y191.length + x5_3.length < 140737488355328 then (some (y191 ++ x5_3)) else (none)) = some r := by first | (rw [hy191]; with_reducible exact H) | (have H2_ := (Option.bind_some _ _).symm.trans H; rw [hy191]; with_reducible exact H2_) | (have H2_ := (Option.bind_some _ _).symm.trans H; with_reducible exact H2_) | with_reducible exact H | (rw [hy191]; exact H) | exact H
                    have Ny191 := Aside0.mk hy191
                    clear hy191
                    by_cases c22 : y191.length + x5_3.length < 140737488355328
                    · rw [if_pos c22] at H
                      have LMc22 := Aside0.mk c22
                      clear c22
                      obtain ⟨y194, hy194⟩ : ∃ y_ : List Int, y_ = (y191 ++ x5_3) := ⟨_, rfl⟩
                      replace H : (some y194) = some r := by first | (rw [hy194]; with_reducible exact H) | (have H2_ := (Option.bind_some _ _).symm.trans H; rw [hy194]; with_reducible exact H2_) | (have H2_ := (Option.bind_some _ _).symm.trans H; with_reducible exact H2_) | with_reducible exact H | (rw [hy194]; exact H) | exact H
                      have Ny194 := Aside0.mk hy194
                      clear hy194
                      obtain rfl := Option.some.inj H
                      obtain ⟨Ao23, co23, eo23⟩ := Kd.R_slice HO_5.out
                      subst eo23
                      go_wp2_with (first | ((with_reducible refine gate_dst (N := 36) rfl ?_); refine Kd.R_lit (Kd.int .u8) _ 5 ?hg (N := 36) ?hd (xs := ([(wrap64 (128 + (x5_3.length : Int))) % 256] : List Int)) (inner := [.int .u8 ((wrap64 (128 + (x5_3.length : Int))) % 256)]) (ok := fun _ => True) (okp := fun _ => True) ?hr ?hp (fun _ hk => hk) trivial (Below.refl _ _) (Nat.le_refl _) (by simp) ?_; (case hd => rfl); (case hg => rfl); (case hr => first | (go_simp; done) | (go_simp; rfl)); (case hp => exact (Reps.one (show Kd.M (Kd.int .u8) _ _ _ ((wrap64 (128 + (x5_3.length : Int))) % 256) [.int .u8 ((wrap64 (128 + (x5_3.length : Int))) % 256)] from rfl) (Reps.none _ _))); intro v192 w24 ho25 hb hg_ hnew_; clear hg_ hnew_; (first | rw [← Ny191.out] at ho25 | (simp only [Int.reduceToNat] at ho25; rw [← Ny191.out] at ho25)); have n0_ := Aside0.mk (Kd.R_elder' (by (with_reducible repeat (first | apply Kd.R_alloc | apply Kd.R_drewN | apply Kd.R_drew)); exact HO_5.out) (Kd.R_base ho25) hb); have n1_ := Aside0.mk (Kd.R_lower (Kd.R_new' ho25 (Kd.R_lt (by (with_reducible repeat (first | apply Kd.R_alloc | apply Kd.R_drewN | apply Kd.R_drew)); exact HO_5.out))) (below_size (by repeat (first | (with_reducible first | exact HB.out | apply below_alloc | apply pw_below_drewN | apply below_drew1) | exact HB.out)))); have n2_ := Aside0.mk (below_step (by repeat (first | (with_reducible first | exact HB.out | apply below_alloc | apply pw_below_drewN | apply below_drew1) | exact HB.out)) hb); clear HO_5; clear HB; have HO_5 := n0_; have HO193 := n1_; have HB := n2_; clear n0_ n1_ n2_; clear hb ho25) | ((with_reducible refine gate_builtin (b := .append) (xs := #[.tmp 36, .tmp 37]) rfl ?_); at_builtin; refine Kd.R_append_rows (Kd.int .u8) (w0 := w) w.heap.size rfl (.tmp 36) (.tmp 37) 26 5 (.int .u8 0) 1 rfl Tryd.underlying26 info5 rfl (by decide) (by omega) v192 y191 x5_3 _ _ _ (fun k_ => some k_ ≠ (.slice Ao23 x5_3.length co23 : Value).ownBlock) (fun _ => False) rfl rfl ?aO ?aR (fun _ _ h => h) (fun _ h => h.elim) ?aF ?aB ?aS ?aL ?_; (case aR => repeat (first | exact (Kd.R_reads' HO_5.out).2.2 | (with_reducible refine Kd.C_alloc ?_ _) | (with_reducible refine Kd.C_drewN ?_ _) | (with_reducible refine Kd.C_drew ?_))); (case aB => exact (by repeat (first | (with_reducible first | exact HB.out | apply below_alloc | apply pw_below_drewN | apply below_drew1) | exact HB.out))); (case aF => exact (fun k_ hk => Kd.fresh' (Kd.R_lt (by (with_reducible repeat (first | apply Kd.R_alloc | apply Kd.R_drewN | apply Kd.R_drew)); exact HO_5.out)) k_ hk)); (case aO => exact (by (with_reducible repeat (first | apply Kd.R_alloc | apply Kd.R_drewN | apply Kd.R_drew)); exact Kd.R_mono HO193.out (fun _ hk => hk.2))); (case aS => exact (below_size (by repeat (first | (with_reducible first | exact HB.out | apply below_alloc | apply pw_below_drewN | apply below_drew1) | exact HB.out)))); (case aL => have := LMc22.out; omega); intro v195 w26 ho hb hg hat; rw [← Ny194.out] at ho; have n0_ := Aside0.mk (Kd.R_after (ok := (fun _ => True)) (by (with_reducible repeat (first | apply Kd.R_alloc | apply Kd.R_drewN | apply Kd.R_drew)); exact HO_5.out) hg hat); have n1_ := Aside0.mk (hb); have n2_ := Aside0.mk (ho); clear HO_5; clear HB; clear HO193; have HO_5 := n0_; have HB := n1_; have HO196 := n2_; clear n0_ n1_ n2_; clear ho hb hg hat))
                      go_ret
                      exact ⟨_, by first | rfl | (simp [errW_none, errW_some] <;> rfl) | (simp [*, errW_none, errW_some] <;> rfl), by (with_reducible repeat (first | apply Kd.R_alloc | apply Kd.R_drewN | apply Kd.R_drew)); exact Kd.R_mono HO196.out (fun _ hk => trivial), by repeat (first | (with_reducible first | exact HB.out | apply below_alloc | apply pw_below_drewN | apply below_drew1) | exact HB.out)⟩
                    · rw [if_neg c22] at H
                      exact absurd H (by simp)
def spec_Sealed.f (k : Nat) (a0 : Int) (l1 : List Int) (a2 : Int) : Option (List Int) := (some (([(a0) % 256] : List Int) : List Int)).bind fun y197 => ((spec_Length.f k (l1.length : Int) a2).bind fun t200 => (if y197.length + t200.length < 140737488355328 then ((some (y197 ++ t200 : List Int)).bind fun y203 => (if y203.length + l1.length < 140737488355328 then (some (y203 ++ l1)) else (none))) else (none)))
theorem spec_Sealed.mono : ∀ a0 a1 a2 k, LeO (spec_Sealed.f k a0 a1 a2) (spec_Sealed.f (k + 1) a0 a1 a2) := by
  intro a0 a1 a2 k
  unfold spec_Sealed.f
  repeat' first
      | (with_reducible exact spec_Length.mono _ _ _)
      | (with_reducible exact LeO.refl _)
      | (with_reducible exact LeO.none _)
      | (with_reducible refine LeO.ite ?_ ?_)
      | (with_reducible refine LeO.bind ?_ (fun _ => ?_))
      | exact spec_Length.mono _ _ _
      | exact LeO.none _
      | refine LeO.ite ?_ ?_
      | refine LeO.bind ?_ (fun _ => ?_)
set_option maxHeartbeats 8000000 in
set_option maxRecDepth 100000 in
theorem spec_Sealed.calls (k : Nat) (a0 : Int) (A1 : Option Addr) (c1 : Nat) (l1 : List Int) (a2 : Int) (r : List Int) (w : World) (hr1 : Kd.C (Kd.int .u8) w A1 l1.length l1) (hc1 : l1.length ≤ c1) (h : spec_Sealed.f k a0 l1 a2 = some r) :
    Calls Tryd.prog 23 #[.int .i64 a0, .slice A1 l1.length c1, .int .i64 a2] w fun e w' => ∃ v0_ : Value, e = .returned (v0_) ∧ Kd.R (Kd.int .u8) 5 w' w.heap.size (fun _ => True) v0_ r ∧ Below w.heap.size w w' := by
  have HR1 := Aside0.mk hr1
  have HC1 := Aside0.mk hc1
  clear hr1 hc1
  have HB := Aside0.mk (Below.refl w.heap.size w)
  have H : ((some (([(a0) % 256] : List Int) : List Int)).bind fun y197 => ((spec_Length.f k (l1.length : Int) a2).bind fun t200 => (if y197.length + t200.length < 140737488355328 then ((some (y197 ++ t200 : List Int)).bind fun y203 => (if y203.length + l1.length < 140737488355328 then (some (y203 ++ l1)) else (none))) else (none)))) = some r := h
  clear h
  obtain ⟨y197, hy197⟩ : ∃ y_ : List Int, y_ = (([(a0) % 256] : List Int)) := ⟨_, rfl⟩
  replace H : ((spec_Length.f k (l1.length : Int) a2).bind fun t200 => (if y197.length + t200.length < 140737488355328 then ((some (y197 ++ t200 : List Int)).bind fun y203 => (if y203.length + l1.length < 140737488355328 then (some (y203 ++ l1)) else (none))) else (none))) = some r := by first | (rw [hy197]; with_reducible exact H) | (have H2_ := (Option.bind_some _ _).symm.trans H; rw [hy197]; with_reducible exact H2_) | (have H2_ := (Option.bind_some _ _).symm.trans H; with_reducible exact H2_) | with_reducible exact H | (rw [hy197]; exact H) | exact H
  have Ny197 := Aside0.mk hy197
  clear hy197
  replace H := Option.bind_eq_some_iff.mp H
  obtain ⟨t200, A40, H⟩ := H
  replace H : (if y197.length + t200.length < 140737488355328 then ((some (y197 ++ t200 : List Int)).bind fun y203 => (if y203.length + l1.length < 140737488355328 then (some (y203 ++ l1)) else (none))) else (none)) = some r := H
  have A4 := Aside0.mk A40
  clear A40
  by_cases c5 : y197.length + t200.length < 140737488355328
  · rw [if_pos c5] at H
    have LMc5 := Aside0.mk c5
    clear c5
    obtain ⟨y203, hy203⟩ : ∃ y_ : List Int, y_ = (y197 ++ t200) := ⟨_, rfl⟩
    replace H : (if y203.length + l1.length < 140737488355328 then (some (y203 ++ l1)) else (none)) = some r := by first | (rw [hy203]; with_reducible exact H) | (have H2_ := (Option.bind_some _ _).symm.trans H; rw [hy203]; with_reducible exact H2_) | (have H2_ := (Option.bind_some _ _).symm.trans H; with_reducible exact H2_) | with_reducible exact H | (rw [hy203]; exact H) | exact H
    have Ny203 := Aside0.mk hy203
    clear hy203
    by_cases c6 : y203.length + l1.length < 140737488355328
    · rw [if_pos c6] at H
      have LMc6 := Aside0.mk c6
      clear c6
      obtain ⟨y206, hy206⟩ : ∃ y_ : List Int, y_ = (y203 ++ l1) := ⟨_, rfl⟩
      replace H : (some y206) = some r := by first | (rw [hy206]; with_reducible exact H) | (have H2_ := (Option.bind_some _ _).symm.trans H; rw [hy206]; with_reducible exact H2_) | (have H2_ := (Option.bind_some _ _).symm.trans H; with_reducible exact H2_) | with_reducible exact H | (rw [hy206]; exact H) | exact H
      have Ny206 := Aside0.mk hy206
      clear hy206
      obtain rfl := Option.some.inj H
      go_enter Tryd.func23, Tryd.ntmps23
      go_wp2_with (first | ((with_reducible refine gate_dst (N := 9) rfl ?_); refine Kd.R_lit (Kd.int .u8) _ 5 ?hg (N := 9) ?hd (xs := ([(a0) % 256] : List Int)) (inner := [.int .u8 ((a0) % 256)]) (ok := fun _ => True) (okp := fun _ => True) ?hr ?hp (fun _ hk => hk) trivial (Below.refl _ _) (Nat.le_refl _) (by simp) ?_; (case hd => rfl); (case hg => rfl); (case hr => first | (go_simp; done) | (go_simp; rfl)); (case hp => exact (Reps.one (show Kd.M (Kd.int .u8) _ _ _ ((a0) % 256) [.int .u8 ((a0) % 256)] from rfl) (Reps.none _ _))); intro v198 w7 ho8 hb hg_ hnew_; clear hg_ hnew_; (first | rw [← Ny197.out] at ho8 | (simp only [Int.reduceToNat] at ho8; rw [← Ny197.out] at ho8)); have n0_ := Aside0.mk (Kd.R_lower ho8 (below_size (by repeat (first | (with_reducible first | exact HB.out | apply below_alloc | apply pw_below_drewN | apply below_drew1) | exact HB.out)))); have n1_ := Aside0.mk (below_step (by repeat (first | (with_reducible first | exact HB.out | apply below_alloc | apply pw_below_drewN | apply below_drew1) | exact HB.out)) hb); clear HB; have HO199 := n0_; have HB := n1_; clear n0_ n1_; clear hb ho8) | ((with_reducible refine gate_callee (f := 47) rfl ?_); refine goesL_ (some 13) rfl rfl Tryd.func47 (by kernel_rfl) rfl #[.int .i64 (l1.length : Int), .int .i64 a2] rfl (by (try simp only [List.map_toArray, List.map_cons, List.map_nil]); first | done | rfl | (simp only [List.length_drop, List.length_take]; rfl)) ?_; (with_reducible refine (spec_Length.calls k (l1.length : Int) a2 t200 _ A4.out).mono ?_); rintro e w9 ⟨v201, rfl, ho0, hb⟩; refine ⟨_, rfl, ?_⟩; have n0_ := Aside0.mk (Kd.R_elder' (by (with_reducible repeat (first | apply Kd.R_alloc | apply Kd.R_drewN | apply Kd.R_drew)); exact HO199.out) (Kd.R_base ho0) hb); have n1_ := Aside0.mk (Kd.R_lower (Kd.R_new' ho0 (Kd.R_lt (by (with_reducible repeat (first | apply Kd.R_alloc | apply Kd.R_drewN | apply Kd.R_drew)); exact HO199.out))) (below_size (by repeat (first | (with_reducible first | exact HB.out | apply below_alloc | apply pw_below_drewN | apply below_drew1) | exact HB.out)))); have n2_ := Aside0.mk (below_step (by repeat (first | (with_reducible first | exact HB.out | apply below_alloc | apply pw_below_drewN | apply below_drew1) | exact HB.out)) hb); clear HO199; clear HB; have HO199 := n0_; have HO202 := n1_; have HB := n2_; clear n0_ n1_ n2_; (try clear hb); (try clear hb2); (try clear hk); (try clear hi); (try clear ho0); obtain ⟨Ao11, co11, eo11⟩ := Kd.R_slice HO202.out; subst eo11) | ((with_reducible refine gate_builtin (b := .append) (xs := #[.tmp 9, .tmp 13]) rfl ?_); at_builtin; refine Kd.R_append_rows (Kd.int .u8) (w0 := w) w.heap.size rfl (.tmp 9) (.tmp 13) 26 5 (.int .u8 0) 1 rfl Tryd.underlying26 info5 rfl (by decide) (by omega) v198 y197 t200 _ _ _ (fun k_ => some k_ ≠ (.slice Ao11 t200.length co11 : Value).ownBlock) (fun _ => False) rfl rfl ?aO ?aR (fun _ _ h => h) (fun _ h => h.elim) ?aF ?aB ?aS ?aL ?_; (case aR => repeat (first | exact (Kd.R_reads' HO202.out).2.2 | (with_reducible refine Kd.C_alloc ?_ _) | (with_reducible refine Kd.C_drewN ?_ _) | (with_reducible refine Kd.C_drew ?_))); (case aB => exact (by repeat (first | (with_reducible first | exact HB.out | apply below_alloc | apply pw_below_drewN | apply below_drew1) | exact HB.out))); (case aF => exact (fun k_ hk => Kd.fresh' (Kd.R_lt (by (with_reducible repeat (first | apply Kd.R_alloc | apply Kd.R_drewN | apply Kd.R_drew)); exact HO202.out)) k_ hk)); (case aO => exact (by (with_reducible repeat (first | apply Kd.R_alloc | apply Kd.R_drewN | apply Kd.R_drew)); exact Kd.R_mono HO199.out (fun _ hk => hk.2))); (case aS => exact (below_size (by repeat (first | (with_reducible first | exact HB.out | apply below_alloc | apply pw_below_drewN | apply below_drew1) | exact HB.out)))); (case aL => have := LMc5.out; omega); intro v204 w10 ho hb hg hat; rw [← Ny203.out] at ho; have n0_ := Aside0.mk (Kd.R_after (ok := (fun _ => True)) (by (with_reducible repeat (first | apply Kd.R_alloc | apply Kd.R_drewN | apply Kd.R_drew)); exact HO202.out) hg hat); have n1_ := Aside0.mk (hb); have n2_ := Aside0.mk (ho); clear HO202; clear HB; clear HO199; have HO202 := n0_; have HB := n1_; have HO205 := n2_; clear n0_ n1_ n2_; clear ho hb hg hat) | ((with_reducible refine gate_builtin (b := .append) (xs := #[.tmp 14, .tmp 15]) rfl ?_); at_builtin; refine Kd.R_append_rows (Kd.int .u8) (w0 := w) w.heap.size rfl (.tmp 14) (.tmp 15) 26 5 (.int .u8 0) 1 rfl Tryd.underlying26 info5 rfl (by decide) (by omega) v204 y203 l1 _ _ _ (fun k_ => some k_ ≠ (.slice Ao11 t200.length co11 : Value).ownBlock) (fun _ => False) rfl rfl ?aO ?aR (fun _ _ h => h) (fun _ h => h.elim) ?aF ?aB ?aS ?aL ?_; (case aR => repeat (first | exact (Kd.C_below HR1.out HB.out) | (with_reducible refine Kd.C_alloc ?_ _) | (with_reducible refine Kd.C_drewN ?_ _) | (with_reducible refine Kd.C_drew ?_))); (case aB => exact (by repeat (first | (with_reducible first | exact HB.out | apply below_alloc | apply pw_below_drewN | apply below_drew1) | exact HB.out))); (case aF => exact (fun k_ hk => Kd.fresh' (Kd.R_lt (by (with_reducible repeat (first | apply Kd.R_alloc | apply Kd.R_drewN | apply Kd.R_drew)); exact HO202.out)) k_ hk)); (case aO => exact (by (with_reducible repeat (first | apply Kd.R_alloc | apply Kd.R_drewN | apply Kd.R_drew)); exact HO205.out)); (case aS => exact (below_size (by repeat (first | (with_reducible first | exact HB.out | apply below_alloc | apply pw_below_drewN | apply below_drew1) | exact HB.out)))); (case aL => have := LMc6.out; omega); intro v207 w12 ho hb hg hat; rw [← Ny206.out] at ho; have n0_ := Aside0.mk (Kd.R_after (ok := (fun _ => True)) (by (with_reducible repeat (first | apply Kd.R_alloc | apply Kd.R_drewN | apply Kd.R_drew)); exact HO202.out) hg hat); have n1_ := Aside0.mk (hb); have n2_ := Aside0.mk (ho); clear HO202; clear HB; clear HO205; have HO202 := n0_; have HB := n1_; have HO208 := n2_; clear n0_ n1_ n2_; clear ho hb hg hat))
      go_ret
      exact ⟨_, by first | rfl | (simp [errW_none, errW_some] <;> rfl) | (simp [*, errW_none, errW_some] <;> rfl), by (with_reducible repeat (first | apply Kd.R_alloc | apply Kd.R_drewN | apply Kd.R_drew)); exact Kd.R_mono HO208.out (fun _ hk => trivial), by repeat (first | (with_reducible first | exact HB.out | apply below_alloc | apply pw_below_drewN | apply below_drew1) | exact HB.out)⟩
    · rw [if_neg c6] at H
      exact absurd H (by simp)
  · rw [if_neg c5] at H
    exact absurd H (by simp)
end Go.Proofs.YtangjgclpipjdaaDoor.PFnValue
namespace Go.Proofs.YtangjgclpipjdaaDoor.PFnValue
open Go.RowKit Go.Proofs.YtangjgclpipjdaaDoorW.PrintWords Go.Proofs.YtangjgclpipjdaaDoorW.PrintLast Go.Proofs.YtangjgclpipjdaaDoorW.PrintMore
attribute [local go_sem] max2_int min2_int max_two min_two max_three min_three max_four min_four   -- for this text's walks alone
set_option linter.unusedVariables false
set_option linter.unusedSimpArgs false
mutual
def snmp_appendBase128Int.l0 : Nat → List Int → Int → Int → Int → Option (List Int)
  | 0, _, _, _, _ => none
  | k + 1, x0, x1, x5, x6 => if x6 > 0 then (snmp_appendBase128Int.l0 k x0 x1 (wrap64 (x5 + 1)) (x6 / 128)) else (snmp_appendBase128Int.l1 k x0 x1 (wrap64 (x5 - 1)))
def snmp_appendBase128Int.l1 : Nat → List Int → Int → Int → Option (List Int)
  | 0, _, _, _ => none
  | k + 1, x0, x1, x7 => if x7 ≥ 0 then (if 0 ≤ (IntKind.u64.wrap (wrap64 (x7 * 7))) then (if x7 = 0 then (if x0.length < 140737488355328 then (snmp_appendBase128Int.l1 k (x0 ++ [Go.bits .and .u8 ((shr .i64 x1 (IntKind.u64.wrap (wrap64 (x7 * 7)))) % 256) 127]) x1 (wrap64 (x7 - 1))) else (none)) else (if x0.length < 140737488355328 then (snmp_appendBase128Int.l1 k (x0 ++ [Go.bits .or .u8 (Go.bits .and .u8 ((shr .i64 x1 (IntKind.u64.wrap (wrap64 (x7 * 7)))) % 256) 127) 128]) x1 (wrap64 (x7 - 1))) else (none))) else (none)) else (some x0)
end
def snmp_appendBase128Int.f (k : Nat) (l0 : List Int) (a1 : Int) : Option (List Int) := if a1 = 0 then (if l0.length < 140737488355328 then (some (l0 ++ [0])) else (none)) else (snmp_appendBase128Int.l0 k l0 a1 0 a1)
theorem snmp_appendBase128Int.mono_l : ∀ k, (∀ y0 y1 y2 y3, LeO (snmp_appendBase128Int.l0 k y0 y1 y2 y3) (snmp_appendBase128Int.l0 (k + 1) y0 y1 y2 y3)) ∧ (∀ y0 y1 y2, LeO (snmp_appendBase128Int.l1 k y0 y1 y2) (snmp_appendBase128Int.l1 (k + 1) y0 y1 y2))
  | 0 => ⟨fun _ _ _ _ r h => by simp [snmp_appendBase128Int.l0] at h, fun _ _ _ r h => by simp [snmp_appendBase128Int.l1] at h⟩
  | k + 1 => by
    obtain ⟨ih0, ih1⟩ := snmp_appendBase128Int.mono_l k
    refine ⟨?_, ?_⟩
    · intro y0 y1 y2 y3
      unfold snmp_appendBase128Int.l0
      repeat' first
      | (with_reducible exact ih0 _ _ _ _)
      | (with_reducible exact ih1 _ _ _)
      | (with_reducible exact LeO.refl _)
      | (with_reducible exact LeO.none _)
      | (with_reducible refine LeO.ite ?_ ?_)
      | (with_reducible refine LeO.bind ?_ (fun _ => ?_))
      | exact ih0 _ _ _ _
      | exact ih1 _ _ _
      | exact LeO.none _
      | refine LeO.ite ?_ ?_
      | refine LeO.bind ?_ (fun _ => ?_)
    · intro y0 y1 y2
      unfold snmp_appendBase128Int.l1
      repeat' first
      | (with_reducible exact ih0 _ _ _ _)
      | (with_reducible exact ih1 _ _ _)
      | (with_reducible exact LeO.refl _)
      | (with_reducible exact LeO.none _)
      | (with_reducible refine LeO.ite ?_ ?_)
      | (with_reducible refine LeO.bind ?_ (fun _ => ?_))
      | exact ih0 _ _ _ _
      | exact ih1 _ _ _
      | exact LeO.none _
      | refine LeO.ite ?_ ?_
      | refine LeO.bind ?_ (fun _ => ?_)
theorem snmp_appendBase128Int.mono : ∀ a0 a1 k, LeO (snmp_appendBase128Int.f k a0 a1) (snmp_appendBase128Int.f (k + 1) a0 a1) := by
  intro a0 a1 k
  obtain ⟨ih0, ih1⟩ := snmp_appendBase128Int.mono_l k
  unfold snmp_appendBase128Int.f
  repeat' first
      | (with_reducible exact ih0 _ _ _ _)
      | (with_reducible exact ih1 _ _ _)
      | (with_reducible exact LeO.refl _)
      | (with_reducible exact LeO.none _)
      | (with_reducible refine LeO.ite ?_ ?_)
      | (with_reducible refine LeO.bind ?_ (fun _ => ?_))
      | exact ih0 _ _ _ _
      | exact ih1 _ _ _
      | exact LeO.none _
      | refine LeO.ite ?_ ?_
      | refine LeO.bind ?_ (fun _ => ?_)
set_option maxHeartbeats 8000000 in
set_option maxRecDepth 100000 in
theorem snmp_appendBase128Int.calls (k : Nat) (P0_ : Nat → Prop) (u9000_ : Value) (l0 : List Int) (a1 : Int) (r : List Int) (w0 w : World) (hB : Below w0.heap.size w0 w) (ho0 : Kd.R (Kd.int .u8) 5 w w0.heap.size P0_ u9000_ l0) (h : snmp_appendBase128Int.f k l0 a1 = some r) :
    Calls Tryd.prog 90 #[u9000_, .int .i64 a1] w fun e w' => ∃ v0_ : Value, e = .returned (v0_) ∧ Kd.R (Kd.int .u8) 5 w' w0.heap.size (fun k_ => (P0_ k_ ∨ w.heap.size ≤ k_)) v0_ r ∧ Below w0.heap.size w0 w' ∧ Kept w w' (fun k_ => P0_ k_) := by
  have HO0 := Aside0.mk (show Kd.R (Kd.int .u8) 5 w w0.heap.size (fun k_ => (P0_ k_ ∨ w.heap.size ≤ k_)) u9000_ l0 from Kd.R_mono ho0 (fun k_ hk => (.inl hk)))
  have HK := Aside0.mk (Kept.refl w (fun k_ => P0_ k_))
  have HW0 := Aside0.mk hB.size
  have HB := Aside0.mk hB
  clear hB
  have H : (if a1 = 0 then (if l0.length < 140737488355328 then (some (l0 ++ [0])) else (none)) else (snmp_appendBase128Int.l0 k l0 a1 0 a1)) = some r := h
  clear h
  by_cases c3 : a1 = 0
  · rw [if_pos c3] at H
    have c3b0 : (a1 == 0) = true := beq_iff_eq.mpr c3
    have c3b1 : (a1 != 0) = false := bne_eq_false_iff_eq.mpr c3
    clear c3
    by_cases c4 : l0.length < 140737488355328
    · rw [if_pos c4] at H
      have LMc4 := Aside0.mk c4
      clear c4
      obtain ⟨y252, hy252⟩ : ∃ y_ : List Int, y_ = (l0 ++ [0]) := ⟨_, rfl⟩
      replace H : (some y252) = some r := by first | (rw [hy252]; with_reducible exact H) | (have H2_ := (Option.bind_some _ _).symm.trans H; rw [hy252]; with_reducible exact H2_) | (have H2_ := (Option.bind_some _ _).symm.trans H; with_reducible exact H2_) | with_reducible exact H | (rw [hy252]; exact H) | exact H
      have Ny252 := Aside0.mk hy252
      clear hy252
      obtain rfl := Option.some.inj H
      go_enter Tryd.func90, Tryd.ntmps90
      go_wp2_with (first | ((with_reducible refine gate_builtin (b := .append) (xs := #[.tmp 11, .tmp 12]) rfl ?_); at_builtin; refine Kd.R_append (Kd.int .u8) (w0 := w0) w0.heap.size rfl (.tmp 11) (.tmp 12) 26 5 (.int .u8 0) 1 rfl Tryd.underlying26 info5 rfl (by decide) (by omega) u9000_ l0 0 [.int .u8 0] (fun k_ => (P0_ k_ ∨ w.heap.size ≤ k_)) (fun _ => False) rfl rfl ?aP (fun _ hk => hk.elim) ?aF ?aO ?aB ?aS ?aL ?_; (case aP => exact rfl); (case aB => exact (by repeat (first | (with_reducible first | exact HB.out | apply below_alloc | apply pw_below_drewN | apply below_drew1) | exact HB.out))); (case aF => exact (fun k_ hk => (.inr (Nat.le_trans (by first | exact HK.out.1 | exact (show Kept w _ (fun k_ => P0_ k_) from by repeat (first | (with_reducible first | exact HK.out | apply Kept.alloc | apply Kept.drewN | apply Kept.drew) | exact HK.out)).1) hk)))); (case aO => exact (by (with_reducible repeat (first | apply Kd.R_alloc | apply Kd.R_drewN | apply Kd.R_drew)); exact HO0.out)); (case aS => exact (below_size (by repeat (first | (with_reducible first | exact HB.out | apply below_alloc | apply pw_below_drewN | apply below_drew1) | exact HB.out)))); (case aL => have := LMc4.out; omega); intro v253 w5 ho hb hg hat; rw [← Ny252.out] at ho; have n0_ := Aside0.mk (hb); have n1_ := Aside0.mk (Kept.of_grown (S := (fun k_ => P0_ k_)) hg (by repeat (first | (with_reducible first | exact HK.out | apply Kept.alloc | apply Kept.drewN | apply Kept.drew) | exact HK.out)) (fun k_ e_ => (HO0.out.1 k_ e_))); have n2_ := Aside0.mk (ho); clear HB; clear HK; clear HO0; have HB := n0_; have HK := n1_; have HO254 := n2_; clear n0_ n1_ n2_; clear ho hb hg hat))
      go_ret
      exact ⟨_, by first | rfl | (simp [errW_none, errW_some] <;> rfl) | (simp [*, errW_none, errW_some] <;> rfl), by (with_reducible repeat (first | apply Kd.R_alloc | apply Kd.R_drewN | apply Kd.R_drew)); exact HO254.out, by repeat (first | (with_reducible first | exact HB.out | apply below_alloc | apply pw_below_drewN | apply below_drew1) | exact HB.out), by repeat (first | (with_reducible first | exact HK.out | apply Kept.alloc | apply Kept.drewN | apply Kept.drew) | exact HK.out)⟩
    · rw [if_neg c4] at H
      exact absurd H (by simp)
  · rw [if_neg c3] at H
    have c3b0 : (a1 == 0) = false := beq_eq_false_iff_ne.mpr c3
    have c3b1 : (a1 != 0) = true := bne_iff_ne.mpr c3
    have H' := Aside0.mk H
    clear H
    go_enter Tryd.func90, Tryd.ntmps90
    go_wp2
    go_loopg [5, 6] k (fun kq v5 v6 w' => ∃ (x5_1 : Int) (x6_1 : Int), v5 = .int .i64 x5_1 ∧ v6 = .int .i64 x6_1 ∧ Aside0 (snmp_appendBase128Int.l0 kq l0 a1 x5_1 x6_1 = some r) ∧ Aside0 (kq ≤ k) ∧ Aside0 (Kd.R (Kd.int .u8) 5 w' w0.heap.size (fun k_ => (P0_ k_ ∨ w.heap.size ≤ k_)) u9000_ l0) ∧ Aside0 (Kept w w' (fun k_ => P0_ k_)) ∧ Aside0 (Below w0.heap.size w0 w'))
    case atStart => exact ⟨(0), (a1), (by first | rfl | (simp; done) | (simp [*]; done)), (by first | rfl | (simp; done) | (simp [*]; done)), H', ⟨Nat.le_refl _⟩, ⟨by (with_reducible repeat (first | apply Kd.R_alloc | apply Kd.R_drewN | apply Kd.R_drew)); exact HO0.out⟩, ⟨by repeat (first | (with_reducible first | exact HK.out | apply Kept.alloc | apply Kept.drewN | apply Kept.drew) | exact HK.out)⟩, ⟨by repeat (first | (with_reducible first | exact HB.out | apply below_alloc | apply pw_below_drewN | apply below_drew1) | exact HB.out)⟩⟩
    case round =>
      clear H'
      try clear p2
      try clear c3
      try clear c3b0
      try clear c3b1
      try clear c4
      obtain ⟨x5_1, x6_1, rfl, rfl, HA, HK1, HO_0, HK, HB⟩ := hrel
      cases gk with
      | zero => exact absurd HA.out (by simp [snmp_appendBase128Int.l0])
      | succ k1 =>
        have H := HA.out
        clear HA
        simp only [snmp_appendBase128Int.l0] at H
        by_cases c6 : x6_1 > 0
        · rw [if_pos c6] at H
          have c6b0 : decide (0 < x6_1) = true := decide_eq_true c6
          clear c6
          have H' := Aside0.mk H
          clear H
          go_wp2
          go_roundg k1
          case measure => have := HK1.out; omega
          case rel => exact ⟨(wrap64 (x5_1 + 1)), (x6_1 / 128), (by first | rfl | (simp; done) | (simp [*]; done)), (by first | rfl | (simp; done) | (simp [*]; done)), H', ⟨by have := HK1.out; omega⟩, ⟨by (with_reducible repeat (first | apply Kd.R_alloc | apply Kd.R_drewN | apply Kd.R_drew)); exact HO_0.out⟩, ⟨by repeat (first | (with_reducible first | exact HK.out | apply Kept.alloc | apply Kept.drewN | apply Kept.drew) | exact HK.out)⟩, ⟨by repeat (first | (with_reducible first | exact HB.out | apply below_alloc | apply pw_below_drewN | apply below_drew1) | exact HB.out)⟩⟩
        · rw [if_neg c6] at H
          have c6b0 : decide (0 < x6_1) = false := decide_eq_false c6
          clear c6
          have H' := Aside0.mk H
          clear H
          go_wp2
          go_loopg [0, 7] k1 (fun kq v0 v7 w' => ∃ (x0_2 : List Int) (x7_2 : Int), v7 = .int .i64 x7_2 ∧ Aside0 (snmp_appendBase128Int.l1 kq x0_2 a1 x7_2 = some r) ∧ Aside0 (kq ≤ k1) ∧ Aside0 (Kd.R (Kd.int .u8) 5 w' w0.heap.size (fun k_ => (P0_ k_ ∨ w.heap.size ≤ k_)) v0 x0_2) ∧ Aside0 (Kept w w' (fun k_ => P0_ k_)) ∧ Aside0 (Below w0.heap.size w0 w'))
          case atStart => exact ⟨(l0), (wrap64 (x5_1 - 1)), (by first | rfl | (simp; done) | (simp [*]; done)), H', ⟨Nat.le_refl _⟩, ⟨by (with_reducible repeat (first | apply Kd.R_alloc | apply Kd.R_drewN | apply Kd.R_drew)); exact HO_0.out⟩, ⟨by repeat (first | (with_reducible first | exact HK.out | apply Kept.alloc | apply Kept.drewN | apply Kept.drew) | exact HK.out)⟩, ⟨by repeat (first | (with_reducible first | exact HB.out | apply below_alloc | apply pw_below_drewN | apply below_drew1) | exact HB.out)⟩⟩
          case round =>
            clear H'
            try clear p2
            try clear c3
            try clear c3b0
            try clear c3b1
            try clear c4
            try clear c6
            try clear c6b0
            try clear p6
            try clear p2
            obtain ⟨x0_2, x7_2, rfl, HA, HK2, HO_0, HK, HB⟩ := hrel
            cases gk with
            | zero => exact absurd HA.out (by simp [snmp_appendBase128Int.l1])
            | succ k2 =>
              have H := HA.out
              clear HA
              simp only [snmp_appendBase128Int.l1] at H
              by_cases c7 : x7_2 ≥ 0
              · rw [if_pos c7] at H
                have c7b0 : decide (0 ≤ x7_2) = true := decide_eq_true c7
                clear c7
                obtain ⟨ji8, hji8⟩ : ∃ j_ : Int, (IntKind.u64.wrap (wrap64 (x7_2 * 7))) = j_ := ⟨_, rfl⟩
                replace H : (if 0 ≤ (ji8) then (if x7_2 = 0 then (if x0_2.length < 140737488355328 then (snmp_appendBase128Int.l1 k2 (x0_2 ++ [Go.bits .and .u8 ((shr .i64 a1 (ji8)) % 256) 127]) a1 (wrap64 (x7_2 - 1))) else (none)) else (if x0_2.length < 140737488355328 then (snmp_appendBase128Int.l1 k2 (x0_2 ++ [Go.bits .or .u8 (Go.bits .and .u8 ((shr .i64 a1 (ji8)) % 256) 127) 128]) a1 (wrap64 (x7_2 - 1))) else (none))) else (none)) = some r := by first | (rw [hji8] at H; exact H) | (simp only [hji8] at H ⊢; exact H)
                by_cases c9 : 0 ≤ (ji8)
                · rw [if_pos c9] at H
                  have c9b0 := eq_true c9
                  have c9b1 : decide (0 ≤ (ji8)) = true := decide_eq_true c9
                  clear c9
                  obtain ⟨ji10, hji10⟩ : ∃ j_ : Int, (shr .i64 a1 (ji8)) = j_ := ⟨_, rfl⟩
                  replace H : (if x7_2 = 0 then (if x0_2.length < 140737488355328 then (snmp_appendBase128Int.l1 k2 (x0_2 ++ [Go.bits .and .u8 ((ji10) % 256) 127]) a1 (wrap64 (x7_2 - 1))) else (none)) else (if x0_2.length < 140737488355328 then (snmp_appendBase128Int.l1 k2 (x0_2 ++ [Go.bits .or .u8 (Go.bits .and .u8 ((ji10) % 256) 127) 128]) a1 (wrap64 (x7_2 - 1))) else (none))) = some r := by first | (rw [hji10] at H; exact H) | (simp only [hji10] at H ⊢; exact H)
                  have hji10_ : (a1 / 2 ^ min (ji8).toNat 64) = ji10 := hji10
                  have hji10z : (ji8) ≤ 64 → (a1 / 2 ^ (ji8).toNat) = ji10 := shr_small hji10
                  by_cases c11 : x7_2 = 0
                  · rw [if_pos c11] at H
                    have c11b0 : (x7_2 == 0) = true := beq_iff_eq.mpr c11
                    have c11b1 : (x7_2 != 0) = false := bne_eq_false_iff_eq.mpr c11
                    clear c11
                    by_cases c12 : x0_2.length < 140737488355328
                    · rw [if_pos c12] at H
                      have LMc12 := Aside0.mk c12
                      clear c12
                      obtain ⟨y255, hy255⟩ : ∃ y_ : List Int, y_ = (x0_2 ++ [Go.bits .and .u8 ((ji10) % 256) 127]) := ⟨_, rfl⟩
                      replace H : (snmp_appendBase128Int.l1 k2 y255 a1 (wrap64 (x7_2 - 1))) = some r := by first | (rw [hy255]; with_reducible exact H) | (have H2_ := (Option.bind_some _ _).symm.trans H; rw [hy255]; with_reducible exact H2_) | (have H2_ := (Option.bind_some _ _).symm.trans H; with_reducible exact H2_) | with_reducible exact H | (rw [hy255]; exact H) | exact H
                      have Ny255 := Aside0.mk hy255
                      clear hy255
                      have H' := Aside0.mk H
                      clear H
                      go_wp2_with (first | ((with_reducible refine gate_builtin (b := .append) (xs := #[.tmp 38, .tmp 40]) rfl ?_); at_builtin; refine Kd.R_append (Kd.int .u8) (w0 := w0) w0.heap.size rfl (.tmp 38) (.tmp 40) 26 5 (.int .u8 0) 1 rfl Tryd.underlying26 info5 rfl (by decide) (by omega) u0 x0_2 (Go.bits .and .u8 ((ji10) % 256) 127) [.int .u8 (Go.bits .and .u8 ((ji10) % 256) 127)] (fun k_ => (P0_ k_ ∨ w.heap.size ≤ k_)) (fun _ => False) rfl rfl ?aP (fun _ hk => hk.elim) ?aF ?aO ?aB ?aS ?aL ?_; (case aP => exact rfl); (case aB => exact (by repeat (first | (with_reducible first | exact HB.out | apply below_alloc | apply pw_below_drewN | apply below_drew1) | exact HB.out))); (case aF => exact (fun k_ hk => (.inr (Nat.le_trans (by first | exact HK.out.1 | exact (show Kept w _ (fun k_ => P0_ k_) from by repeat (first | (with_reducible first | exact HK.out | apply Kept.alloc | apply Kept.drewN | apply Kept.drew) | exact HK.out)).1) hk)))); (case aO => exact (by (with_reducible repeat (first | apply Kd.R_alloc | apply Kd.R_drewN | apply Kd.R_drew)); exact HO_0.out)); (case aS => exact (below_size (by repeat (first | (with_reducible first | exact HB.out | apply below_alloc | apply pw_below_drewN | apply below_drew1) | exact HB.out)))); (case aL => have := LMc12.out; omega); intro v256 w13 ho hb hg hat; rw [← Ny255.out] at ho; have n0_ := Aside0.mk (hb); have n1_ := Aside0.mk (Kept.of_grown (S := (fun k_ => P0_ k_)) hg (by repeat (first | (with_reducible first | exact HK.out | apply Kept.alloc | apply Kept.drewN | apply Kept.drew) | exact HK.out)) (fun k_ e_ => (HO_0.out.1 k_ e_))); have n2_ := Aside0.mk (ho); clear HB; clear HK; clear HO_0; have HB := n0_; have HK := n1_; have HO257 := n2_; clear n0_ n1_ n2_; clear ho hb hg hat))
                      go_roundg k2
                      case measure => have := HK1.out; have := HK2.out; omega
                      case rel => exact ⟨(y255), (wrap64 (x7_2 - 1)), (by first | rfl | (simp; done) | (simp [*]; done)), H', ⟨by have := HK1.out; have := HK2.out; omega⟩, ⟨by (with_reducible repeat (first | apply Kd.R_alloc | apply Kd.R_drewN | apply Kd.R_drew)); exact HO257.out⟩, ⟨by repeat (first | (with_reducible first | exact HK.out | apply Kept.alloc | apply Kept.drewN | apply Kept.drew) | exact HK.out)⟩, ⟨by repeat (first | (with_reducible first | exact HB.out | apply below_alloc | apply pw_below_drewN | apply below_drew1) | exact HB.out)⟩⟩
                    · rw [if_neg c12] at H
                      exact absurd H (by simp)
                  · rw [if_neg c11] at H
                    have c11b0 : (x7_2 == 0) = false := beq_eq_false_iff_ne.mpr c11
                    have c11b1 : (x7_2 != 0) = true := bne_iff_ne.mpr c11
                    by_cases c14 : x0_2.length < 140737488355328
                    · rw [if_pos c14] at H
                      have LMc14 := Aside0.mk c14
                      clear c14
                      obtain ⟨y258, hy258⟩ : ∃ y_ : List Int, y_ = (x0_2 ++ [Go.bits .or .u8 (Go.bits .and .u8 ((ji10) % 256) 127) 128]) := ⟨_, rfl⟩
                      replace H : (snmp_appendBase128Int.l1 k2 y258 a1 (wrap64 (x7_2 - 1))) = some r := by first | (rw [hy258]; with_reducible exact H) | (have H2_ := (Option.bind_some _ _).symm.trans H; rw [hy258]; with_reducible exact H2_) | (have H2_ := (Option.bind_some _ _).symm.trans H; with_reducible exact H2_) | with_reducible exact H | (rw [hy258]; exact H) | exact H
                      have Ny258 := Aside0.mk hy258
                      clear hy258
                      have H' := Aside0.mk H
                      clear H
                      go_wp2_with (first | ((with_reducible refine gate_builtin (b := .append) (xs := #[.tmp 38, .tmp 40]) rfl ?_); at_builtin; refine Kd.R_append (Kd.int .u8) (w0 := w0) w0.heap.size rfl (.tmp 38) (.tmp 40) 26 5 (.int .u8 0) 1 rfl Tryd.underlying26 info5 rfl (by decide) (by omega) u0 x0_2 (Go.bits .or .u8 (Go.bits .and .u8 ((ji10) % 256) 127) 128) [.int .u8 (Go.bits .or .u8 (Go.bits .and .u8 ((ji10) % 256) 127) 128)] (fun k_ => (P0_ k_ ∨ w.heap.size ≤ k_)) (fun _ => False) rfl rfl ?aP (fun _ hk => hk.elim) ?aF ?aO ?aB ?aS ?aL ?_; (case aP => exact rfl); (case aB => exact (by repeat (first | (with_reducible first | exact HB.out | apply below_alloc | apply pw_below_drewN | apply below_drew1) | exact HB.out))); (case aF => exact (fun k_ hk => (.inr (Nat.le_trans (by first | exact HK.out.1 | exact (show Kept w _ (fun k_ => P0_ k_) from by repeat (first | (with_reducible first | exact HK.out | apply Kept.alloc | apply Kept.drewN | apply Kept.drew) | exact HK.out)).1) hk)))); (case aO => exact (by (with_reducible repeat (first | apply Kd.R_alloc | apply Kd.R_drewN | apply Kd.R_drew)); exact HO_0.out)); (case aS => exact (below_size (by repeat (first | (with_reducible first | exact HB.out | apply below_alloc | apply pw_below_drewN | apply below_drew1) | exact HB.out)))); (case aL => have := LMc14.out; omega); intro v259 w15 ho hb hg hat; rw [← Ny258.out] at ho; have n0_ := Aside0.mk (hb); have n1_ := Aside0.mk (Kept.of_grown (S := (fun k_ => P0_ k_)) hg (by repeat (first | (with_reducible first | exact HK.out | apply Kept.alloc | apply Kept.drewN | apply Kept.drew) | exact HK.out)) (fun k_ e_ => (HO_0.out.1 k_ e_))); have n2_ := Aside0.mk (ho); clear HB; clear HK; clear HO_0; have HB := n0_; have HK := n1_; have HO260 := n2_; clear n0_ n1_ n2_; clear ho hb hg hat))
                      go_roundg k2
                      case measure => have := HK1.out; have := HK2.out; omega
                      case rel => exact ⟨(y258), (wrap64 (x7_2 - 1)), (by first | rfl | (simp; done) | (simp [*]; done)), H', ⟨by have := HK1.out; have := HK2.out; omega⟩, ⟨by (with_reducible repeat (first | apply Kd.R_alloc | apply Kd.R_drewN | apply Kd.R_drew)); exact HO260.out⟩, ⟨by repeat (first | (with_reducible first | exact HK.out | apply Kept.alloc | apply Kept.drewN | apply Kept.drew) | exact HK.out)⟩, ⟨by repeat (first | (with_reducible first | exact HB.out | apply below_alloc | apply pw_below_drewN | apply below_drew1) | exact HB.out)⟩⟩
                    · rw [if_neg c14] at H
                      exact absurd H (by simp)
                · rw [if_neg c9] at H
                  exact absurd H (by simp)
              · rw [if_neg c7] at H
                have c7b0 : decide (0 ≤ x7_2) = false := decide_eq_false c7
                clear c7
                obtain rfl := Option.some.inj H
                go_wp2
                go_ret
                exact ⟨_, by first | rfl | (simp [errW_none, errW_some] <;> rfl) | (simp [*, errW_none, errW_some] <;> rfl), by (with_reducible repeat (first | apply Kd.R_alloc | apply Kd.R_drewN | apply Kd.R_drew)); exact HO_0.out, by repeat (first | (with_reducible first | exact HB.out | apply below_alloc | apply pw_below_drewN | apply below_drew1) | exact HB.out), by repeat (first | (with_reducible first | exact HK.out | apply Kept.alloc | apply Kept.drewN | apply Kept.drew) | exact HK.out)⟩
def snmp_zzTrim.l0 : Nat → List Int → Option (List Int)
  | 0, _ => none
  | k + 1, x0 => if (x0.length : Int) > 0 then (if 0 < (x0.length : Int) then (if (rd x0 0) = 0 then (if 1 ≤ (x0.length : Int) then (snmp_zzTrim.l0 k (x0.drop 1)) else (none)) else (some x0)) else (none)) else (some x0)
def snmp_zzTrim.f (k : Nat) (l0 : List Int) : Option (List Int) := snmp_zzTrim.l0 k l0
theorem snmp_zzTrim.mono_l : ∀ k, (∀ y0, LeO (snmp_zzTrim.l0 k y0) (snmp_zzTrim.l0 (k + 1) y0))
  | 0 => fun _ r h => by simp [snmp_zzTrim.l0] at h
  | k + 1 => by
    have ih0 := snmp_zzTrim.mono_l k
    · intro y0
      unfold snmp_zzTrim.l0
      repeat' first
      | (with_reducible exact ih0 _)
      | (with_reducible exact LeO.refl _)
      | (with_reducible exact LeO.none _)
      | (with_reducible refine LeO.ite ?_ ?_)
      | (with_reducible refine LeO.bind ?_ (fun _ => ?_))
      | exact ih0 _
      | exact LeO.none _
      | refine LeO.ite ?_ ?_
      | refine LeO.bind ?_ (fun _ => ?_)
theorem snmp_zzTrim.mono : ∀ a0 k, LeO (snmp_zzTrim.f k a0) (snmp_zzTrim.f (k + 1) a0) := by
  intro a0 k
  have ih0 := snmp_zzTrim.mono_l k
  unfold snmp_zzTrim.f
  repeat' first
      | (with_reducible exact ih0 _)
      | (with_reducible exact LeO.refl _)
      | (with_reducible exact LeO.none _)
      | (with_reducible refine LeO.ite ?_ ?_)
      | (with_reducible refine LeO.bind ?_ (fun _ => ?_))
      | exact ih0 _
      | exact LeO.none _
      | refine LeO.ite ?_ ?_
      | refine LeO.bind ?_ (fun _ => ?_)
set_option maxHeartbeats 8000000 in
set_option maxRecDepth 100000 in
theorem snmp_zzTrim.calls (k : Nat) (P0_ : Nat → Prop) (A0 : Option Addr) (c0 : Nat) (l0 : List Int) (r : List Int) (w : World) (hs0 : Kd.V (Kd.int .u8) 5 w w.heap.size (fun k_ => P0_ k_) (.slice A0 l0.length c0) l0) (h : snmp_zzTrim.f k l0 = some r) :
    Calls Tryd.prog 95 #[.slice A0 l0.length c0] w fun e w' => ∃ v0_ : Value, e = .returned (v0_) ∧ Kd.V (Kd.int .u8) 5 w' w.heap.size (fun k_ => (P0_ k_ ∨ w.heap.size ≤ k_)) v0_ r ∧ Below w.heap.size w w' := by
  have HO0 := Aside0.mk (show Kd.V (Kd.int .u8) 5 w w.heap.size (fun k_ => (P0_ k_ ∨ w.heap.size ≤ k_)) (.slice A0 l0.length c0) l0 from Kd.V_mono hs0 (fun k_ hk => .inl hk))
  have HB := Aside0.mk (Below.refl w.heap.size w)
  have H : (snmp_zzTrim.l0 k l0) = some r := h
  clear h
  have H' := Aside0.mk H
  clear H
  go_enter Tryd.func95, Tryd.ntmps95
  go_wp2
  go_loopg [0] k (fun kq v0 w' => ∃ (x0_1 : List Int), Aside0 (snmp_zzTrim.l0 kq x0_1 = some r) ∧ Aside0 (kq ≤ k) ∧ Aside0 (Kd.V (Kd.int .u8) 5 w' w.heap.size (fun k_ => (P0_ k_ ∨ w.heap.size ≤ k_)) v0 x0_1) ∧ Aside0 (Below w.heap.size w w'))
  case atStart => exact ⟨(l0), H', ⟨Nat.le_refl _⟩, ⟨by (with_reducible repeat (first | apply Kd.V_alloc | apply Kd.V_drewN | apply Kd.V_drew)); exact HO0.out⟩, ⟨by repeat (first | (with_reducible first | exact HB.out | apply below_alloc | apply pw_below_drewN | apply below_drew1) | exact HB.out)⟩⟩
  case round =>
    clear H'
    obtain ⟨x0_1, HA, HK1, HO_0, HB⟩ := hrel
    cases gk with
    | zero => exact absurd HA.out (by simp [snmp_zzTrim.l0])
    | succ k1 =>
      have H := HA.out
      clear HA
      simp only [snmp_zzTrim.l0] at H
      by_cases c2 : (x0_1.length : Int) > 0
      · rw [if_pos c2] at H
        have c2b0 : decide (0 < (x0_1.length : Int)) = true := decide_eq_true c2
        have c2b1 : decide (0 < x0_1.length) = true := decide_eq_true (by omega)
        clear c2
        by_cases c3 : 0 < (x0_1.length : Int)
        · rw [if_pos c3] at H
          have c3b0 : decide (0 < (x0_1.length : Int)) = true := decide_eq_true c3
          have c3b1 : decide (0 < x0_1.length) = true := decide_eq_true (by omega)
          clear c3
          by_cases c4 : (rd x0_1 0) = 0
          · rw [if_pos c4] at H
            have c4b0 : ((rd x0_1 0) == 0) = true := beq_iff_eq.mpr c4
            have c4b1 : ((rd x0_1 0) != 0) = false := bne_eq_false_iff_eq.mpr c4
            clear c4
            by_cases c5 : 1 ≤ (x0_1.length : Int)
            · rw [if_pos c5] at H
              have c5b0 := eq_true c5
              have c5b1 : decide (1 ≤ (x0_1.length : Int)) = true := decide_eq_true c5
              clear c5
              obtain ⟨y268, hy268⟩ : ∃ y_ : List Int, y_ = (x0_1.drop 1) := ⟨_, rfl⟩
              replace H : (snmp_zzTrim.l0 k1 y268) = some r := by first | (rw [hy268]; with_reducible exact H) | (have H2_ := (Option.bind_some _ _).symm.trans H; rw [hy268]; with_reducible exact H2_) | (have H2_ := (Option.bind_some _ _).symm.trans H; with_reducible exact H2_) | with_reducible exact H | (rw [hy268]; exact H) | exact H
              have Ny268 := Aside0.mk hy268
              clear hy268
              have H' := Aside0.mk H
              clear H
              obtain ⟨Ao6, co6, eo6⟩ := Kd.V_slice HO_0.out
              subst eo6
              have p267 : 0 ≤ (0 : Int) := (by omega)
              have q267 : 0 < (x0_1.length : Int) := of_decide_eq_true (by first | (with_reducible assumption) | assumption)
              obtain ⟨ad267, e267, hx267_0⟩ := Kd.at_int (Kd.V_reads' HO_0.out).2.2 0 p267 q267
              cases e267
              have qi267 : (0 < x0_1.length) = True := eq_true (by omega)
              (try rw [show ((0 : Int)).toNat = 0 from rfl] at hx267_0)
              (try rw [Addr.add_zero'] at hx267_0)
              replace p267 := eq_true p267
              replace q267 := eq_true q267
              have q7 : (1 : Int) ≤ ((x0_1.length : Int) : Int) := of_decide_eq_true (by first | (with_reducible assumption) | assumption)
              obtain ⟨i07, hi07, _, hsz7, _⟩ := info_parts info5
              have hroom7 : x0_1.length ≤ co6 := (Kd.V_reads' HO_0.out).2.1
              have hC7 : Kd.F (Kd.int .u8) _ _ (some ad267) x0_1.length x0_1 := (Kd.V_at (base := w.heap.size) HO_0.out).2.2
              have hcut7 := cut_from (P := Tryd.prog) 26 5 .i64 Tryd.underlying26 hi07 1 hsz7 (some ad267) x0_1.length co6 1 (by omega) q7
              have hr7 := Kd.F_cut (m := (1 : Int).toNat) (c := co6) hC7 (by omega) hroom7
              obtain ⟨A7, hA7⟩ : ∃ A1, A1 = (if co6 = (1 : Int).toNat then (some ad267) else ((some ad267) : Option Addr).map (·.add ((1 : Int).toNat * 1))) := ⟨_, rfl⟩
              obtain ⟨c7, hc7⟩ : ∃ c1, c1 = co6 - (1 : Int).toNat := ⟨_, rfl⟩
              have hy7 : y268.length = x0_1.length - (1 : Int).toNat := (by rw [Ny268.out, List.length_drop] <;> omega)
              rw [show (x0_1).drop (1 : Int).toNat = y268 from Ny268.out.symm] at hr7
              replace hr7 : Kd.F (Kd.int .u8) _ _ A7 y268.length y268 := (by rw [hA7]; exact hr7)
              rw [← hy7, ← hA7, ← hc7] at hcut7
              have HO272 := Aside0.mk (show Kd.V (Kd.int .u8) 5 _ w.heap.size _ (.slice A7 y268.length c7) y268 from Kd.V_mk (by rw [hy7, hc7]; exact Nat.sub_le_sub_right hroom7 _) hr7)
              have HC272 := Aside0.mk (show y268.length ≤ c7 from by rw [hy7, hc7]; exact Nat.sub_le_sub_right hroom7 _)
              clear hr7 hC7 hroom7 hi07 hsz7 hc7
              have KY7 := Aside0.mk hy7
              have KA7 := Aside0.mk hA7
              clear hy7 hA7
              replace q7 := eq_true q7
              go_wp2
              go_roundg k1
              case measure => have := HK1.out; omega
              case rel => exact ⟨(y268), H', ⟨by have := HK1.out; omega⟩, ⟨by (with_reducible repeat (first | apply Kd.V_alloc | apply Kd.V_drewN | apply Kd.V_drew)); exact HO272.out⟩, ⟨by repeat (first | (with_reducible first | exact HB.out | apply below_alloc | apply pw_below_drewN | apply below_drew1) | exact HB.out)⟩⟩
            · rw [if_neg c5] at H
              exact absurd H (by simp)
          · rw [if_neg c4] at H
            have c4b0 : ((rd x0_1 0) == 0) = false := beq_eq_false_iff_ne.mpr c4
            have c4b1 : ((rd x0_1 0) != 0) = true := bne_iff_ne.mpr c4
            obtain rfl := Option.some.inj H
            obtain ⟨Ao8, co8, eo8⟩ := Kd.V_slice HO_0.out
            subst eo8
            have p267 : 0 ≤ (0 : Int) := (by omega)
            have q267 : 0 < (x0_1.length : Int) := of_decide_eq_true (by first | (with_reducible assumption) | assumption)
            obtain ⟨ad267, e267, hx267_0⟩ := Kd.at_int (Kd.V_reads' HO_0.out).2.2 0 p267 q267
            cases e267
            have qi267 : (0 < x0_1.length) = True := eq_true (by omega)
            (try rw [show ((0 : Int)).toNat = 0 from rfl] at hx267_0)
            (try rw [Addr.add_zero'] at hx267_0)
            replace p267 := eq_true p267
            replace q267 := eq_true q267
            go_wp2
            go_ret
            exact ⟨_, by first | rfl | (simp [errW_none, errW_some] <;> rfl) | (simp [*, errW_none, errW_some] <;> rfl), by (with_reducible repeat (first | apply Kd.V_alloc | apply Kd.V_drewN | apply Kd.V_drew)); exact HO_0.out, by repeat (first | (with_reducible first | exact HB.out | apply below_alloc | apply pw_below_drewN | apply below_drew1) | exact HB.out)⟩
        · rw [if_neg c3] at H
          exact absurd H (by simp)
      · rw [if_neg c2] at H
        have c2b0 : decide (0 < (x0_1.length : Int)) = false := decide_eq_false c2
        have c2b1 : decide (0 < x0_1.length) = false := decide_eq_false (by omega)
        clear c2
        obtain rfl := Option.some.inj H
        obtain ⟨Ao9, co9, eo9⟩ := Kd.V_slice HO_0.out
        subst eo9
        go_wp2
        go_ret
        exact ⟨_, by first | rfl | (simp [errW_none, errW_some] <;> rfl) | (simp [*, errW_none, errW_some] <;> rfl), by (with_reducible repeat (first | apply Kd.V_alloc | apply Kd.V_drewN | apply Kd.V_drew)); exact HO_0.out, by repeat (first | (with_reducible first | exact HB.out | apply below_alloc | apply pw_below_drewN | apply below_drew1) | exact HB.out)⟩
end Go.Proofs.YtangjgclpipjdaaDoor.PFnValue
namespace Go.Proofs.YtangjgclpipjdaaDoor.PFnEncode
open Go.RowKit Go.Proofs.YtangjgclpipjdaaDoorW.PrintWords Go.Proofs.YtangjgclpipjdaaDoorW.PrintLast Go.Proofs.YtangjgclpipjdaaDoorW.PrintMore
attribute [local go_sem] max2_int min2_int max_two min_two max_three min_three max_four min_four   -- for this text's walks alone
set_option linter.unusedVariables false
set_option linter.unusedSimpArgs false
def errW : Option Int → Value
  | none => .nilIface
  | some c => .iface 0 (.int .i64 c)
theorem errW_none : errW none = .nilIface := rfl
theorem errW_some (c : Int) : errW (some c) = .iface 0 (.int .i64 c) := rfl
theorem info5 : (Tryd.prog.info? 5).map (fun i => (i.zero, i.size, i.bytes)) = some (some (.int .u8 0), 1, 1) := by kernel_rfl
end Go.Proofs.YtangjgclpipjdaaDoor.PFnEncode
namespace Go.Proofs.YtangjgclpipjdaaDoor.PFnEncode
open Go.RowKit Go.Proofs.YtangjgclpipjdaaDoorW.PrintWords Go.Proofs.YtangjgclpipjdaaDoorW.PrintLast Go.Proofs.YtangjgclpipjdaaDoorW.PrintMore
attribute [local go_sem] max2_int min2_int max_two min_two max_three min_three max_four min_four   -- for this text's walks alone
set_option linter.unusedVariables false
set_option linter.unusedSimpArgs false
mutual
def snmp_zzInteger.l0 : Nat → Int → Int → Int → Option (List Int)
  | 0, _, _, _ => none
  | k + 1, x0, x3, x4 => if x4 > 127 then (snmp_zzInteger.l0 k x0 (wrap64 (x3 + 1)) (x4 / 256)) else (if x4 < (-128) then (snmp_zzInteger.l0 k x0 (wrap64 (x3 + 1)) (x4 / 256)) else (snmp_zzInteger.l1 k x0 (([2, (x3) % 256] : List Int)) (wrap64 (x3 - 1))))
def snmp_zzInteger.l1 : Nat → Int → List Int → Int → Option (List Int)
  | 0, _, _, _ => none
  | k + 1, x0, x5, x6 => if x6 ≥ 0 then (if 0 ≤ (wrap64 (8 * x6)) then (if x5.length < 140737488355328 then (snmp_zzInteger.l1 k x0 (x5 ++ [(shr .i64 x0 (wrap64 (8 * x6))) % 256]) (wrap64 (x6 - 1))) else (none)) else (none)) else (some x5)
end
def snmp_zzInteger.f (k : Nat) (a0 : Int) : Option (List Int) := snmp_zzInteger.l0 k a0 1 a0
theorem snmp_zzInteger.mono_l : ∀ k, (∀ y0 y1 y2, LeO (snmp_zzInteger.l0 k y0 y1 y2) (snmp_zzInteger.l0 (k + 1) y0 y1 y2)) ∧ (∀ y0 y1 y2, LeO (snmp_zzInteger.l1 k y0 y1 y2) (snmp_zzInteger.l1 (k + 1) y0 y1 y2))
  | 0 => ⟨fun _ _ _ r h => by simp [snmp_zzInteger.l0] at h, fun _ _ _ r h => by simp [snmp_zzInteger.l1] at h⟩
  | k + 1 => by
    obtain ⟨ih0, ih1⟩ := snmp_zzInteger.mono_l k
    refine ⟨?_, ?_⟩
    · intro y0 y1 y2
      unfold snmp_zzInteger.l0
      repeat' first
      | (with_reducible exact ih0 _ _ _)
      | (with_reducible exact ih1 _ _ _)
      | (with_reducible exact LeO.refl _)
      | (with_reducible exact LeO.none _)
      | (with_reducible refine LeO.ite ?_ ?_)
      | (with_reducible refine LeO.bind ?_ (fun _ => ?_))
      | exact ih0 _ _ _
      | exact ih1 _ _ _
      | exact LeO.none _
      | refine LeO.ite ?_ ?_
      | refine LeO.bind ?_ (fun _ => ?_)
    · intro y0 y1 y2
      unfold snmp_zzInteger.l1
      repeat' first
      | (with_reducible exact ih0 _ _ _)
      | (with_reducible exact ih1 _ _ _)
      | (with_reducible exact LeO.refl _)
      | (with_reducible exact LeO.none _)
      | (with_reducible refine LeO.ite ?_ ?_)
      | (with_reducible refine LeO.bind ?_ (fun _ => ?_))
      | exact ih0 _ _ _
      | exact ih1 _ _ _
      | exact LeO.none _
      | refine LeO.ite ?_ ?_
      | refine LeO.bind ?_ (fun _ => ?_)
theorem snmp_zzInteger.mono : ∀ a0 k, LeO (snmp_zzInteger.f k a0) (snmp_zzInteger.f (k + 1) a0) := by
  intro a0 k
  obtain ⟨ih0, ih1⟩ := snmp_zzInteger.mono_l k
  unfold snmp_zzInteger.f
  repeat' first
      | (with_reducible exact ih0 _ _ _)
      | (with_reducible exact ih1 _ _ _)
      | (with_reducible exact LeO.refl _)
      | (with_reducible exact LeO.none _)
      | (with_reducible refine LeO.ite ?_ ?_)
      | (with_reducible refine LeO.bind ?_ (fun _ => ?_))
      | exact ih0 _ _ _
      | exact ih1 _ _ _
      | exact LeO.none _
      | refine LeO.ite ?_ ?_
      | refine LeO.bind ?_ (fun _ => ?_)
set_option maxHeartbeats 8000000 in
set_option maxRecDepth 100000 in
theorem snmp_zzInteger.calls (k : Nat) (a0 : Int) (r : List Int) (w : World) (h : snmp_zzInteger.f k a0 = some r) :
    Calls Tryd.prog 132 #[.int .i64 a0] w fun e w' => ∃ v0_ : Value, e = .returned (v0_) ∧ Kd.R (Kd.int .u8) 5 w' w.heap.size (fun _ => True) v0_ r ∧ Below w.heap.size w w' := by
  have HB := Aside0.mk (Below.refl w.heap.size w)
  have H : (snmp_zzInteger.l0 k a0 1 a0) = some r := h
  clear h
  have H' := Aside0.mk H
  clear H
  go_enter Tryd.func132, Tryd.ntmps132
  go_wp2
  go_loopg [3, 4] k (fun kq v3 v4 w' => ∃ (x3_1 : Int) (x4_1 : Int), v3 = .int .i64 x3_1 ∧ v4 = .int .i64 x4_1 ∧ Aside0 (snmp_zzInteger.l0 kq a0 x3_1 x4_1 = some r) ∧ Aside0 (kq ≤ k) ∧ Aside0 (Below w.heap.size w w'))
  case atStart => exact ⟨(1), (a0), (by first | rfl | (simp; done) | (simp [*]; done)), (by first | rfl | (simp; done) | (simp [*]; done)), H', ⟨Nat.le_refl _⟩, ⟨by repeat (first | (with_reducible first | exact HB.out | apply below_alloc | apply pw_below_drewN | apply below_drew1) | exact HB.out)⟩⟩
  case round =>
    clear H'
    try clear c1
    obtain ⟨x3_1, x4_1, rfl, rfl, HA, HK1, HB⟩ := hrel
    cases gk with
    | zero => exact absurd HA.out (by simp [snmp_zzInteger.l0])
    | succ k1 =>
      have H := HA.out
      clear HA
      simp only [snmp_zzInteger.l0] at H
      by_cases c2 : x4_1 > 127
      · rw [if_pos c2] at H
        have c2b0 : decide (127 < x4_1) = true := decide_eq_true c2
        clear c2
        have H' := Aside0.mk H
        clear H
        go_wp2
        go_roundg k1
        case measure => have := HK1.out; omega
        case rel => exact ⟨(wrap64 (x3_1 + 1)), (x4_1 / 256), (by first | rfl | (simp; done) | (simp [*]; done)), (by first | rfl | (simp; done) | (simp [*]; done)), H', ⟨by have := HK1.out; omega⟩, ⟨by repeat (first | (with_reducible first | exact HB.out | apply below_alloc | apply pw_below_drewN | apply below_drew1) | exact HB.out)⟩⟩
      · rw [if_neg c2] at H
        have c2b0 : decide (127 < x4_1) = false := decide_eq_false c2
        clear c2
        by_cases c3 : x4_1 < (-128)
        · rw [if_pos c3] at H
          have c3b0 : decide (x4_1 < (-128)) = true := decide_eq_true c3
          clear c3
          have H' := Aside0.mk H
          clear H
          go_wp2
          go_roundg k1
          case measure => have := HK1.out; omega
          case rel => exact ⟨(wrap64 (x3_1 + 1)), (x4_1 / 256), (by first | rfl | (simp; done) | (simp [*]; done)), (by first | rfl | (simp; done) | (simp [*]; done)), H', ⟨by have := HK1.out; omega⟩, ⟨by repeat (first | (with_reducible first | exact HB.out | apply below_alloc | apply pw_below_drewN | apply below_drew1) | exact HB.out)⟩⟩
        · rw [if_neg c3] at H
          have c3b0 : decide (x4_1 < (-128)) = false := decide_eq_false c3
          clear c3
          obtain ⟨y265, hy265⟩ : ∃ y_ : List Int, y_ = (([2, (x3_1) % 256] : List Int)) := ⟨_, rfl⟩
          replace H : (snmp_zzInteger.l1 k1 a0 y265 (wrap64 (x3_1 - 1))) = some r := by first | (rw [hy265]; with_reducible exact H) | (have H2_ := (Option.bind_some _ _).symm.trans H; rw [hy265]; with_reducible exact H2_) | (have H2_ := (Option.bind_some _ _).symm.trans H; with_reducible exact H2_) | with_reducible exact H | (rw [hy265]; exact H) | exact H
          have Ny265 := Aside0.mk hy265
          clear hy265
          have H' := Aside0.mk H
          clear H
          go_wp2_with (first | ((with_reducible refine gate_dst (N := 20) rfl ?_); refine Kd.R_lit (Kd.int .u8) _ 5 ?hg (N := 20) ?hd (xs := ([2, (x3_1) % 256] : List Int)) (inner := [.int .u8 2, .int .u8 ((x3_1) % 256)]) (ok := fun _ => True) (okp := fun _ => True) ?hr ?hp (fun _ hk => hk) trivial (Below.refl _ _) (Nat.le_refl _) (by simp) ?_; (case hd => rfl); (case hg => rfl); (case hr => first | (go_simp; done) | (go_simp; rfl)); (case hp => exact (Reps.one (show Kd.M (Kd.int .u8) _ _ _ 2 [.int .u8 2] from rfl) (Reps.one (show Kd.M (Kd.int .u8) _ _ _ ((x3_1) % 256) [.int .u8 ((x3_1) % 256)] from rfl) (Reps.none _ _)))); intro v266 w4 ho5 hb hg_ hnew_; clear hg_ hnew_; (first | rw [← Ny265.out] at ho5 | (simp only [Int.reduceToNat] at ho5; rw [← Ny265.out] at ho5)); have n0_ := Aside0.mk (Kd.R_lower ho5 (below_size (by repeat (first | (with_reducible first | exact HB.out | apply below_alloc | apply pw_below_drewN | apply below_drew1) | exact HB.out)))); have n1_ := Aside0.mk (below_step (by repeat (first | (with_reducible first | exact HB.out | apply below_alloc | apply pw_below_drewN | apply below_drew1) | exact HB.out)) hb); clear HB; have HO267 := n0_; have HB := n1_; clear n0_ n1_; clear hb ho5))
          go_loopg [5, 6] k1 (fun kq v5 v6 w' => ∃ (x5_2 : List Int) (x6_2 : Int), v6 = .int .i64 x6_2 ∧ Aside0 (snmp_zzInteger.l1 kq a0 x5_2 x6_2 = some r) ∧ Aside0 (kq ≤ k1) ∧ Aside0 (Kd.R (Kd.int .u8) 5 w' w.heap.size (fun _ => True) v5 x5_2) ∧ Aside0 (Below w.heap.size w w'))
          case atStart => exact ⟨(y265), (wrap64 (x3_1 - 1)), (by first | rfl | (simp; done) | (simp [*]; done)), H', ⟨Nat.le_refl _⟩, ⟨by (with_reducible repeat (first | apply Kd.R_alloc | apply Kd.R_drewN | apply Kd.R_drew)); exact HO267.out⟩, ⟨by repeat (first | (with_reducible first | exact HB.out | apply below_alloc | apply pw_below_drewN | apply below_drew1) | exact HB.out)⟩⟩
          case round =>
            clear H'
            try clear c1
            try clear c2
            try clear c2b0
            try clear p2
            try clear c3
            try clear c3b0
            obtain ⟨x5_2, x6_2, rfl, HA, HK2, HO_5, HB⟩ := hrel
            cases gk with
            | zero => exact absurd HA.out (by simp [snmp_zzInteger.l1])
            | succ k2 =>
              have H := HA.out
              clear HA
              simp only [snmp_zzInteger.l1] at H
              by_cases c6 : x6_2 ≥ 0
              · rw [if_pos c6] at H
                have c6b0 : decide (0 ≤ x6_2) = true := decide_eq_true c6
                clear c6
                obtain ⟨ji7, hji7⟩ : ∃ j_ : Int, (wrap64 (8 * x6_2)) = j_ := ⟨_, rfl⟩
                replace H : (if 0 ≤ (ji7) then (if x5_2.length < 140737488355328 then (snmp_zzInteger.l1 k2 a0 (x5_2 ++ [(shr .i64 a0 (ji7)) % 256]) (wrap64 (x6_2 - 1))) else (none)) else (none)) = some r := by first | (rw [hji7] at H; exact H) | (simp only [hji7] at H ⊢; exact H)
                have hji7w : (IntKind.i64.wrap (8 * x6_2)) = ji7 := (i64_w _).trans hji7
                by_cases c8 : 0 ≤ (ji7)
                · rw [if_pos c8] at H
                  have c8b0 := eq_true c8
                  have c8b1 : decide (0 ≤ (ji7)) = true := decide_eq_true c8
                  clear c8
                  obtain ⟨ji9, hji9⟩ : ∃ j_ : Int, (shr .i64 a0 (ji7)) = j_ := ⟨_, rfl⟩
                  replace H : (if x5_2.length < 140737488355328 then (snmp_zzInteger.l1 k2 a0 (x5_2 ++ [(ji9) % 256]) (wrap64 (x6_2 - 1))) else (none)) = some r := by first | (rw [hji9] at H; exact H) | (simp only [hji9] at H ⊢; exact H)
                  have hji9_ : (a0 / 2 ^ min (ji7).toNat 64) = ji9 := hji9
                  have hji9z : (ji7) ≤ 64 → (a0 / 2 ^ (ji7).toNat) = ji9 := shr_small hji9
                  by_cases c10 : x5_2.length < 140737488355328
                  · rw [if_pos c10] at H
                    have LMc10 := Aside0.mk c10
                    clear c10
                    obtain ⟨y268, hy268⟩ : ∃ y_ : List Int, y_ = (x5_2 ++ [(ji9) % 256]) := ⟨_, rfl⟩
                    replace H : (snmp_zzInteger.l1 k2 a0 y268 (wrap64 (x6_2 - 1))) = some r := by first | (rw [hy268]; with_reducible exact H) | (have H2_ := (Option.bind_some _ _).symm.trans H; rw [hy268]; with_reducible exact H2_) | (have H2_ := (Option.bind_some _ _).symm.trans H; with_reducible exact H2_) | with_reducible exact H | (rw [hy268]; exact H) | exact H
                    have Ny268 := Aside0.mk hy268
                    clear hy268
                    have H' := Aside0.mk H
                    clear H
                    go_wp2_with (first | ((with_reducible refine gate_builtin (b := .append) (xs := #[.tmp 27, .tmp 33]) rfl ?_); at_builtin; refine Kd.R_append (Kd.int .u8) (w0 := w) w.heap.size rfl (.tmp 27) (.tmp 33) 26 5 (.int .u8 0) 1 rfl Tryd.underlying26 info5 rfl (by decide) (by omega) u5 x5_2 ((ji9) % 256) [.int .u8 ((ji9) % 256)] (fun _ => True) (fun _ => False) rfl rfl ?aP (fun _ hk => hk.elim) ?aF ?aO ?aB ?aS ?aL ?_; (case aP => exact rfl); (case aB => exact (by repeat (first | (with_reducible first | exact HB.out | apply below_alloc | apply pw_below_drewN | apply below_drew1) | exact HB.out))); (case aF => exact (fun _ _ => trivial)); (case aO => exact (by (with_reducible repeat (first | apply Kd.R_alloc | apply Kd.R_drewN | apply Kd.R_drew)); exact HO_5.out)); (case aS => exact (below_size (by repeat (first | (with_reducible first | exact HB.out | apply below_alloc | apply pw_below_drewN | apply below_drew1) | exact HB.out)))); (case aL => have := LMc10.out; omega); intro v269 w11 ho hb hg hat; rw [← Ny268.out] at ho; have n0_ := Aside0.mk (hb); have n1_ := Aside0.mk (ho); clear HB; clear HO_5; have HB := n0_; have HO270 := n1_; clear n0_ n1_; clear ho hb hg hat))
                    go_roundg k2
                    case measure => have := HK1.out; have := HK2.out; omega
                    case rel => exact ⟨(y268), (wrap64 (x6_2 - 1)), (by first | rfl | (simp; done) | (simp [*]; done)), H', ⟨by have := HK1.out; have := HK2.out; omega⟩, ⟨by (with_reducible repeat (first | apply Kd.R_alloc | apply Kd.R_drewN | apply Kd.R_drew)); exact HO270.out⟩, ⟨by repeat (first | (with_reducible first | exact HB.out | apply below_alloc | apply pw_below_drewN | apply below_drew1) | exact HB.out)⟩⟩
                  · rw [if_neg c10] at H
                    exact absurd H (by simp)
                · rw [if_neg c8] at H
                  exact absurd H (by simp)
              · rw [if_neg c6] at H
                have c6b0 : decide (0 ≤ x6_2) = false := decide_eq_false c6
                clear c6
                obtain rfl := Option.some.inj H
                go_wp2
                go_ret
                exact ⟨_, by first | rfl | (simp [errW_none, errW_some] <;> rfl) | (simp [*, errW_none, errW_some] <;> rfl), by (with_reducible repeat (first | apply Kd.R_alloc | apply Kd.R_drewN | apply Kd.R_drew)); exact HO_5.out, by repeat (first | (with_reducible first | exact HB.out | apply below_alloc | apply pw_below_drewN | apply below_drew1) | exact HB.out)⟩
mutual
def snmp_appendBase128Int.l0 : Nat → List Int → Int → Int → Int → Option (List Int)
  | 0, _, _, _, _ => none
  | k + 1, x0, x1, x5, x6 => if x6 > 0 then (snmp_appendBase128Int.l0 k x0 x1 (wrap64 (x5 + 1)) (x6 / 128)) else (snmp_appendBase128Int.l1 k x0 x1 (wrap64 (x5 - 1)))
def snmp_appendBase128Int.l1 : Nat → List Int → Int → Int → Option (List Int)
  | 0, _, _, _ => none
  | k + 1, x0, x1, x7 => if x7 ≥ 0 then (if 0 ≤ (IntKind.u64.wrap (wrap64 (x7 * 7))) then (if x7 = 0 then (if x0.length < 140737488355328 then (snmp_appendBase128Int.l1 k (x0 ++ [Go.bits .and .u8 ((shr .i64 x1 (IntKind.u64.wrap (wrap64 (x7 * 7)))) % 256) 127]) x1 (wrap64 (x7 - 1))) else (none)) else (if x0.length < 140737488355328 then (snmp_appendBase128Int.l1 k (x0 ++ [Go.bits .or .u8 (Go.bits .and .u8 ((shr .i64 x1 (IntKind.u64.wrap (wrap64 (x7 * 7)))) % 256) 127) 128]) x1 (wrap64 (x7 - 1))) else (none))) else (none)) else (some x0)
end
def snmp_appendBase128Int.f (k : Nat) (l0 : List Int) (a1 : Int) : Option (List Int) := if a1 = 0 then (if l0.length < 140737488355328 then (some (l0 ++ [0])) else (none)) else (snmp_appendBase128Int.l0 k l0 a1 0 a1)
theorem snmp_appendBase128Int.mono_l : ∀ k, (∀ y0 y1 y2 y3, LeO (snmp_appendBase128Int.l0 k y0 y1 y2 y3) (snmp_appendBase128Int.l0 (k + 1) y0 y1 y2 y3)) ∧ (∀ y0 y1 y2, LeO (snmp_appendBase128Int.l1 k y0 y1 y2) (snmp_appendBase128Int.l1 (k + 1) y0 y1 y2))
  | 0 => ⟨fun _ _ _ _ r h => by simp [snmp_appendBase128Int.l0] at h, fun _ _ _ r h => by simp [snmp_appendBase128Int.l1] at h⟩
  | k + 1 => by
    obtain ⟨ih0, ih1⟩ := snmp_appendBase128Int.mono_l k
    refine ⟨?_, ?_⟩
    · intro y0 y1 y2 y3
      unfold snmp_appendBase128Int.l0
      repeat' first
      | (with_reducible exact ih0 _ _ _ _)
      | (with_reducible exact ih1 _ _ _)
      | (with_reducible exact LeO.refl _)
      | (with_reducible exact LeO.none _)
      | (with_reducible refine LeO.ite ?_ ?_)
      | (with_reducible refine LeO.bind ?_ (fun _ => ?_))
      | exact ih0 _ _ _ _
      | exact ih1 _ _ _
      | exact LeO.none _
      | refine LeO.ite ?_ ?_
      | refine LeO.bind ?_ (fun _ => ?_)
    · intro y0 y1 y2
      unfold snmp_appendBase128Int.l1
      repeat' first
      | (with_reducible exact ih0 _ _ _ _)
      | (with_reducible exact ih1 _ _ _)
      | (with_reducible exact LeO.refl _)
      | (with_reducible exact LeO.none _)
      | (with_reducible refine LeO.ite ?_ ?_)
      | (with_reducible refine LeO.bind ?_ (fun _ => ?_))
      | exact ih0 _ _ _ _
      | exact ih1 _ _ _
      | exact LeO.none _
      | refine LeO.ite ?_ ?_
      | refine LeO.bind ?_ (fun _ => ?_)
theorem snmp_appendBase128Int.mono : ∀ a0 a1 k, LeO (snmp_appendBase128Int.f k a0 a1) (snmp_appendBase128Int.f (k + 1) a0 a1) := by
  intro a0 a1 k
  obtain ⟨ih0, ih1⟩ := snmp_appendBase128Int.mono_l k
  unfold snmp_appendBase128Int.f
  repeat' first
      | (with_reducible exact ih0 _ _ _ _)
      | (with_reducible exact ih1 _ _ _)
      | (with_reducible exact LeO.refl _)
      | (with_reducible exact LeO.none _)
      | (with_reducible refine LeO.ite ?_ ?_)
      | (with_reducible refine LeO.bind ?_ (fun _ => ?_))
      | exact ih0 _ _ _ _
      | exact ih1 _ _ _
      | exact LeO.none _
      | refine LeO.ite ?_ ?_
      | refine LeO.bind ?_ (fun _ => ?_)
set_option maxHeartbeats 8000000 in
set_option maxRecDepth 100000 in
theorem snmp_appendBase128Int.calls (k : Nat) (P0_ : Nat → Prop) (u9000_ : Value) (l0 : List Int) (a1 : Int) (r : List Int) (w0 w : World) (hB : Below w0.heap.size w0 w) (ho0 : Kd.R (Kd.int .u8) 5 w w0.heap.size P0_ u9000_ l0) (h : snmp_appendBase128Int.f k l0 a1 = some r) :
    Calls Tryd.prog 90 #[u9000_, .int .i64 a1] w fun e w' => ∃ v0_ : Value, e = .returned (v0_) ∧ Kd.R (Kd.int .u8) 5 w' w0.heap.size (fun k_ => (P0_ k_ ∨ w.heap.size ≤ k_)) v0_ r ∧ Below w0.heap.size w0 w' ∧ Kept w w' (fun k_ => P0_ k_) := by
  have HO0 := Aside0.mk (show Kd.R (Kd.int .u8) 5 w w0.heap.size (fun k_ => (P0_ k_ ∨ w.heap.size ≤ k_)) u9000_ l0 from Kd.R_mono ho0 (fun k_ hk => (.inl hk)))
  have HK := Aside0.mk (Kept.refl w (fun k_ => P0_ k_))
  have HW0 := Aside0.mk hB.size
  have HB := Aside0.mk hB
  clear hB
  have H : (if a1 = 0 then (if l0.length < 140737488355328 then (some (l0 ++ [0])) else (none)) else (snmp_appendBase128Int.l0 k l0 a1 0 a1)) = some r := h
  clear h
  by_cases c3 : a1 = 0
  · rw [if_pos c3] at H
    have c3b0 : (a1 == 0) = true := beq_iff_eq.mpr c3
    have c3b1 : (a1 != 0) = false := bne_eq_false_iff_eq.mpr c3
    clear c3
    by_cases c4 : l0.length < 140737488355328
    · rw [if_pos c4] at H
      have LMc4 := Aside0.mk c4
      clear c4
      obtain ⟨y274, hy274⟩ : ∃ y_ : List Int, y_ = (l0 ++ [0]) := ⟨_, rfl⟩
      replace H : (some y274) = some r := by first | (rw [hy274]; with_reducible exact H) | (have H2_ := (Option.bind_some _ _).symm.trans H; rw [hy274]; with_reducible exact H2_) | (have H2_ := (Option.bind_some _ _).symm.trans H; with_reducible exact H2_) | with_reducible exact H | (rw [hy274]; exact H) | exact H
      have Ny274 := Aside0.mk hy274
      clear hy274
      obtain rfl := Option.some.inj H
      go_enter Tryd.func90, Tryd.ntmps90
      go_wp2_with (first | ((with_reducible refine gate_builtin (b := .append) (xs := #[.tmp 11, .tmp 12]) rfl ?_); at_builtin; refine Kd.R_append (Kd.int .u8) (w0 := w0) w0.heap.size rfl (.tmp 11) (.tmp 12) 26 5 (.int .u8 0) 1 rfl Tryd.underlying26 info5 rfl (by decide) (by omega) u9000_ l0 0 [.int .u8 0] (fun k_ => (P0_ k_ ∨ w.heap.size ≤ k_)) (fun _ => False) rfl rfl ?aP (fun _ hk => hk.elim) ?aF ?aO ?aB ?aS ?aL ?_; (case aP => exact rfl); (case aB => exact (by repeat (first | (with_reducible first | exact HB.out | apply below_alloc | apply pw_below_drewN | apply below_drew1) | exact HB.out))); (case aF => exact (fun k_ hk => (.inr (Nat.le_trans (by first | exact HK.out.1 | exact (show Kept w _ (fun k_ => P0_ k_) from by repeat (first | (with_reducible first | exact HK.out | apply Kept.alloc | apply Kept.drewN | apply Kept.drew) | exact HK.out)).1) hk)))); (case aO => exact (by (with_reducible repeat (first | apply Kd.R_alloc | apply Kd.R_drewN | apply Kd.R_drew)); exact HO0.out)); (case aS => exact (below_size (by repeat (first | (with_reducible first | exact HB.out | apply below_alloc | apply pw_below_drewN | apply below_drew1) | exact HB.out)))); (case aL => have := LMc4.out; omega); intro v275 w5 ho hb hg hat; rw [← Ny274.out] at ho; have n0_ := Aside0.mk (hb); have n1_ := Aside0.mk (Kept.of_grown (S := (fun k_ => P0_ k_)) hg (by repeat (first | (with_reducible first | exact HK.out | apply Kept.alloc | apply Kept.drewN | apply Kept.drew) | exact HK.out)) (fun k_ e_ => (HO0.out.1 k_ e_))); have n2_ := Aside0.mk (ho); clear HB; clear HK; clear HO0; have HB := n0_; have HK := n1_; have HO276 := n2_; clear n0_ n1_ n2_; clear ho hb hg hat))
      go_ret
      exact ⟨_, by first | rfl | (simp [errW_none, errW_some] <;> rfl) | (simp [*, errW_none, errW_some] <;> rfl), by (with_reducible repeat (first | apply Kd.R_alloc | apply Kd.R_drewN | apply Kd.R_drew)); exact HO276.out, by repeat (first | (with_reducible first | exact HB.out | apply below_alloc | apply pw_below_drewN | apply below_drew1) | exact HB.out), by repeat (first | (with_reducible first | exact HK.out | apply Kept.alloc | apply Kept.drewN | apply Kept.drew) | exact HK.out)⟩
    · rw [if_neg c4] at H
      exact absurd H (by simp)
  · rw [if_neg c3] at H
    have c3b0 : (a1 == 0) = false := beq_eq_false_iff_ne.mpr c3
    have c3b1 : (a1 != 0) = true := bne_iff_ne.mpr c3
    have H' := Aside0.mk H
    clear H
    go_enter Tryd.func90, Tryd.ntmps90
    go_wp2
    go_loopg [5, 6] k (fun kq v5 v6 w' => ∃ (x5_1 : Int) (x6_1 : Int), v5 = .int .i64 x5_1 ∧ v6 = .int .i64 x6_1 ∧ Aside0 (snmp_appendBase128Int.l0 kq l0 a1 x5_1 x6_1 = some r) ∧ Aside0 (kq ≤ k) ∧ Aside0 (Kd.R (Kd.int .u8) 5 w' w0.heap.size (fun k_ => (P0_ k_ ∨ w.heap.size ≤ k_)) u9000_ l0) ∧ Aside0 (Kept w w' (fun k_ => P0_ k_)) ∧ Aside0 (Below w0.heap.size w0 w'))
    case atStart => exact ⟨(0), (a1), (by first | rfl | (simp; done) | (simp [*]; done)), (by first | rfl | (simp; done) | (simp [*]; done)), H', ⟨Nat.le_refl _⟩, ⟨by (with_reducible repeat (first | apply Kd.R_alloc | apply Kd.R_drewN | apply Kd.R_drew)); exact HO0.out⟩, ⟨by repeat (first | (with_reducible first | exact HK.out | apply Kept.alloc | apply Kept.drewN | apply Kept.drew) | exact HK.out)⟩, ⟨by repeat (first | (with_reducible first | exact HB.out | apply below_alloc | apply pw_below_drewN | apply below_drew1) | exact HB.out)⟩⟩
    case round =>
      clear H'
      try clear p2
      try clear c3
      try clear c3b0
      try clear c3b1
      try clear c4
      obtain ⟨x5_1, x6_1, rfl, rfl, HA, HK1, HO_0, HK, HB⟩ := hrel
      cases gk with
      | zero => exact absurd HA.out (by simp [snmp_appendBase128Int.l0])
      | succ k1 =>
        have H := HA.out
        clear HA
        simp only [snmp_appendBase128Int.l0] at H
        by_cases c6 : x6_1 > 0
        · rw [if_pos c6] at H
          have c6b0 : decide (0 < x6_1) = true := decide_eq_true c6
          clear c6
          have H' := Aside0.mk H
          clear H
          go_wp2
          go_roundg k1
          case measure => have := HK1.out; omega
          case rel => exact ⟨(wrap64 (x5_1 + 1)), (x6_1 / 128), (by first | rfl | (simp; done) | (simp [*]; done)), (by first | rfl | (simp; done) | (simp [*]; done)), H', ⟨by have := HK1.out; omega⟩, ⟨by (with_reducible repeat (first | apply Kd.R_alloc | apply Kd.R_drewN | apply Kd.R_drew)); exact HO_0.out⟩, ⟨by repeat (first | (with_reducible first | exact HK.out | apply Kept.alloc | apply Kept.drewN | apply Kept.drew) | exact HK.out)⟩, ⟨by repeat (first | (with_reducible first | exact HB.out | apply below_alloc | apply pw_below_drewN | apply below_drew1) | exact HB.out)⟩⟩
        · rw [if_neg c6] at H
          have c6b0 : decide (0 < x6_1) = false := decide_eq_false c6
          clear c6
          have H' := Aside0.mk H
          clear H
          go_wp2
          go_loopg [0, 7] k1 (fun kq v0 v7 w' => ∃ (x0_2 : List Int) (x7_2 : Int), v7 = .int .i64 x7_2 ∧ Aside0 (snmp_appendBase128Int.l1 kq x0_2 a1 x7_2 = some r) ∧ Aside0 (kq ≤ k1) ∧ Aside0 (Kd.R (Kd.int .u8) 5 w' w0.heap.size (fun k_ => (P0_ k_ ∨ w.heap.size ≤ k_)) v0 x0_2) ∧ Aside0 (Kept w w' (fun k_ => P0_ k_)) ∧ Aside0 (Below w0.heap.size w0 w'))
          case atStart => exact ⟨(l0), (wrap64 (x5_1 - 1)), (by first | rfl | (simp; done) | (simp [*]; done)), H', ⟨Nat.le_refl _⟩, ⟨by (with_reducible repeat (first | apply Kd.R_alloc | apply Kd.R_drewN | apply Kd.R_drew)); exact HO_0.out⟩, ⟨by repeat (first | (with_reducible first | exact HK.out | apply Kept.alloc | apply Kept.drewN | apply Kept.drew) | exact HK.out)⟩, ⟨by repeat (first | (with_reducible first | exact HB.out | apply below_alloc | apply pw_below_drewN | apply below_drew1) | exact HB.out)⟩⟩
          case round =>
            clear H'
            try clear p2
            try clear c3
            try clear c3b0
            try clear c3b1
            try clear c4
            try clear c6
            try clear c6b0
            try clear p6
            try clear p2
            obtain ⟨x0_2, x7_2, rfl, HA, HK2, HO_0, HK, HB⟩ := hrel
            cases gk with
            | zero => exact absurd HA.out (by simp [snmp_appendBase128Int.l1])
            | succ k2 =>
              have H := HA.out
              clear HA
              simp only [snmp_appendBase128Int.l1] at H
              by_cases c7 : x7_2 ≥ 0
              · rw [if_pos c7] at H
                have c7b0 : decide (0 ≤ x7_2) = true := decide_eq_true c7
                clear c7
                obtain ⟨ji8, hji8⟩ : ∃ j_ : Int, (IntKind.u64.wrap (wrap64 (x7_2 * 7))) = j_ := ⟨_, rfl⟩
                replace H : (if 0 ≤ (ji8) then (if x7_2 = 0 then (if x0_2.length < 140737488355328 then (snmp_appendBase128Int.l1 k2 (x0_2 ++ [Go.bits .and .u8 ((shr .i64 a1 (ji8)) % 256) 127]) a1 (wrap64 (x7_2 - 1))) else (none)) else (if x0_2.length < 140737488355328 then (snmp_appendBase128Int.l1 k2 (x0_2 ++ [Go.bits .or .u8 (Go.bits .and .u8 ((shr .i64 a1 (ji8)) % 256) 127) 128]) a1 (wrap64 (x7_2 - 1))) else (none))) else (none)) = some r := by first | (rw [hji8] at H; exact H) | (simp only [hji8] at H ⊢; exact H)
                by_cases c9 : 0 ≤ (ji8)
                · rw [if_pos c9] at H
                  have c9b0 := eq_true c9
                  have c9b1 : decide (0 ≤ (ji8)) = true := decide_eq_true c9
                  clear c9
                  obtain ⟨ji10, hji10⟩ : ∃ j_ : Int, (shr .i64 a1 (ji8)) = j_ := ⟨_, rfl⟩
                  replace H : (if x7_2 = 0 then (if x0_2.length < 140737488355328 then (snmp_appendBase128Int.l1 k2 (x0_2 ++ [Go.bits .and .u8 ((ji10) % 256) 127]) a1 (wrap64 (x7_2 - 1))) else (none)) else (if x0_2.length < 140737488355328 then (snmp_appendBase128Int.l1 k2 (x0_2 ++ [Go.bits .or .u8 (Go.bits .and .u8 ((ji10) % 256) 127) 128]) a1 (wrap64 (x7_2 - 1))) else (none))) = some r := by first | (rw [hji10] at H; exact H) | (simp only [hji10] at H ⊢; exact H)
                  have hji10_ : (a1 / 2 ^ min (ji8).toNat 64) = ji10 := hji10
                  have hji10z : (ji8) ≤ 64 → (a1 / 2 ^ (ji8).toNat) = ji10 := shr_small hji10
                  by_cases c11 : x7_2 = 0
                  · rw [if_pos c11] at H
                    have c11b0 : (x7_2 == 0) = true := beq_iff_eq.mpr c11
                    have c11b1 : (x7_2 != 0) = false := bne_eq_false_iff_eq.mpr c11
                    clear c11
                    by_cases c12 : x0_2.length < 140737488355328
                    · rw [if_pos c12] at H
                      have LMc12 := Aside0.mk c12
                      clear c12
                      obtain ⟨y277, hy277⟩ : ∃ y_ : List Int, y_ = (x0_2 ++ [Go.bits .and .u8 ((ji10) % 256) 127]) := ⟨_, rfl⟩
                      replace H : (snmp_appendBase128Int.l1 k2 y277 a1 (wrap64 (x7_2 - 1))) = some r := by first | (rw [hy277]; with_reducible exact H) | (have H2_ := (Option.bind_some _ _).symm.trans H; rw [hy277]; with_reducible exact H2_) | (have H2_ := (Option.bind_some _ _).symm.trans H; with_reducible exact H2_) | with_reducible exact H | (rw [hy277]; exact H) | exact H
                      have Ny277 := Aside0.mk hy277
                      clear hy277
                      have H' := Aside0.mk H
                      clear H
                      go_wp2_with (first | ((with_reducible refine gate_builtin (b := .append) (xs := #[.tmp 38, .tmp 40]) rfl ?_); at_builtin; refine Kd.R_append (Kd.int .u8) (w0 := w0) w0.heap.size rfl (.tmp 38) (.tmp 40) 26 5 (.int .u8 0) 1 rfl Tryd.underlying26 info5 rfl (by decide) (by omega) u0 x0_2 (Go.bits .and .u8 ((ji10) % 256) 127) [.int .u8 (Go.bits .and .u8 ((ji10) % 256) 127)] (fun k_ => (P0_ k_ ∨ w.heap.size ≤ k_)) (fun _ => False) rfl rfl ?aP (fun _ hk => hk.elim) ?aF ?aO ?aB ?aS ?aL ?_; (case aP => exact rfl); (case aB => exact (by repeat (first | (with_reducible first | exact HB.out | apply below_alloc | apply pw_below_drewN | apply below_drew1) | exact HB.out))); (case aF => exact (fun k_ hk => (.inr (Nat.le_trans (by first | exact HK.out.1 | exact (show Kept w _ (fun k_ => P0_ k_) from by repeat (first | (with_reducible first | exact HK.out | apply Kept.alloc | apply Kept.drewN | apply Kept.drew) | exact HK.out)).1) hk)))); (case aO => exact (by (with_reducible repeat (first | apply Kd.R_alloc | apply Kd.R_drewN | apply Kd.R_drew)); exact HO_0.out)); (case aS => exact (below_size (by repeat (first | (with_reducible first | exact HB.out | apply below_alloc | apply pw_below_drewN | apply below_drew1) | exact HB.out)))); (case aL => have := LMc12.out; omega); intro v278 w13 ho hb hg hat; rw [← Ny277.out] at ho; have n0_ := Aside0.mk (hb); have n1_ := Aside0.mk (Kept.of_grown (S := (fun k_ => P0_ k_)) hg (by repeat (first | (with_reducible first | exact HK.out | apply Kept.alloc | apply Kept.drewN | apply Kept.drew) | exact HK.out)) (fun k_ e_ => (HO_0.out.1 k_ e_))); have n2_ := Aside0.mk (ho); clear HB; clear HK; clear HO_0; have HB := n0_; have HK := n1_; have HO279 := n2_; clear n0_ n1_ n2_; clear ho hb hg hat))
                      go_roundg k2
                      case measure => have := HK1.out; have := HK2.out; omega
                      case rel => exact ⟨(y277), (wrap64 (x7_2 - 1)), (by first | rfl | (simp; done) | (simp [*]; done)), H', ⟨by have := HK1.out; have := HK2.out; omega⟩, ⟨by (with_reducible repeat (first | apply Kd.R_alloc | apply Kd.R_drewN | apply Kd.R_drew)); exact HO279.out⟩, ⟨by repeat (first | (with_reducible first | exact HK.out | apply Kept.alloc | apply Kept.drewN | apply Kept.drew) | exact HK.out)⟩, ⟨by repeat (first | (with_reducible first | exact HB.out | apply below_alloc | apply pw_below_drewN | apply below_drew1) | exact HB.out)⟩⟩
                    · rw [if_neg c12] at H
                      exact absurd H (by simp)
                  · rw [if_neg c11] at H
                    have c11b0 : (x7_2 == 0) = false := beq_eq_false_iff_ne.mpr c11
                    have c11b1 : (x7_2 != 0) = true := bne_iff_ne.mpr c11
                    by_cases c14 : x0_2.length < 140737488355328
                    · rw [if_pos c14] at H
                      have LMc14 := Aside0.mk c14
                      clear c14
                      obtain ⟨y280, hy280⟩ : ∃ y_ : List Int, y_ = (x0_2 ++ [Go.bits .or .u8 (Go.bits .and .u8 ((ji10) % 256) 127) 128]) := ⟨_, rfl⟩
                      replace H : (snmp_appendBase128Int.l1 k2 y280 a1 (wrap64 (x7_2 - 1))) = some r := by first | (rw [hy280]; with_reducible exact H) | (have H2_ := (Option.bind_some _ _).symm.trans H; rw [hy280]; with_reducible exact H2_) | (have H2_ := (Option.bind_some _ _).symm.trans H; with_reducible exact H2_) | with_reducible exact H | (rw [hy280]; exact H) | exact H
                      have Ny280 := Aside0.mk hy280
                      clear hy280
                      have H' := Aside0.mk H
                      clear H
                      go_wp2_with (first | ((with_reducible refine gate_builtin (b := .append) (xs := #[.tmp 38, .tmp 40]) rfl ?_); at_builtin; refine Kd.R_append (Kd.int .u8) (w0 := w0) w0.heap.size rfl (.tmp 38) (.tmp 40) 26 5 (.int .u8 0) 1 rfl Tryd.underlying26 info5 rfl (by decide) (by omega) u0 x0_2 (Go.bits .or .u8 (Go.bits .and .u8 ((ji10) % 256) 127) 128) [.int .u8 (Go.bits .or .u8 (Go.bits .and .u8 ((ji10) % 256) 127) 128)] (fun k_ => (P0_ k_ ∨ w.heap.size ≤ k_)) (fun _ => False) rfl rfl ?aP (fun _ hk => hk.elim) ?aF ?aO ?aB ?aS ?aL ?_; (case aP => exact rfl); (case aB => exact (by repeat (first | (with_reducible first | exact HB.out | apply below_alloc | apply pw_below_drewN | apply below_drew1) | exact HB.out))); (case aF => exact (fun k_ hk => (.inr (Nat.le_trans (by first | exact HK.out.1 | exact (show Kept w _ (fun k_ => P0_ k_) from by repeat (first | (with_reducible first | exact HK.out | apply Kept.alloc | apply Kept.drewN | apply Kept.drew) | exact HK.out)).1) hk)))); (case aO => exact (by (with_reducible repeat (first | apply Kd.R_alloc | apply Kd.R_drewN | apply Kd.R_drew)); exact HO_0.out)); (case aS => exact (below_size (by repeat (first | (with_reducible first | exact HB.out | apply below_alloc | apply pw_below_drewN | apply below_drew1) | exact HB.out)))); (case aL => have := LMc14.out; omega); intro v281 w15 ho hb hg hat; rw [← Ny280.out] at ho; have n0_ := Aside0.mk (hb); have n1_ := Aside0.mk (Kept.of_grown (S := (fun k_ => P0_ k_)) hg (by repeat (first | (with_reducible first | exact HK.out | apply Kept.alloc | apply Kept.drewN | apply Kept.drew) | exact HK.out)) (fun k_ e_ => (HO_0.out.1 k_ e_))); have n2_ := Aside0.mk (ho); clear HB; clear HK; clear HO_0; have HB := n0_; have HK := n1_; have HO282 := n2_; clear n0_ n1_ n2_; clear ho hb hg hat))
                      go_roundg k2
                      case measure => have := HK1.out; have := HK2.out; omega
                      case rel => exact ⟨(y280), (wrap64 (x7_2 - 1)), (by first | rfl | (simp; done) | (simp [*]; done)), H', ⟨by have := HK1.out; have := HK2.out; omega⟩, ⟨by (with_reducible repeat (first | apply Kd.R_alloc | apply Kd.R_drewN | apply Kd.R_drew)); exact HO282.out⟩, ⟨by repeat (first | (with_reducible first | exact HK.out | apply Kept.alloc | apply Kept.drewN | apply Kept.drew) | exact HK.out)⟩, ⟨by repeat (first | (with_reducible first | exact HB.out | apply below_alloc | apply pw_below_drewN | apply below_drew1) | exact HB.out)⟩⟩
                    · rw [if_neg c14] at H
                      exact absurd H (by simp)
                · rw [if_neg c9] at H
                  exact absurd H (by simp)
              · rw [if_neg c7] at H
                have c7b0 : decide (0 ≤ x7_2) = false := decide_eq_false c7
                clear c7
                obtain rfl := Option.some.inj H
                go_wp2
                go_ret
                exact ⟨_, by first | rfl | (simp [errW_none, errW_some] <;> rfl) | (simp [*, errW_none, errW_some] <;> rfl), by (with_reducible repeat (first | apply Kd.R_alloc | apply Kd.R_drewN | apply Kd.R_drew)); exact HO_0.out, by repeat (first | (with_reducible first | exact HB.out | apply below_alloc | apply pw_below_drewN | apply below_drew1) | exact HB.out), by repeat (first | (with_reducible first | exact HK.out | apply Kept.alloc | apply Kept.drewN | apply Kept.drew) | exact HK.out)⟩
end Go.Proofs.YtangjgclpipjdaaDoor.PFnEncode
