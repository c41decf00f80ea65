-- PRINTED BY print.sh 35421559b90ae4d0a3588c463048766b98c2df88dd9212a6774a882060cdf62d: not written by this session
import Derived.Test.YtacbdhklfgapkaaPFnUintx0
namespace Go.Proofs.Ytacbdhklfgapkaa.PFnUint
open Go.RowKit Go.Proofs.YtacbdhklfgapkaaW.PrintWords Go.Proofs.YtacbdhklfgapkaaW.PrintLast Go.Proofs.YtacbdhklfgapkaaW.PrintMore
attribute [local go_sem] max2_int min2_int max_two min_two max_three min_three max_four min_four   -- for this text's walks alone
set_option linter.unusedVariables false
set_option linter.unusedSimpArgs false

-- NOT PRINTED: function 20 (slices_Clone_byte_byte)

-- NOT PRINTED: function 28 (errors_New)

-- NOT PRINTED: function 29 (binary_bigEndian_PutUint64)

/-! ### snmp_zzTrim: function 31 -/
def snmp_zzTrim.l0 : Nat → List Int → Option (List Int)
  | 0, _ => none
  | k + 1, x0 => if (x0.length : Int) > 0 then (if 0 < (x0.length : Int) then (if (rd x0 0) = 0 then (if 1 ≤ (x0.length : Int) then (snmp_zzTrim.l0 k (x0.drop 1)) else (none)) else (some x0)) else (none)) else (some x0)
def snmp_zzTrim.f (k : Nat) (l0 : List Int) : Option (List Int) := snmp_zzTrim.l0 k l0
theorem snmp_zzTrim.mono_l : ∀ k, (∀ y0, LeO (snmp_zzTrim.l0 k y0) (snmp_zzTrim.l0 (k + 1) y0))
  | 0 => fun _ r h => by simp [snmp_zzTrim.l0] at h
  | k + 1 => by
    have ih0 := snmp_zzTrim.mono_l k
    · intro y0
      unfold snmp_zzTrim.l0
      repeat' first
      | (with_reducible exact ih0 _)
      | (with_reducible exact LeO.refl _)
      | (with_reducible exact LeO.none _)
      | (with_reducible refine LeO.ite ?_ ?_)
      | (with_reducible refine LeO.bind ?_ (fun _ => ?_))
      | exact ih0 _
      | exact LeO.none _
      | refine LeO.ite ?_ ?_
      | refine LeO.bind ?_ (fun _ => ?_)
theorem snmp_zzTrim.mono : ∀ a0 k, LeO (snmp_zzTrim.f k a0) (snmp_zzTrim.f (k + 1) a0) := by
  intro a0 k
  have ih0 := snmp_zzTrim.mono_l k
  unfold snmp_zzTrim.f
  repeat' first
      | (with_reducible exact ih0 _)
      | (with_reducible exact LeO.refl _)
      | (with_reducible exact LeO.none _)
      | (with_reducible refine LeO.ite ?_ ?_)
      | (with_reducible refine LeO.bind ?_ (fun _ => ?_))
      | exact ih0 _
      | exact LeO.none _
      | refine LeO.ite ?_ ?_
      | refine LeO.bind ?_ (fun _ => ?_)
set_option maxHeartbeats 8000000 in
set_option maxRecDepth 100000 in
theorem snmp_zzTrim.calls (k : Nat) (P0_ : Nat → Prop) (A0 : Option Addr) (c0 : Nat) (l0 : List Int) (r : List Int) (w : World) (hs0 : Kd.V (Kd.int .u8) 5 w w.heap.size (fun k_ => P0_ k_) (.slice A0 l0.length c0) l0) (h : snmp_zzTrim.f k l0 = some r) :
    Calls Try.prog 31 #[.slice A0 l0.length c0] w fun e w' => ∃ v0_ : Value, e = .returned (v0_) ∧ Kd.V (Kd.int .u8) 5 w' w.heap.size (fun k_ => (P0_ k_ ∨ w.heap.size ≤ k_)) v0_ r ∧ Below w.heap.size w w' := by
  have HO0 := Aside0.mk (show Kd.V (Kd.int .u8) 5 w w.heap.size (fun k_ => (P0_ k_ ∨ w.heap.size ≤ k_)) (.slice A0 l0.length c0) l0 from Kd.V_mono hs0 (fun k_ hk => .inl hk))
  have HB := Aside0.mk (Below.refl w.heap.size w)
  have H : (snmp_zzTrim.l0 k l0) = some r := h
  clear h
  have H' := Aside0.mk H
  clear H
  go_enter Try.func31, Try.ntmps31
  go_wp2
  go_loopg [0] k (fun kq v0 w' => ∃ (x0_1 : List Int), Aside0 (snmp_zzTrim.l0 kq x0_1 = some r) ∧ Aside0 (kq ≤ k) ∧ Aside0 (Kd.V (Kd.int .u8) 5 w' w.heap.size (fun k_ => (P0_ k_ ∨ w.heap.size ≤ k_)) v0 x0_1) ∧ Aside0 (Below w.heap.size w w'))
  case atStart => exact ⟨(l0), H', ⟨Nat.le_refl _⟩, ⟨by (with_reducible repeat (first | apply Kd.V_alloc | apply Kd.V_drewN | apply Kd.V_drew)); exact HO0.out⟩, ⟨by repeat (first | (with_reducible first | exact HB.out | apply below_alloc | apply pw_below_drewN | apply below_drew1) | exact HB.out)⟩⟩
  case round =>
    clear H'
    obtain ⟨x0_1, HA, HK1, HO_0, HB⟩ := hrel
    cases gk with
    | zero => exact absurd HA.out (by simp [snmp_zzTrim.l0])
    | succ k1 =>
      have H := HA.out
      clear HA
      simp only [snmp_zzTrim.l0] at H
      by_cases c2 : (x0_1.length : Int) > 0
      · rw [if_pos c2] at H
        have c2b0 : decide (0 < (x0_1.length : Int)) = true := decide_eq_true c2
        have c2b1 : decide (0 < x0_1.length) = true := decide_eq_true (by omega)
        clear c2
        by_cases c3 : 0 < (x0_1.length : Int)
        · rw [if_pos c3] at H
          have c3b0 : decide (0 < (x0_1.length : Int)) = true := decide_eq_true c3
          have c3b1 : decide (0 < x0_1.length) = true := decide_eq_true (by omega)
          clear c3
          by_cases c4 : (rd x0_1 0) = 0
          · rw [if_pos c4] at H
            have c4b0 : ((rd x0_1 0) == 0) = true := beq_iff_eq.mpr c4
            have c4b1 : ((rd x0_1 0) != 0) = false := bne_eq_false_iff_eq.mpr c4
            clear c4
            by_cases c5 : 1 ≤ (x0_1.length : Int)
            · rw [if_pos c5] at H
              have c5b0 := eq_true c5
              have c5b1 : decide (1 ≤ (x0_1.length : Int)) = true := decide_eq_true c5
              clear c5
              obtain ⟨y103, hy103⟩ : ∃ y_ : List Int, y_ = (x0_1.drop 1) := ⟨_, rfl⟩
              replace H : (snmp_zzTrim.l0 k1 y103) = some r := by first | (rw [hy103]; with_reducible exact H) | (have H2_ := (Option.bind_some _ _).symm.trans H; rw [hy103]; with_reducible exact H2_) | (have H2_ := (Option.bind_some _ _).symm.trans H; with_reducible exact H2_) | with_reducible exact H | (rw [hy103]; exact H) | exact H
              have Ny103 := Aside0.mk hy103
              clear hy103
              have H' := Aside0.mk H
              clear H
              obtain ⟨Ao6, co6, eo6⟩ := Kd.V_slice HO_0.out
              subst eo6
              have p102 : 0 ≤ (0 : Int) := (by omega)
              have q102 : 0 < (x0_1.length : Int) := of_decide_eq_true (by first | (with_reducible assumption) | assumption)
              obtain ⟨ad102, e102, hx102_0⟩ := Kd.at_int (Kd.V_reads' HO_0.out).2.2 0 p102 q102
              cases e102
              have qi102 : (0 < x0_1.length) = True := eq_true (by omega)
              (try rw [show ((0 : Int)).toNat = 0 from rfl] at hx102_0)
              (try rw [Addr.add_zero'] at hx102_0)
              replace p102 := eq_true p102
              replace q102 := eq_true q102
              have q7 : (1 : Int) ≤ ((x0_1.length : Int) : Int) := of_decide_eq_true (by first | (with_reducible assumption) | assumption)
              obtain ⟨i07, hi07, _, hsz7, _⟩ := info_parts info5
              have hroom7 : x0_1.length ≤ co6 := (Kd.V_reads' HO_0.out).2.1
              have hC7 : Kd.F (Kd.int .u8) _ _ (some ad102) x0_1.length x0_1 := (Kd.V_at (base := w.heap.size) HO_0.out).2.2
              have hcut7 := cut_from (P := Try.prog) 22 5 .i64 Try.underlying22 hi07 1 hsz7 (some ad102) x0_1.length co6 1 (by omega) q7
              have hr7 := Kd.F_cut (m := (1 : Int).toNat) (c := co6) hC7 (by omega) hroom7
              obtain ⟨A7, hA7⟩ : ∃ A1, A1 = (if co6 = (1 : Int).toNat then (some ad102) else ((some ad102) : Option Addr).map (·.add ((1 : Int).toNat * 1))) := ⟨_, rfl⟩
              obtain ⟨c7, hc7⟩ : ∃ c1, c1 = co6 - (1 : Int).toNat := ⟨_, rfl⟩
              have hy7 : y103.length = x0_1.length - (1 : Int).toNat := (by rw [Ny103.out, List.length_drop] <;> omega)
              rw [show (x0_1).drop (1 : Int).toNat = y103 from Ny103.out.symm] at hr7
              replace hr7 : Kd.F (Kd.int .u8) _ _ A7 y103.length y103 := (by rw [hA7]; exact hr7)
              rw [← hy7, ← hA7, ← hc7] at hcut7
              have HO107 := Aside0.mk (show Kd.V (Kd.int .u8) 5 _ w.heap.size _ (.slice A7 y103.length c7) y103 from Kd.V_mk (by rw [hy7, hc7]; exact Nat.sub_le_sub_right hroom7 _) hr7)
              have HC107 := Aside0.mk (show y103.length ≤ c7 from by rw [hy7, hc7]; exact Nat.sub_le_sub_right hroom7 _)
              clear hr7 hC7 hroom7 hi07 hsz7 hc7
              have KY7 := Aside0.mk hy7
              have KA7 := Aside0.mk hA7
              clear hy7 hA7
              replace q7 := eq_true q7
              go_wp2
              go_roundg k1
              case measure => have := HK1.out; omega
              case rel => exact ⟨(y103), H', ⟨by have := HK1.out; omega⟩, ⟨by (with_reducible repeat (first | apply Kd.V_alloc | apply Kd.V_drewN | apply Kd.V_drew)); exact HO107.out⟩, ⟨by repeat (first | (with_reducible first | exact HB.out | apply below_alloc | apply pw_below_drewN | apply below_drew1) | exact HB.out)⟩⟩
            · rw [if_neg c5] at H
              exact absurd H (by simp)
          · rw [if_neg c4] at H
            have c4b0 : ((rd x0_1 0) == 0) = false := beq_eq_false_iff_ne.mpr c4
            have c4b1 : ((rd x0_1 0) != 0) = true := bne_iff_ne.mpr c4
            obtain rfl := Option.some.inj H
            obtain ⟨Ao8, co8, eo8⟩ := Kd.V_slice HO_0.out
            subst eo8
            have p102 : 0 ≤ (0 : Int) := (by omega)
            have q102 : 0 < (x0_1.length : Int) := of_decide_eq_true (by first | (with_reducible assumption) | assumption)
            obtain ⟨ad102, e102, hx102_0⟩ := Kd.at_int (Kd.V_reads' HO_0.out).2.2 0 p102 q102
            cases e102
            have qi102 : (0 < x0_1.length) = True := eq_true (by omega)
            (try rw [show ((0 : Int)).toNat = 0 from rfl] at hx102_0)
            (try rw [Addr.add_zero'] at hx102_0)
            replace p102 := eq_true p102
            replace q102 := eq_true q102
            go_wp2
            go_ret
            exact ⟨_, by first | rfl | (simp [errW_none, errW_some] <;> rfl) | (simp [*, errW_none, errW_some] <;> rfl), by (with_reducible repeat (first | apply Kd.V_alloc | apply Kd.V_drewN | apply Kd.V_drew)); exact HO_0.out, by repeat (first | (with_reducible first | exact HB.out | apply below_alloc | apply pw_below_drewN | apply below_drew1) | exact HB.out)⟩
        · rw [if_neg c3] at H
          exact absurd H (by simp)
      · rw [if_neg c2] at H
        have c2b0 : decide (0 < (x0_1.length : Int)) = false := decide_eq_false c2
        have c2b1 : decide (0 < x0_1.length) = false := decide_eq_false (by omega)
        clear c2
        obtain rfl := Option.some.inj H
        obtain ⟨Ao9, co9, eo9⟩ := Kd.V_slice HO_0.out
        subst eo9
        go_wp2
        go_ret
        exact ⟨_, by first | rfl | (simp [errW_none, errW_some] <;> rfl) | (simp [*, errW_none, errW_some] <;> rfl), by (with_reducible repeat (first | apply Kd.V_alloc | apply Kd.V_drewN | apply Kd.V_drew)); exact HO_0.out, by repeat (first | (with_reducible first | exact HB.out | apply below_alloc | apply pw_below_drewN | apply below_drew1) | exact HB.out)⟩

-- NOT PRINTED: function 26 (snmp_marshalUint64)

-- NOT PRINTED: function 21 (snmp_ZZUint64)

-- NOT PRINTED: function 14 (impl_Uint)

-- NOT PRINTED: function 32 (binary_bigEndian_PutUint32)

-- NOT PRINTED: function 27 (snmp_marshalUint32)

-- NOT PRINTED: function 22 (snmp_ZZUint32)

-- NOT PRINTED: function 15 (impl_Uint32)

/-! ### spec_Uint: function 16 -/
def spec_Uint.l0 : Nat → Int → List Int → Option (List Int)
  | 0, _, _ => none
  | k + 1, x0, x3 => if x0 > 255 then ((some (([(x0 / 256) % 256] : List Int) : List Int)).bind fun y111 => (if y111.length + x3.length < 140737488355328 then (spec_Uint.l0 k (x0 / 256) (y111 ++ x3)) else (none))) else (if 0 < (x3.length : Int) then (if (rd x3 0) > 127 then ((some (([0] : List Int) : List Int)).bind fun y118 => (if y118.length + x3.length < 140737488355328 then (some (y118 ++ x3)) else (none))) else (some x3)) else (none))
def spec_Uint.f (k : Nat) (a0 : Int) : Option (List Int) := spec_Uint.l0 k a0 (([(a0) % 256] : List Int))
theorem spec_Uint.mono_l : ∀ k, (∀ y0 y1, LeO (spec_Uint.l0 k y0 y1) (spec_Uint.l0 (k + 1) y0 y1))
  | 0 => fun _ _ r h => by simp [spec_Uint.l0] at h
  | k + 1 => by
    have ih0 := spec_Uint.mono_l k
    · intro y0 y1
      unfold spec_Uint.l0
      repeat' first
      | (with_reducible exact ih0 _ _)
      | (with_reducible exact LeO.refl _)
      | (with_reducible exact LeO.none _)
      | (with_reducible refine LeO.ite ?_ ?_)
      | (with_reducible refine LeO.bind ?_ (fun _ => ?_))
      | exact ih0 _ _
      | exact LeO.none _
      | refine LeO.ite ?_ ?_
      | refine LeO.bind ?_ (fun _ => ?_)
theorem spec_Uint.mono : ∀ a0 k, LeO (spec_Uint.f k a0) (spec_Uint.f (k + 1) a0) := by
  intro a0 k
  have ih0 := spec_Uint.mono_l k
  unfold spec_Uint.f
  repeat' first
      | (with_reducible exact ih0 _ _)
      | (with_reducible exact LeO.refl _)
      | (with_reducible exact LeO.none _)
      | (with_reducible refine LeO.ite ?_ ?_)
      | (with_reducible refine LeO.bind ?_ (fun _ => ?_))
      | exact ih0 _ _
      | exact LeO.none _
      | refine LeO.ite ?_ ?_
      | refine LeO.bind ?_ (fun _ => ?_)
set_option maxHeartbeats 8000000 in
set_option maxRecDepth 100000 in
theorem spec_Uint.calls (k : Nat) (a0 : Int) (r : List Int) (w : World) (h : spec_Uint.f k a0 = some r) :
    Calls Try.prog 16 #[.int .u64 a0] w fun e w' => ∃ v0_ : Value, e = .returned (v0_) ∧ Kd.R (Kd.int .u8) 5 w' w.heap.size (fun _ => True) v0_ r ∧ Below w.heap.size w w' := by
  have HB := Aside0.mk (Below.refl w.heap.size w)
  have H : (spec_Uint.l0 k a0 (([(a0) % 256] : List Int))) = some r := h
  clear h
  obtain ⟨y108, hy108⟩ : ∃ y_ : List Int, y_ = (([(a0) % 256] : List Int)) := ⟨_, rfl⟩
  replace H : (spec_Uint.l0 k a0 y108) = some r := by first | (rw [hy108]; with_reducible exact H) | (have H2_ := (Option.bind_some _ _).symm.trans H; rw [hy108]; with_reducible exact H2_) | (have H2_ := (Option.bind_some _ _).symm.trans H; with_reducible exact H2_) | with_reducible exact H | (rw [hy108]; exact H) | exact H
  have Ny108 := Aside0.mk hy108
  clear hy108
  have H' := Aside0.mk H
  clear H
  go_enter Try.func16, Try.ntmps16
  go_wp2_with (first | ((with_reducible refine gate_dst (N := 6) rfl ?_); refine Kd.R_lit (Kd.int .u8) _ 5 ?hg (N := 6) ?hd (xs := ([(a0) % 256] : List Int)) (inner := [.int .u8 ((a0) % 256)]) (ok := fun _ => True) (okp := fun _ => True) ?hr ?hp (fun _ hk => hk) trivial (Below.refl _ _) (Nat.le_refl _) (by simp) ?_; (case hd => rfl); (case hg => rfl); (case hr => first | (go_simp; done) | (go_simp; rfl)); (case hp => exact (Reps.one (show Kd.M (Kd.int .u8) _ _ _ ((a0) % 256) [.int .u8 ((a0) % 256)] from rfl) (Reps.none _ _))); intro v109 w2 ho3 hb hg_ hnew_; clear hg_ hnew_; (first | rw [← Ny108.out] at ho3 | (simp only [Int.reduceToNat] at ho3; rw [← Ny108.out] at ho3)); have n0_ := Aside0.mk (Kd.R_lower ho3 (below_size (by repeat (first | (with_reducible first | exact HB.out | apply below_alloc | apply pw_below_drewN | apply below_drew1) | exact HB.out)))); have n1_ := Aside0.mk (below_step (by repeat (first | (with_reducible first | exact HB.out | apply below_alloc | apply pw_below_drewN | apply below_drew1) | exact HB.out)) hb); clear HB; have HO110 := n0_; have HB := n1_; clear n0_ n1_; clear hb ho3))
  go_loopg [0, 3] k (fun kq v0 v3 w' => ∃ (x0_1 : Int) (x3_1 : List Int), v0 = .int .u64 x0_1 ∧ Aside0 (spec_Uint.l0 kq x0_1 x3_1 = some r) ∧ Aside0 (kq ≤ k) ∧ Aside0 (Kd.R (Kd.int .u8) 5 w' w.heap.size (fun _ => True) v3 x3_1) ∧ Aside0 (Below w.heap.size w w'))
  case atStart => exact ⟨(a0), (y108), (by first | rfl | (simp; done) | (simp [*]; done)), H', ⟨Nat.le_refl _⟩, ⟨by (with_reducible repeat (first | apply Kd.R_alloc | apply Kd.R_drewN | apply Kd.R_drew)); exact HO110.out⟩, ⟨by repeat (first | (with_reducible first | exact HB.out | apply below_alloc | apply pw_below_drewN | apply below_drew1) | exact HB.out)⟩⟩
  case round =>
    clear H'
    try clear c1
    try clear p2
    obtain ⟨x0_1, x3_1, rfl, HA, HK1, HO_3, HB⟩ := hrel
    cases gk with
    | zero => exact absurd HA.out (by simp [spec_Uint.l0])
    | succ k1 =>
      have H := HA.out
      clear HA
      simp only [spec_Uint.l0] at H
      by_cases c4 : x0_1 > 255
      · rw [if_pos c4] at H
        have c4b0 : decide (255 < x0_1) = true := decide_eq_true c4
        clear c4
        obtain ⟨y111, hy111⟩ : ∃ y_ : List Int, y_ = (([(x0_1 / 256) % 256] : List Int)) := ⟨_, rfl⟩
        replace H : (if y111.length + x3_1.length < 140737488355328 then (spec_Uint.l0 k1 (x0_1 / 256) (y111 ++ x3_1)) else (none)) = some r := by first | (rw [hy111]; with_reducible exact H) | (have H2_ := (Option.bind_some _ _).symm.trans H; rw [hy111]; with_reducible exact H2_) | (have H2_ := (Option.bind_some _ _).symm.trans H; with_reducible exact H2_) | with_reducible exact H | (rw [hy111]; exact H) | exact H
        have Ny111 := Aside0.mk hy111
        clear hy111
        by_cases c5 : y111.length + x3_1.length < 140737488355328
        · rw [if_pos c5] at H
          have LMc5 := Aside0.mk c5
          clear c5
          obtain ⟨y114, hy114⟩ : ∃ y_ : List Int, y_ = (y111 ++ x3_1) := ⟨_, rfl⟩
          replace H : (spec_Uint.l0 k1 (x0_1 / 256) y114) = some r := by first | (rw [hy114]; with_reducible exact H) | (have H2_ := (Option.bind_some _ _).symm.trans H; rw [hy114]; with_reducible exact H2_) | (have H2_ := (Option.bind_some _ _).symm.trans H; with_reducible exact H2_) | with_reducible exact H | (rw [hy114]; exact H) | exact H
          have Ny114 := Aside0.mk hy114
          clear hy114
          have H' := Aside0.mk H
          clear H
          go_wp2_with (first | ((with_reducible refine gate_dst (N := 13) rfl ?_); refine Kd.R_lit (Kd.int .u8) _ 5 ?hg (N := 13) ?hd (xs := ([(x0_1 / 256) % 256] : List Int)) (inner := [.int .u8 ((x0_1 / 256) % 256)]) (ok := fun _ => True) (okp := fun _ => True) ?hr ?hp (fun _ hk => hk) trivial (Below.refl _ _) (Nat.le_refl _) (by simp) ?_; (case hd => rfl); (case hg => rfl); (case hr => first | (go_simp; done) | (go_simp; rfl)); (case hp => exact (Reps.one (show Kd.M (Kd.int .u8) _ _ _ ((x0_1 / 256) % 256) [.int .u8 ((x0_1 / 256) % 256)] from rfl) (Reps.none _ _))); intro v112 w6 ho7 hb hg_ hnew_; clear hg_ hnew_; (first | rw [← Ny111.out] at ho7 | (simp only [Int.reduceToNat] at ho7; rw [← Ny111.out] at ho7)); have n0_ := Aside0.mk (Kd.R_elder' (by (with_reducible repeat (first | apply Kd.R_alloc | apply Kd.R_drewN | apply Kd.R_drew)); exact HO_3.out) (Kd.R_base ho7) hb); have n1_ := Aside0.mk (Kd.R_lower (Kd.R_new' ho7 (Kd.R_lt (by (with_reducible repeat (first | apply Kd.R_alloc | apply Kd.R_drewN | apply Kd.R_drew)); exact HO_3.out))) (below_size (by repeat (first | (with_reducible first | exact HB.out | apply below_alloc | apply pw_below_drewN | apply below_drew1) | exact HB.out)))); have n2_ := Aside0.mk (below_step (by repeat (first | (with_reducible first | exact HB.out | apply below_alloc | apply pw_below_drewN | apply below_drew1) | exact HB.out)) hb); clear HO_3; clear HB; have HO_3 := n0_; have HO113 := n1_; have HB := n2_; clear n0_ n1_ n2_; clear hb ho7; obtain ⟨Ao9, co9, eo9⟩ := Kd.R_slice HO_3.out; subst eo9) | ((with_reducible refine gate_builtin (b := .append) (xs := #[.tmp 13, .tmp 14]) rfl ?_); at_builtin; refine Kd.R_append_rows (Kd.int .u8) (w0 := w) w.heap.size rfl (.tmp 13) (.tmp 14) 22 5 (.int .u8 0) 1 rfl Try.underlying22 info5 rfl (by decide) (by omega) v112 y111 x3_1 _ _ _ (fun k_ => some k_ ≠ (.slice Ao9 x3_1.length co9 : Value).ownBlock) (fun _ => False) rfl rfl ?aO ?aR (fun _ _ h => h) (fun _ h => h.elim) ?aF ?aB ?aS ?aL ?_; (case aR => repeat (first | exact (Kd.R_reads' HO_3.out).2.2 | (with_reducible refine Kd.C_alloc ?_ _) | (with_reducible refine Kd.C_drewN ?_ _) | (with_reducible refine Kd.C_drew ?_))); (case aB => exact (by repeat (first | (with_reducible first | exact HB.out | apply below_alloc | apply pw_below_drewN | apply below_drew1) | exact HB.out))); (case aF => exact (fun k_ hk => Kd.fresh' (Kd.R_lt (by (with_reducible repeat (first | apply Kd.R_alloc | apply Kd.R_drewN | apply Kd.R_drew)); exact HO_3.out)) k_ hk)); (case aO => exact (by (with_reducible repeat (first | apply Kd.R_alloc | apply Kd.R_drewN | apply Kd.R_drew)); exact Kd.R_mono HO113.out (fun _ hk => hk.2))); (case aS => exact (below_size (by repeat (first | (with_reducible first | exact HB.out | apply below_alloc | apply pw_below_drewN | apply below_drew1) | exact HB.out)))); (case aL => have := LMc5.out; omega); intro v115 w8 ho hb hg hat; rw [← Ny114.out] at ho; have n0_ := Aside0.mk (Kd.R_after (ok := (fun _ => True)) (by (with_reducible repeat (first | apply Kd.R_alloc | apply Kd.R_drewN | apply Kd.R_drew)); exact HO_3.out) hg hat); have n1_ := Aside0.mk (hb); have n2_ := Aside0.mk (ho); clear HO_3; clear HB; clear HO113; have HO_3 := n0_; have HB := n1_; have HO116 := n2_; clear n0_ n1_ n2_; clear ho hb hg hat))
          go_roundg k1
          case measure => have := HK1.out; omega
          case rel => exact ⟨(x0_1 / 256), (y114), (by first | rfl | (simp; done) | (simp [*]; done)), H', ⟨by have := HK1.out; omega⟩, ⟨by (with_reducible repeat (first | apply Kd.R_alloc | apply Kd.R_drewN | apply Kd.R_drew)); exact Kd.R_mono HO116.out (fun _ hk => trivial)⟩, ⟨by repeat (first | (with_reducible first | exact HB.out | apply below_alloc | apply pw_below_drewN | apply below_drew1) | exact HB.out)⟩⟩
        · rw [if_neg c5] at H
          exact absurd H (by simp)
      · rw [if_neg c4] at H
        have c4b0 : decide (255 < x0_1) = false := decide_eq_false c4
        clear c4
        by_cases c10 : 0 < (x3_1.length : Int)
        · rw [if_pos c10] at H
          have c10b0 : decide (0 < (x3_1.length : Int)) = true := decide_eq_true c10
          have c10b1 : decide (0 < x3_1.length) = true := decide_eq_true (by omega)
          clear c10
          by_cases c11 : (rd x3_1 0) > 127
          · rw [if_pos c11] at H
            have c11b0 : decide (127 < (rd x3_1 0)) = true := decide_eq_true c11
            clear c11
            obtain ⟨y118, hy118⟩ : ∃ y_ : List Int, y_ = (([0] : List Int)) := ⟨_, rfl⟩
            replace H : (if y118.length + x3_1.length < 140737488355328 then (some (y118 ++ x3_1)) else (none)) = some r := by first | (rw [hy118]; with_reducible exact H) | (have H2_ := (Option.bind_some _ _).symm.trans H; rw [hy118]; with_reducible exact H2_) | (have H2_ := (Option.bind_some _ _).symm.trans H; with_reducible exact H2_) | with_reducible exact H | (rw [hy118]; exact H) | exact H
            have Ny118 := Aside0.mk hy118
            clear hy118
            by_cases c12 : y118.length + x3_1.length < 140737488355328
            · rw [if_pos c12] at H
              have LMc12 := Aside0.mk c12
              clear c12
              obtain ⟨y121, hy121⟩ : ∃ y_ : List Int, y_ = (y118 ++ x3_1) := ⟨_, rfl⟩
              replace H : (some y121) = some r := by first | (rw [hy121]; with_reducible exact H) | (have H2_ := (Option.bind_some _ _).symm.trans H; rw [hy121]; with_reducible exact H2_) | (have H2_ := (Option.bind_some _ _).symm.trans H; with_reducible exact H2_) | with_reducible exact H | (rw [hy121]; exact H) | exact H
              have Ny121 := Aside0.mk hy121
              clear hy121
              obtain rfl := Option.some.inj H
              obtain ⟨Ao13, co13, eo13⟩ := Kd.R_slice HO_3.out
              subst eo13
              have p117 : 0 ≤ (0 : Int) := (by omega)
              have q117 : 0 < (x3_1.length : Int) := of_decide_eq_true (by first | (with_reducible assumption) | assumption)
              obtain ⟨ad117, e117, hx117_0⟩ := Kd.at_int (Kd.R_reads' HO_3.out).2.2 0 p117 q117
              cases e117
              have qi117 : (0 < x3_1.length) = True := eq_true (by omega)
              (try rw [show ((0 : Int)).toNat = 0 from rfl] at hx117_0)
              (try rw [Addr.add_zero'] at hx117_0)
              replace p117 := eq_true p117
              replace q117 := eq_true q117
              go_wp2_with (first | ((with_reducible refine gate_dst (N := 20) rfl ?_); refine Kd.R_lit (Kd.int .u8) _ 5 ?hg (N := 20) ?hd (xs := ([0] : List Int)) (inner := [.int .u8 0]) (ok := fun _ => True) (okp := fun _ => True) ?hr ?hp (fun _ hk => hk) trivial (Below.refl _ _) (Nat.le_refl _) (by simp) ?_; (case hd => rfl); (case hg => rfl); (case hr => first | (go_simp; done) | (go_simp; rfl)); (case hp => exact (Reps.one (show Kd.M (Kd.int .u8) _ _ _ 0 [.int .u8 0] from rfl) (Reps.none _ _))); intro v119 w14 ho15 hb hg_ hnew_; clear hg_ hnew_; (first | rw [← Ny118.out] at ho15 | (simp only [Int.reduceToNat] at ho15; rw [← Ny118.out] at ho15)); have n0_ := Aside0.mk (Kd.R_elder' (by (with_reducible repeat (first | apply Kd.R_alloc | apply Kd.R_drewN | apply Kd.R_drew)); exact HO_3.out) (Kd.R_base ho15) hb); have n1_ := Aside0.mk (Kd.R_lower (Kd.R_new' ho15 (Kd.R_lt (by (with_reducible repeat (first | apply Kd.R_alloc | apply Kd.R_drewN | apply Kd.R_drew)); exact HO_3.out))) (below_size (by repeat (first | (with_reducible first | exact HB.out | apply below_alloc | apply pw_below_drewN | apply below_drew1) | exact HB.out)))); have n2_ := Aside0.mk (below_step (by repeat (first | (with_reducible first | exact HB.out | apply below_alloc | apply pw_below_drewN | apply below_drew1) | exact HB.out)) hb); clear HO_3; clear HB; have HO_3 := n0_; have HO120 := n1_; have HB := n2_; clear n0_ n1_ n2_; clear hb ho15) | ((with_reducible refine gate_builtin (b := .append) (xs := #[.tmp 20, .tmp 21]) rfl ?_); at_builtin; refine Kd.R_append_rows (Kd.int .u8) (w0 := w) w.heap.size rfl (.tmp 20) (.tmp 21) 22 5 (.int .u8 0) 1 rfl Try.underlying22 info5 rfl (by decide) (by omega) v119 y118 x3_1 _ _ _ (fun k_ => some k_ ≠ (.slice (some ad117) x3_1.length co13 : Value).ownBlock) (fun _ => False) rfl rfl ?aO ?aR (fun _ _ h => h) (fun _ h => h.elim) ?aF ?aB ?aS ?aL ?_; (case aR => repeat (first | exact (Kd.R_reads' HO_3.out).2.2 | (with_reducible refine Kd.C_alloc ?_ _) | (with_reducible refine Kd.C_drewN ?_ _) | (with_reducible refine Kd.C_drew ?_))); (case aB => exact (by repeat (first | (with_reducible first | exact HB.out | apply below_alloc | apply pw_below_drewN | apply below_drew1) | exact HB.out))); (case aF => exact (fun k_ hk => Kd.fresh' (Kd.R_lt (by (with_reducible repeat (first | apply Kd.R_alloc | apply Kd.R_drewN | apply Kd.R_drew)); exact HO_3.out)) k_ hk)); (case aO => exact (by (with_reducible repeat (first | apply Kd.R_alloc | apply Kd.R_drewN | apply Kd.R_drew)); exact Kd.R_mono HO120.out (fun _ hk => hk.2))); (case aS => exact (below_size (by repeat (first | (with_reducible first | exact HB.out | apply below_alloc | apply pw_below_drewN | apply below_drew1) | exact HB.out)))); (case aL => have := LMc12.out; omega); intro v122 w16 ho hb hg hat; rw [← Ny121.out] at ho; have n0_ := Aside0.mk (Kd.R_after (ok := (fun _ => True)) (by (with_reducible repeat (first | apply Kd.R_alloc | apply Kd.R_drewN | apply Kd.R_drew)); exact HO_3.out) hg hat); have n1_ := Aside0.mk (hb); have n2_ := Aside0.mk (ho); clear HO_3; clear HB; clear HO120; have HO_3 := n0_; have HB := n1_; have HO123 := n2_; clear n0_ n1_ n2_; clear ho hb hg hat))
              go_ret
              exact ⟨_, by first | rfl | (simp [errW_none, errW_some] <;> rfl) | (simp [*, errW_none, errW_some] <;> rfl), by (with_reducible repeat (first | apply Kd.R_alloc | apply Kd.R_drewN | apply Kd.R_drew)); exact Kd.R_mono HO123.out (fun _ hk => trivial), by repeat (first | (with_reducible first | exact HB.out | apply below_alloc | apply pw_below_drewN | apply below_drew1) | exact HB.out)⟩
            · rw [if_neg c12] at H
              exact absurd H (by simp)
          · rw [if_neg c11] at H
            have c11b0 : decide (127 < (rd x3_1 0)) = false := decide_eq_false c11
            clear c11
            obtain rfl := Option.some.inj H
            obtain ⟨Ao17, co17, eo17⟩ := Kd.R_slice HO_3.out
            subst eo17
            have p117 : 0 ≤ (0 : Int) := (by omega)
            have q117 : 0 < (x3_1.length : Int) := of_decide_eq_true (by first | (with_reducible assumption) | assumption)
            obtain ⟨ad117, e117, hx117_0⟩ := Kd.at_int (Kd.R_reads' HO_3.out).2.2 0 p117 q117
            cases e117
            have qi117 : (0 < x3_1.length) = True := eq_true (by omega)
            (try rw [show ((0 : Int)).toNat = 0 from rfl] at hx117_0)
            (try rw [Addr.add_zero'] at hx117_0)
            replace p117 := eq_true p117
            replace q117 := eq_true q117
            go_wp2
            go_ret
            exact ⟨_, by first | rfl | (simp [errW_none, errW_some] <;> rfl) | (simp [*, errW_none, errW_some] <;> rfl), by (with_reducible repeat (first | apply Kd.R_alloc | apply Kd.R_drewN | apply Kd.R_drew)); exact HO_3.out, by repeat (first | (with_reducible first | exact HB.out | apply below_alloc | apply pw_below_drewN | apply below_drew1) | exact HB.out)⟩
        · rw [if_neg c10] at H
          exact absurd H (by simp)

-- NOT PRINTED: function 6 (laws_FnUint)

end Go.Proofs.Ytacbdhklfgapkaa.PFnUint
