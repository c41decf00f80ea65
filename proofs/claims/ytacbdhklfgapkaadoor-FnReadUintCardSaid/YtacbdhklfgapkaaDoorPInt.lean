/- parseInt64, parseUint64: the walks. -/
import Derived.Test.YtacbdhklfgapkaaDoorNum
import Derived.Lib.EndianBits
set_option linter.unusedVariables false
namespace Go.Proofs.YtacbdhklfgapkaaDoor
open Go.RowKit Go.Proofs.YtacbdhklfgapkaaDoorW.PrintWords Go.Proofs.YtacbdhklfgapkaaDoorW.PrintLast Go.Proofs.YtacbdhklfgapkaaDoorW.PrintMore

theorem beVal_take (xs : List Int) (k : Nat) (h : k < xs.length) (a : Int) : beVal (xs.take (k + 1)) a = beVal (xs.take k) a * 256 + rd xs k := by
  rw [List.take_succ_eq_append_getElem h, beVal_snoc]
  congr 1
  unfold Go.Proofs.YtacbdhklfgapkaaDoorW.PrintWords.rd
  rw [Int.toNat_natCast, List.getD_eq_getElem?_getD, List.getElem?_eq_getElem h]
  rfl

set_option maxRecDepth 100000 in
theorem parseInt64_any (A : Option Addr) (c : Nat) (xs : List Int) (w : World) (hr : Kd.C (Kd.int .u8) w A xs.length xs) (hb : IsB xs) (h1 : 1 ≤ xs.length) (h8 : xs.length ≤ 8) :
    Calls Tryd.prog 31 #[.slice A xs.length c] w fun e w' => e = .returned (.tuple #[.int .i64 (sVal xs), .nilIface]) ∧ w = w' := by
  obtain ⟨ad, rfl, -⟩ := cell_at hr 0 (by omega)
  have cells : ∀ k : Nat, k < xs.length → w.cell? (ad.add k) = some (.int .u8 (rd xs k)) := by
    intro k hk
    obtain ⟨ad', e, hx'⟩ := cell_at hr k hk
    injection e with e
    subst e
    exact hx'
  generalize hn : xs.length = n at *
  have HC := Lib.hid cells
  have HB := Lib.hid (And.intro hb hn)
  clear cells hr hb hn
  have d0 : ((n : Int) == 0) = false := beq_eq_false_iff_ne.2 (by omega)
  go_enter Tryd.func31, Tryd.ntmps31
  go_wp2
  go_loop [4, 18] (fun v4 v18 => ∃ k : Nat, k ≤ n ∧ v18 = .int .i64 k ∧ v4 = .int .i64 (wrap64 (beVal (xs.take k) 0))) (fun _ v18 => n - (intOf v18).toNat)
  case atStart => exact ⟨0, Nat.zero_le _, rfl, by simp [beVal, wrap64]⟩
  case round =>
    obtain ⟨k, hk, rfl, rfl⟩ := hrel
    by_cases hlt : k < n
    · have hcl := HC.out k hlt
      have hbd := HB.out.1.rd k
      have hs := w64_step (beVal (xs.take k) 0) (rd xs k) hbd.1 (by omega)
      rw [← beVal_take xs k (by rw [HB.out.2]; exact hlt)] at hs
      generalize hv' : wrap64 (beVal (xs.take (k + 1)) 0) = v' at *
      generalize wrap64 (beVal (xs.take k) 0) = v at *
      generalize rd xs k = b at *
      have HV := Lib.hid hv'
      have hb0 := hbd.1
      have hb1 := hbd.2
      clear hv' hbd
      go_wp2
      go_round
      case rel => exact ⟨k + 1, by omega, by go_num, by rw [HV.out]⟩
      case measure => simp [intOf]; omega
    · obtain rfl : k = n := by omega
      obtain ⟨m, rfl⟩ : ∃ m, k = m + 1 := ⟨k - 1, by omega⟩
      have hsh := sVal_shift xs HB.out.1 m (by omega) HB.out.2
      rw [List.take_of_length_le (by rw [HB.out.2]; exact Nat.le_refl _)]
      have HV := Lib.hid hsh
      clear hsh
      generalize wrap64 (beVal xs 0) = v at *
      rcases (by omega : m = 0 ∨ m = 1 ∨ m = 2 ∨ m = 3 ∨ m = 4 ∨ m = 5 ∨ m = 6 ∨ m = 7) with rfl | rfl | rfl | rfl | rfl | rfl | rfl | rfl
      all_goals
        clear d0 h1 h8 hk hlt
        go_wp2
        go_ret2
        refine ⟨?_, rfl⟩
        have hv := HV.out
        simp only [Nat.reduceSub, Int.reducePow, Int.mul_one, Int.ediv_one, Int.pow_zero] at hv
        rw [← hv]
        rfl

theorem beVal_app (l m : List Int) : ∀ a, beVal (l ++ m) a = beVal m (beVal l a) := by
  induction l with
  | nil => intro a; rfl
  | cons x l ih => intro a; exact ih _
theorem beVal_take_le (xs : List Int) (hb : IsB xs) (k : Nat) : 0 ≤ beVal (xs.take k) 0 ∧ beVal (xs.take k) 0 ≤ beVal xs 0 := by
  have h1 := beVal_bound _ (isB_take hb k) 0 (by omega)
  have h2 := beVal_bound _ (isB_drop hb k) 0 (by omega)
  refine ⟨h1.1, ?_⟩
  have e : beVal xs 0 = beVal (xs.take k) 0 * 256 ^ (xs.drop k).length + beVal (xs.drop k) 0 := by
    rw [← beVal_start, ← beVal_app, List.take_append_drop]
  rw [e]
  have hp : (1 : Int) ≤ 256 ^ (xs.drop k).length := by
    have : (0 : Int) < 256 ^ (xs.drop k).length := Int.pow_pos (by decide)
    omega
  have := Int.mul_le_mul_of_nonneg_left hp h1.1
  omega

set_option maxRecDepth 100000 in
theorem parseUint64_any (A : Option Addr) (c : Nat) (xs : List Int) (w : World) (hr : Kd.C (Kd.int .u8) w A xs.length xs) (hb : IsB xs) (h1 : 1 ≤ xs.length) (h9 : xs.length ≤ 8 ∨ (xs.length = 9 ∧ rd xs 0 = 0)) (hv : beVal xs 0 < 18446744073709551616) :
    Calls Tryd.prog 28 #[.slice A xs.length c] w fun e w' => e = .returned (.tuple #[.int .u64 (beVal xs 0), .nilIface]) ∧ w = w' := by
  obtain ⟨ad, rfl, hx0⟩ := cell_at hr 0 (by omega)
  have cells : ∀ k : Nat, k < xs.length → w.cell? (ad.add k) = some (.int .u8 (rd xs k)) := by
    intro k hk
    obtain ⟨ad', e, hx'⟩ := cell_at hr k hk
    injection e with e
    subst e
    exact hx'
  have q0 : (0 < xs.length) = True := eq_true (by omega)
  simp only [Addr.add_zero', Int.ofNat_zero] at hx0
  have hl9 : xs.length ≤ 9 := by omega
  generalize hn : xs.length = n at *
  have HC := Lib.hid cells
  have HB := Lib.hid (And.intro hb (And.intro hn hv))
  clear cells hr hb hn hv
  have hbig : (n : Int) ≤ 8 ∨ ((n : Int) = 9 ∧ rd xs 0 = 0) := by omega
  clear h9
  have hbl := fun k => beVal_take_le xs HB.out.1 k
  have HL := Lib.hid hbl
  clear hbl
  rcases hbig with hn | ⟨hn, hz⟩
  rotate_left
  (have hn9 : n = 9 := by omega); (clear hn); (subst hn9)
  rotate_left
  all_goals
    go_enter Tryd.func28, Tryd.ntmps28
    go_wp2
    try clear hz
    try clear hx0
  · go_loop [4, 23] (fun v4 v23 => ∃ k : Nat, k ≤ n ∧ v23 = .int .i64 k ∧ v4 = .int .u64 (beVal (xs.take k) 0)) (fun _ v23 => n - (intOf v23).toNat)
    case atStart => exact ⟨0, Nat.zero_le _, rfl, by simp [beVal]⟩
    case round =>
      obtain ⟨k, hk, rfl, rfl⟩ := hrel
      by_cases hlt : k < n
      · have hcl := HC.out k hlt
        have hbd := HB.out.1.rd k
        have hst := beVal_take xs k (by rw [HB.out.2.1]; exact hlt) 0
        have hl0 := (HL.out k).1
        have hl1 := (HL.out (k + 1)).2
        have hv := HB.out.2.2
        have hb0 := hbd.1
        have hb1 := hbd.2
        generalize hv' : beVal (xs.take (k + 1)) 0 = v' at *
        generalize beVal (xs.take k) 0 = v at *
        generalize rd xs k = b at *
        have e1 : IntKind.u64.wrap (v * 256) = v * 256 := wraps_u64 _ (by omega) (by omega)
        have e2 : bits .or .u64 (v * 256) b = v * 256 + b := u64_or_low _ _ (by omega) (by omega) (by omega) (by omega) (by omega)
        have HV := Lib.hid (And.intro hv' hst)
        clear hv' hbd hst hl1 hv
        go_wp2
        go_round
        case rel => exact ⟨k + 1, by omega, by go_num, by rw [HV.out.1, HV.out.2]⟩
        case measure => simp [intOf]; omega
      · obtain rfl : k = n := by omega
        rw [List.take_of_length_le (by rw [HB.out.2.1]; exact Nat.le_refl _)]
        go_wp2
        go_ret2
        exact ⟨rfl, rfl⟩
  · go_loop [4, 23] (fun v4 v23 => ∃ k : Nat, k ≤ 9 ∧ v23 = .int .i64 k ∧ v4 = .int .u64 (beVal (xs.take k) 0)) (fun _ v23 => 9 - (intOf v23).toNat)
    case atStart => exact ⟨0, Nat.zero_le _, rfl, by simp [beVal]⟩
    case round =>
      obtain ⟨k, hk, rfl, rfl⟩ := hrel
      by_cases hlt : k < 9
      · have hcl := HC.out k hlt
        have hbd := HB.out.1.rd k
        have hst := beVal_take xs k (by rw [HB.out.2.1]; exact hlt) 0
        have hl0 := (HL.out k).1
        have hl1 := (HL.out (k + 1)).2
        have hv := HB.out.2.2
        have hb0 := hbd.1
        have hb1 := hbd.2
        generalize hv' : beVal (xs.take (k + 1)) 0 = v' at *
        generalize beVal (xs.take k) 0 = v at *
        generalize rd xs k = b at *
        have e1 : IntKind.u64.wrap (v * 256) = v * 256 := wraps_u64 _ (by omega) (by omega)
        have e2 : bits .or .u64 (v * 256) b = v * 256 + b := u64_or_low _ _ (by omega) (by omega) (by omega) (by omega) (by omega)
        have HV := Lib.hid (And.intro hv' hst)
        have hk9 : (k : Int) < 9 := by omega
        have hk9' : (k < 9) = True := eq_true hlt
        clear hv' hbd hst hl1 hv hlt
        go_wp2
        go_round
        case rel => exact ⟨k + 1, by omega, by go_num, by rw [HV.out.1, HV.out.2]⟩
        case measure => simp [intOf]; omega
      · obtain rfl : k = 9 := by omega
        rw [List.take_of_length_le (by rw [HB.out.2.1]; exact Nat.le_refl _)]
        go_wp2
        go_ret2
        exact ⟨rfl, rfl⟩
end Go.Proofs.YtacbdhklfgapkaaDoor
