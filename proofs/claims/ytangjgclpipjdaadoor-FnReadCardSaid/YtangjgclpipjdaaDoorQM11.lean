/- The lemmas and walks that FnDecode and FnCut and FnRead rests on, part 11: OfNm SVal2 PInt SOfUintFnValue SOfVar DecN Raw Net Row. -/
import Derived.Lib.EndianBits
import Derived.LaidEql
import Derived.Laws.Pointers
import Derived.ChangeSlices
import Derived.OpenShut
import Derived.Test.YtangjgclpipjdaaDoorQM6
import Derived.Test.YtangjgclpipjdaaDoorQM7
import Derived.Test.YtangjgclpipjdaaDoorQM8
import Derived.Test.YtangjgclpipjdaaDoorQM9
import Derived.Test.YtangjgclpipjdaaDoorQM10
set_option linter.unusedVariables false
namespace Go.Proofs.YtangjgclpipjdaaDoor
open Go.RowKit Go.Proofs.YtangjgclpipjdaaDoorW.PrintWords Go.Proofs.YtangjgclpipjdaaDoorW.PrintLast Go.Proofs.YtangjgclpipjdaaDoorW.PrintMore
def ofGo : List Int → List Int → Int → Bool → Option (List Int × Bool)
  | [], out, _, op => some (out, op)
  | x :: l, out, n, op =>
    if (op = false ∧ x = 128) ∨ n ≥ 33554432 then none
    else if x ≤ 127 then ofGo l (out ++ [n * 128 + x % 128]) 0 false
    else ofGo l out (n * 128 + x % 128) true
def sOf (b : List Int) : List Int × Bool :=
  if b.length = 0 ∨ rd b 0 ≥ 120 ∨ b.length > 300 then ([], false)
  else match ofGo (b.drop 1) [rd b 0 / 40, rd b 0 % 40] 0 false with
    | none => ([], false)
    | some (out, op) => (out, !op && decide ((out.length : Int) ≤ 60))
/-- The bytes of a number that goes on. -/
def cont (n : Int) : List Int :=
  if n < 128 then [n + 128] else if n < 16384 then [n / 128 + 128, n % 128 + 128] else if n < 2097152 then [n / 16384 + 128, n / 128 % 128 + 128, n % 128 + 128]
  else [n / 2097152 + 128, n / 16384 % 128 + 128, n / 128 % 128 + 128, n % 128 + 128]
theorem cont_last (n x : Int) (h0 : 1 ≤ n) (h1 : n < 33554432) (x0 : 0 ≤ x) (x1 : x ≤ 127) : cont n ++ [x] = b128 (n * 128 + x) := by
  unfold cont b128
  have e1 : (n * 128 + x) / 128 = n := by omega
  have e2 : (n * 128 + x) / 16384 = n / 128 := by omega
  have e3 : (n * 128 + x) / 2097152 = n / 16384 := by omega
  have e4 : (n * 128 + x) / 268435456 = n / 2097152 := by omega
  have e5 : (n * 128 + x) % 128 = x := by omega
  rw [e1, e2, e3, e4, e5, if_neg (by omega : ¬ n * 128 + x < 128)]
  by_cases c1 : n < 128
  · rw [if_pos c1, if_pos (by omega)]; simp
  rw [if_neg c1, if_neg (by omega : ¬ n * 128 + x < 16384)]
  by_cases c2 : n < 16384
  · rw [if_pos c2, if_pos (by omega)]; simp
  rw [if_neg c2, if_neg (by omega : ¬ n * 128 + x < 2097152)]
  by_cases c3 : n < 2097152
  · rw [if_pos c3, if_pos (by omega)]; simp
  rw [if_neg c3, if_neg (by omega : ¬ n * 128 + x < 268435456)]
  simp
theorem cont_more (n x : Int) (h0 : 1 ≤ n) (h1 : n * 128 + (x - 128) < 33554432) (x0 : 128 ≤ x) (x1 : x ≤ 255) : cont n ++ [x] = cont (n * 128 + (x - 128)) := by
  unfold cont
  have e1 : (n * 128 + (x - 128)) / 128 = n := by omega
  have e2 : (n * 128 + (x - 128)) / 16384 = n / 128 := by omega
  have e3 : (n * 128 + (x - 128)) / 2097152 = n / 16384 := by omega
  have e5 : (n * 128 + (x - 128)) % 128 + 128 = x := by omega
  rw [e1, e2, e3, e5, if_neg (by omega : ¬ n * 128 + (x - 128) < 128)]
  by_cases c1 : n < 128
  · rw [if_pos c1, if_pos (by omega)]; simp
  rw [if_neg c1, if_neg (by omega : ¬ n * 128 + (x - 128) < 16384)]
  by_cases c2 : n < 16384
  · rw [if_pos c2, if_pos (by omega)]; simp
  rw [if_neg c2, if_pos (by omega : n < 2097152), if_neg (by omega : ¬ n * 128 + (x - 128) < 2097152)]
  simp
def Bnd (l : List Int) : Prop := ∀ x ∈ l, 0 ≤ x ∧ x ≤ 4294967295
theorem ofGo_text (l : List Int) (hb : IsB l) : (∀ out r, ofGo l out 0 false = some (r, false) → ∃ rest, r = out ++ rest ∧ l = b128s rest ∧ Bnd rest) ∧
    (∀ out n r, 1 ≤ n → n ≤ 4294967295 → ofGo l out n true = some (r, false) → n < 33554432 ∧ ∃ a rest, r = out ++ a :: rest ∧ cont n ++ l = b128 a ++ b128s rest ∧ Bnd (a :: rest)) := by
  induction l with
  | nil =>
    refine ⟨?_, ?_⟩
    · intro out r h
      simp [ofGo] at h
      exact ⟨[], by simp [h], rfl, fun x hx => by simp at hx⟩
    · intro out n r h0 h1 h
      simp [ofGo] at h
  | cons x l ih =>
    have hx := hb x (by simp)
    obtain ⟨ih1, ih2⟩ := ih (fun y hy => hb y (by simp [hy]))
    have bcons : ∀ a rest, 0 ≤ a → a ≤ 4294967295 → Bnd rest → Bnd (a :: rest) := by
      intro a rest h0 h1 h y hy
      rcases List.mem_cons.1 hy with rfl | h'
      · exact ⟨h0, h1⟩
      · exact h y h'
    refine ⟨?_, ?_⟩
    · intro out r h
      simp only [ofGo] at h
      by_cases c : x = 128
      · rw [if_pos (.inl (by simp [c]))] at h; cases h
      rw [if_neg (by rintro (h' | h'); exact c h'.2; exact absurd h' (by decide))] at h
      by_cases c2 : x ≤ 127
      · rw [if_pos c2] at h
        obtain ⟨rest, h1, h2, h3⟩ := ih1 _ _ h
        refine ⟨(0 * 128 + x % 128) :: rest, by rw [h1]; simp, ?_, bcons _ _ (by omega) (by omega) h3⟩
        rw [b128s_cons, ← h2, show (0 : Int) * 128 + x % 128 = x by omega]
        unfold b128
        rw [if_pos (by omega)]
        rfl
      · rw [if_neg c2] at h
        obtain ⟨hlt, a, rest, h1, h2, h3⟩ := ih2 _ _ _ (by omega) (by omega) h
        refine ⟨a :: rest, h1, ?_, h3⟩
        rw [b128s_cons, ← h2]
        unfold cont
        rw [if_pos (by omega), show (0 : Int) * 128 + x % 128 + 128 = x by omega]
        rfl
    · intro out n r h0 h1 h
      simp only [ofGo] at h
      by_cases c : n ≥ 33554432
      · rw [if_pos (.inr c)] at h; cases h
      rw [if_neg (by rintro (h' | h'); exact absurd h'.1 (by simp); exact c h')] at h
      refine ⟨by omega, ?_⟩
      by_cases c2 : x ≤ 127
      · rw [if_pos c2] at h
        obtain ⟨rest, e1, e2, e3⟩ := ih1 _ _ h
        refine ⟨n * 128 + x % 128, rest, by rw [e1]; simp, ?_, bcons _ _ (by omega) (by omega) e3⟩
        rw [← e2, show x % 128 = x by omega, ← cont_last n x h0 (by omega) hx.1 c2]
        simp
      · rw [if_neg c2] at h
        obtain ⟨hlt, a, rest, e1, e2, e3⟩ := ih2 _ _ _ (by omega) (by omega) h
        refine ⟨a, rest, e1, ?_, e3⟩
        rw [show x % 128 = x - 128 by omega] at e2 hlt
        rw [← e2, ← cont_more n x h0 hlt (by omega) hx.2]
        simp
/-- The content that is taken is that of its name. -/
theorem sOf_text (b : List Int) (hb : IsB b) (arcs : List Int) (h : sOf b = (arcs, true)) : ∃ x y rest, arcs = x :: y :: rest ∧ b = sName arcs ∧ 0 ≤ x ∧ x ≤ 2 ∧ 0 ≤ y ∧ y < 40 ∧ Bnd rest ∧ arcs.length ≤ 60 := by
  unfold sOf at h
  by_cases c : b.length = 0 ∨ rd b 0 ≥ 120 ∨ b.length > 300
  · rw [if_pos c] at h; simp at h
  rw [if_neg c] at h
  obtain ⟨v, l, rfl⟩ : ∃ v l, b = v :: l := List.exists_cons_of_ne_nil (by rintro rfl; exact c (.inl rfl))
  have hv : rd (v :: l) 0 = v := rfl
  rw [hv] at h c
  have hv0 := hb v (by simp)
  cases e : ofGo l [v / 40, v % 40] 0 false with
  | none => rw [show (v :: l).drop 1 = l from rfl, e] at h; simp at h
  | some p =>
    obtain ⟨out, op⟩ := p
    rw [show (v :: l).drop 1 = l from rfl, e] at h
    simp at h
    obtain ⟨rfl, rfl, h60⟩ := h
    obtain ⟨rest, e1, e2, e3⟩ := (ofGo_text l (fun y hy => hb y (by simp [hy]))).1 _ _ e
    refine ⟨v / 40, v % 40, rest, by rw [e1]; rfl, ?_, by omega, by omega, by omega, by omega, e3, by omega⟩
    rw [e1]
    show v :: l = ((40 * (v / 40) + v % 40) % 256) :: b128s rest
    rw [← e2]
    congr 1
    omega
end Go.Proofs.YtangjgclpipjdaaDoor
set_option linter.unusedVariables false
namespace Go.Proofs.YtangjgclpipjdaaDoor
open Go.RowKit Go.Proofs.YtangjgclpipjdaaDoorW.PrintWords Go.Proofs.YtangjgclpipjdaaDoorW.PrintLast Go.Proofs.YtangjgclpipjdaaDoorW.PrintMore
theorem mInt32_isB (n : Int) : IsB (mInt32 n) := by
  intro x hx
  unfold mInt32 at hx
  split at hx
  · simp at hx; omega
  split at hx
  · simp at hx; omega
  split at hx
  · simp at hx; omega
  · simp at hx; omega
theorem sVal_mInt32 (n : Int) (h0 : -2147483648 ≤ n) (h1 : n ≤ 2147483647) : sVal (mInt32 n) = n := by
  unfold sVal mInt32
  split
  · simp only [Go.Proofs.YtangjgclpipjdaaDoorW.PrintWords.rd, beVal, Int.toNat_zero, List.getD_cons_zero]
    unfold wrap64
    split <;> omega
  split
  · simp only [Go.Proofs.YtangjgclpipjdaaDoorW.PrintWords.rd, beVal, Int.toNat_zero, List.getD_cons_zero]
    unfold wrap64
    split <;> omega
  split
  · simp only [Go.Proofs.YtangjgclpipjdaaDoorW.PrintWords.rd, beVal, Int.toNat_zero, List.getD_cons_zero]
    unfold wrap64
    split <;> omega
  · simp only [Go.Proofs.YtangjgclpipjdaaDoorW.PrintWords.rd, beVal, Int.toNat_zero, List.getD_cons_zero]
    unfold wrap64
    split <;> omega
theorem bs_isB (s : ByteArray) : IsB (bs s) := by
  intro x hx
  unfold bs at hx
  obtain ⟨b, -, rfl⟩ := List.mem_map.1 hx
  have := b.toNat_lt
  omega
theorem b128_isB (n : Int) (h0 : 0 ≤ n) (h1 : n ≤ 4294967295) : IsB (b128 n) := by
  intro x hx
  unfold b128 at hx
  split at hx
  · simp at hx; omega
  split at hx
  · simp at hx; omega
  split at hx
  · simp at hx; omega
  split at hx
  · simp at hx; omega
  · simp at hx; omega
theorem b128s_isB (l : List Int) (h : ∀ x ∈ l, 0 ≤ x ∧ x ≤ 4294967295) : IsB (b128s l) := by
  induction l with
  | nil => intro x hx; simp [b128s] at hx
  | cons a l ih =>
    rw [b128s_cons]
    have ha := h a (by simp)
    exact isB_append (b128_isB a ha.1 ha.2) (ih (fun x hx => h x (by simp [hx])))
theorem sName_isB (arcs : List Int) (h : ∀ x ∈ arcs, 0 ≤ x ∧ x ≤ 4294967295) : IsB (sName arcs) := by
  unfold sName
  exact isB_cons (by omega) (by omega) (b128s_isB _ (fun x hx => h x (List.mem_of_mem_drop hx)))
theorem uBytes_isB' (n : Int) (h0 : 0 ≤ n) (h1 : n ≤ 18446744073709551615) : IsB (uBytes n) := by
  intro x hx
  obtain ⟨i, hi, rfl⟩ := List.getElem_of_mem hx
  have := uBytes_isB n h0 h1 (i : Int)
  unfold Go.Proofs.YtangjgclpipjdaaDoorW.PrintWords.rd at this
  rw [Int.toNat_natCast, List.getD_eq_getElem?_getD, List.getElem?_eq_getElem hi] at this
  exact this
theorem sUint_isB (n : Int) (h0 : 0 ≤ n) (h1 : n ≤ 18446744073709551615) : IsB (sUint n) := by
  unfold sUint
  split
  · exact isB_cons (by omega) (by omega) (uBytes_isB' n h0 h1)
  · exact uBytes_isB' n h0 h1
theorem beVal_uBytes (n : Int) (h0 : 0 ≤ n) (h1 : n ≤ 18446744073709551615) : beVal (uBytes n) 0 = n := by
  unfold uBytes
  repeat' split
  all_goals simp only [beVal]
  all_goals omega
theorem sUint_val (n : Int) (h0 : 0 ≤ n) (h1 : n ≤ 18446744073709551615) : beVal (sUint n) 0 = n ∧ 1 ≤ (sUint n).length ∧ ((sUint n).length ≤ 8 ∨ ((sUint n).length = 9 ∧ rd (sUint n) 0 = 0)) := by
  have hb := beVal_uBytes n h0 h1
  have hl := uBytes_len n
  unfold sUint
  split
  · refine ⟨?_, by simp, ?_⟩
    · show beVal (uBytes n) (0 * 256 + 0) = n
      simpa using hb
    · by_cases h : (uBytes n).length = 8
      · exact .inr ⟨by simp [h], rfl⟩
      · exact .inl (by simp only [List.length_cons]; omega)
  · exact ⟨hb, hl.1, .inl hl.2⟩
theorem Cont.isB {ty i u : Int} {tx : ByteArray} {c : List Int} {i' u' : Int} {tx' : List Int} (h : Cont ty i u (bs tx) c i' u' tx') (u0 : 0 ≤ u) (u1 : u ≤ 18446744073709551615) : IsB c := by
  cases h with
  | int h h0 h1 => exact mInt32_isB i
  | oct h h0 => exact bs_isB tx
  | null h => intro x hx; simp at hx
  | oid h arcs ha => exact sName_isB arcs (sArcs_bounds _ _ ha)
  | addr h out ha => intro x hx; exact (sAddr_text _ _ ha).2.2 x hx
  | u32 h h0 => exact sUint_isB u u0 u1
  | u64 h => exact sUint_isB u u0 u1
end Go.Proofs.YtangjgclpipjdaaDoor
set_option linter.unusedVariables false
namespace Go.Proofs.YtangjgclpipjdaaDoor
open Go.RowKit Go.Proofs.YtangjgclpipjdaaDoorW.PrintWords Go.Proofs.YtangjgclpipjdaaDoorW.PrintLast Go.Proofs.YtangjgclpipjdaaDoorW.PrintMore
theorem beVal_take (xs : List Int) (k : Nat) (h : k < xs.length) (a : Int) : beVal (xs.take (k + 1)) a = beVal (xs.take k) a * 256 + rd xs k := by
  rw [List.take_succ_eq_append_getElem h, beVal_snoc]
  congr 1
  unfold Go.Proofs.YtangjgclpipjdaaDoorW.PrintWords.rd
  rw [Int.toNat_natCast, List.getD_eq_getElem?_getD, List.getElem?_eq_getElem h]
  rfl
set_option maxRecDepth 100000 in
theorem parseInt64_any (A : Option Addr) (c : Nat) (xs : List Int) (w : World) (hr : Kd.C (Kd.int .u8) w A xs.length xs) (hb : IsB xs) (h1 : 1 ≤ xs.length) (h8 : xs.length ≤ 8) :
    Calls Tryd.prog 97 #[.slice A xs.length c] w fun e w' => e = .returned (.tuple #[.int .i64 (sVal xs), .nilIface]) ∧ w = w' := by
  obtain ⟨ad, rfl, -⟩ := cell_at hr 0 (by omega)
  have cells : ∀ k : Nat, k < xs.length → w.cell? (ad.add k) = some (.int .u8 (rd xs k)) := by
    intro k hk
    obtain ⟨ad', e, hx'⟩ := cell_at hr k hk
    injection e with e
    subst e
    exact hx'
  generalize hn : xs.length = n at *
  have HC := Lib.hid cells
  have HB := Lib.hid (And.intro hb hn)
  clear cells hr hb hn
  have d0 : ((n : Int) == 0) = false := beq_eq_false_iff_ne.2 (by omega)
  go_enter Tryd.func97, Tryd.ntmps97
  go_wp2
  go_loop [4, 18] (fun v4 v18 => ∃ k : Nat, k ≤ n ∧ v18 = .int .i64 k ∧ v4 = .int .i64 (wrap64 (beVal (xs.take k) 0))) (fun _ v18 => n - (intOf v18).toNat)
  case atStart => exact ⟨0, Nat.zero_le _, rfl, by simp [beVal, wrap64]⟩
  case round =>
    obtain ⟨k, hk, rfl, rfl⟩ := hrel
    by_cases hlt : k < n
    · have hcl := HC.out k hlt
      have hbd := HB.out.1.rd k
      have hs := w64_step (beVal (xs.take k) 0) (rd xs k) hbd.1 (by omega)
      rw [← beVal_take xs k (by rw [HB.out.2]; exact hlt)] at hs
      generalize hv' : wrap64 (beVal (xs.take (k + 1)) 0) = v' at *
      generalize wrap64 (beVal (xs.take k) 0) = v at *
      generalize rd xs k = b at *
      have HV := Lib.hid hv'
      have hb0 := hbd.1
      have hb1 := hbd.2
      clear hv' hbd
      go_wp2
      go_round
      case rel => exact ⟨k + 1, by omega, by go_num, by rw [HV.out]⟩
      case measure => simp [intOf]; omega
    · obtain rfl : k = n := by omega
      obtain ⟨m, rfl⟩ : ∃ m, k = m + 1 := ⟨k - 1, by omega⟩
      have hsh := sVal_shift xs HB.out.1 m (by omega) HB.out.2
      rw [List.take_of_length_le (by rw [HB.out.2]; exact Nat.le_refl _)]
      have HV := Lib.hid hsh
      clear hsh
      generalize wrap64 (beVal xs 0) = v at *
      rcases (by omega : m = 0 ∨ m = 1 ∨ m = 2 ∨ m = 3 ∨ m = 4 ∨ m = 5 ∨ m = 6 ∨ m = 7) with rfl | rfl | rfl | rfl | rfl | rfl | rfl | rfl
      all_goals
        clear d0 h1 h8 hk hlt
        go_wp2
        go_ret2
        refine ⟨?_, rfl⟩
        have hv := HV.out
        simp only [Nat.reduceSub, Int.reducePow, Int.mul_one, Int.ediv_one, Int.pow_zero] at hv
        rw [← hv]
        rfl
theorem beVal_app (l m : List Int) : ∀ a, beVal (l ++ m) a = beVal m (beVal l a) := by
  induction l with
  | nil => intro a; rfl
  | cons x l ih => intro a; exact ih _
theorem beVal_take_le (xs : List Int) (hb : IsB xs) (k : Nat) : 0 ≤ beVal (xs.take k) 0 ∧ beVal (xs.take k) 0 ≤ beVal xs 0 := by
  have h1 := beVal_bound _ (isB_take hb k) 0 (by omega)
  have h2 := beVal_bound _ (isB_drop hb k) 0 (by omega)
  refine ⟨h1.1, ?_⟩
  have e : beVal xs 0 = beVal (xs.take k) 0 * 256 ^ (xs.drop k).length + beVal (xs.drop k) 0 := by
    rw [← beVal_start, ← beVal_app, List.take_append_drop]
  rw [e]
  have hp : (1 : Int) ≤ 256 ^ (xs.drop k).length := by
    have : (0 : Int) < 256 ^ (xs.drop k).length := Int.pow_pos (by decide)
    omega
  have := Int.mul_le_mul_of_nonneg_left hp h1.1
  omega
set_option maxRecDepth 100000 in
theorem parseUint64_any (A : Option Addr) (c : Nat) (xs : List Int) (w : World) (hr : Kd.C (Kd.int .u8) w A xs.length xs) (hb : IsB xs) (h1 : 1 ≤ xs.length) (h9 : xs.length ≤ 8 ∨ (xs.length = 9 ∧ rd xs 0 = 0)) (hv : beVal xs 0 < 18446744073709551616) :
    Calls Tryd.prog 79 #[.slice A xs.length c] w fun e w' => e = .returned (.tuple #[.int .u64 (beVal xs 0), .nilIface]) ∧ w = w' := by
  obtain ⟨ad, rfl, hx0⟩ := cell_at hr 0 (by omega)
  have cells : ∀ k : Nat, k < xs.length → w.cell? (ad.add k) = some (.int .u8 (rd xs k)) := by
    intro k hk
    obtain ⟨ad', e, hx'⟩ := cell_at hr k hk
    injection e with e
    subst e
    exact hx'
  have q0 : (0 < xs.length) = True := eq_true (by omega)
  simp only [Addr.add_zero', Int.ofNat_zero] at hx0
  have hl9 : xs.length ≤ 9 := by omega
  generalize hn : xs.length = n at *
  have HC := Lib.hid cells
  have HB := Lib.hid (And.intro hb (And.intro hn hv))
  clear cells hr hb hn hv
  have hbig : (n : Int) ≤ 8 ∨ ((n : Int) = 9 ∧ rd xs 0 = 0) := by omega
  clear h9
  have hbl := fun k => beVal_take_le xs HB.out.1 k
  have HL := Lib.hid hbl
  clear hbl
  rcases hbig with hn | ⟨hn, hz⟩
  rotate_left
  (have hn9 : n = 9 := by omega); (clear hn); (subst hn9)
  rotate_left
  all_goals
    go_enter Tryd.func79, Tryd.ntmps79
    go_wp2
    try clear hz
    try clear hx0
  · go_loop [4, 23] (fun v4 v23 => ∃ k : Nat, k ≤ n ∧ v23 = .int .i64 k ∧ v4 = .int .u64 (beVal (xs.take k) 0)) (fun _ v23 => n - (intOf v23).toNat)
    case atStart => exact ⟨0, Nat.zero_le _, rfl, by simp [beVal]⟩
    case round =>
      obtain ⟨k, hk, rfl, rfl⟩ := hrel
      by_cases hlt : k < n
      · have hcl := HC.out k hlt
        have hbd := HB.out.1.rd k
        have hst := beVal_take xs k (by rw [HB.out.2.1]; exact hlt) 0
        have hl0 := (HL.out k).1
        have hl1 := (HL.out (k + 1)).2
        have hv := HB.out.2.2
        have hb0 := hbd.1
        have hb1 := hbd.2
        generalize hv' : beVal (xs.take (k + 1)) 0 = v' at *
        generalize beVal (xs.take k) 0 = v at *
        generalize rd xs k = b at *
        have e1 : IntKind.u64.wrap (v * 256) = v * 256 := wraps_u64 _ (by omega) (by omega)
        have e2 : bits .or .u64 (v * 256) b = v * 256 + b := u64_or_low _ _ (by omega) (by omega) (by omega) (by omega) (by omega)
        have HV := Lib.hid (And.intro hv' hst)
        clear hv' hbd hst hl1 hv
        go_wp2
        go_round
        case rel => exact ⟨k + 1, by omega, by go_num, by rw [HV.out.1, HV.out.2]⟩
        case measure => simp [intOf]; omega
      · obtain rfl : k = n := by omega
        rw [List.take_of_length_le (by rw [HB.out.2.1]; exact Nat.le_refl _)]
        go_wp2
        go_ret2
        exact ⟨rfl, rfl⟩
  · go_loop [4, 23] (fun v4 v23 => ∃ k : Nat, k ≤ 9 ∧ v23 = .int .i64 k ∧ v4 = .int .u64 (beVal (xs.take k) 0)) (fun _ v23 => 9 - (intOf v23).toNat)
    case atStart => exact ⟨0, Nat.zero_le _, rfl, by simp [beVal]⟩
    case round =>
      obtain ⟨k, hk, rfl, rfl⟩ := hrel
      by_cases hlt : k < 9
      · have hcl := HC.out k hlt
        have hbd := HB.out.1.rd k
        have hst := beVal_take xs k (by rw [HB.out.2.1]; exact hlt) 0
        have hl0 := (HL.out k).1
        have hl1 := (HL.out (k + 1)).2
        have hv := HB.out.2.2
        have hb0 := hbd.1
        have hb1 := hbd.2
        generalize hv' : beVal (xs.take (k + 1)) 0 = v' at *
        generalize beVal (xs.take k) 0 = v at *
        generalize rd xs k = b at *
        have e1 : IntKind.u64.wrap (v * 256) = v * 256 := wraps_u64 _ (by omega) (by omega)
        have e2 : bits .or .u64 (v * 256) b = v * 256 + b := u64_or_low _ _ (by omega) (by omega) (by omega) (by omega) (by omega)
        have HV := Lib.hid (And.intro hv' hst)
        have hk9 : (k : Int) < 9 := by omega
        have hk9' : (k < 9) = True := eq_true hlt
        clear hv' hbd hst hl1 hv hlt
        go_wp2
        go_round
        case rel => exact ⟨k + 1, by omega, by go_num, by rw [HV.out.1, HV.out.2]⟩
        case measure => simp [intOf]; omega
      · obtain rfl : k = 9 := by omega
        rw [List.take_of_length_le (by rw [HB.out.2.1]; exact Nat.le_refl _)]
        go_wp2
        go_ret2
        exact ⟨rfl, rfl⟩
end Go.Proofs.YtangjgclpipjdaaDoor
set_option linter.unusedVariables false
namespace Go.Proofs.YtangjgclpipjdaaDoor
open Go.RowKit Go.Proofs.YtangjgclpipjdaaDoorW.PrintWords Go.Proofs.YtangjgclpipjdaaDoorW.PrintLast Go.Proofs.YtangjgclpipjdaaDoorW.PrintMore
theorem ofUint_rows (xs : List Int) (hb : IsB xs) (h8 : xs.length ≤ 8) (hv : beVal xs 0 < 18446744073709551616) (m : Nat) : ∀ k i, xs.length = i + m → m + 1 ≤ k →
    PFnValue.spec_OfUint.l0 k (beVal (xs.take i) 0) xs xs.length (i : Nat) = some (beVal xs 0, true) := by
  induction m with
  | zero =>
    intro k i hi hk
    obtain ⟨k, rfl⟩ : ∃ j, k = j + 1 := ⟨k - 1, by omega⟩
    rw [PFnValue.spec_OfUint.l0, if_neg (by omega), List.take_of_length_le (by omega)]
  | succ m ih =>
    intro k i hi hk
    obtain ⟨k, rfl⟩ : ∃ j, k = j + 1 := ⟨k - 1, by omega⟩
    have hbd := hb.rd i
    have h0 := (beVal_take_le xs hb i).1
    have h1 := (beVal_take_le xs hb (i + 1)).2
    have e := beVal_take xs i (by omega) 0
    rw [PFnValue.spec_OfUint.l0, if_pos (by omega), if_pos (by omega), if_pos (by omega), wraps_u64 (rd xs i) hbd.1 (by omega), wraps_u64 _ (by omega) (by omega), u64_or_low _ _ (by omega) hbd.1 (by omega) (by omega) (by omega),
      ← e, show wrap64 ((i : Int) + 1) = ((i + 1 : Nat) : Int) by unfold wrap64; omega]
    exact ih k (i + 1) (by omega) (by omega)
/-- The bytes of the number: without a nought ahead of eight. -/
def uPart (xs : List Int) : List Int := if xs.length = 9 ∧ rd xs 0 = 0 then xs.drop 1 else xs
theorem ofUint_eq (xs : List Int) (hb : IsB xs) (h1 : 1 ≤ (uPart xs).length) (h8 : (uPart xs).length ≤ 8) : PFnValue.spec_OfUint.f 14 xs = some (beVal (uPart xs) 0, true) := by
  have hbu : IsB (uPart xs) := by unfold uPart; split; exact isB_drop hb 1; exact hb
  have hv : beVal (uPart xs) 0 < 18446744073709551616 := by
    have h := beVal_bound _ hbu 0 (by omega)
    have : (256 : Int) ^ (uPart xs).length ≤ 256 ^ 8 := by
      have : (uPart xs).length = 1 ∨ (uPart xs).length = 2 ∨ (uPart xs).length = 3 ∨ (uPart xs).length = 4 ∨ (uPart xs).length = 5 ∨ (uPart xs).length = 6 ∨ (uPart xs).length = 7 ∨ (uPart xs).length = 8 := by omega
      rcases this with e | e | e | e | e | e | e | e <;> rw [e] <;> decide
    omega
  have fin : ∀ k, 11 ≤ k → PFnValue.spec_OfUint.j1 k (uPart xs) = some (beVal (uPart xs) 0, true) := by
    intro k hk
    obtain ⟨k, rfl⟩ : ∃ j, k = j + 2 := ⟨k - 2, by omega⟩
    rw [PFnValue.spec_OfUint.j1, if_neg (by omega), show decide (((uPart xs).length : Int) > 8) = false by simp; omega, PFnValue.spec_OfUint.j2, if_neg (by simp)]
    have := ofUint_rows (uPart xs) hbu h8 hv (uPart xs).length k 0 (by omega) (by omega)
    simpa [beVal] using this
  unfold PFnValue.spec_OfUint.f
  by_cases c9 : xs.length = 9
  · rw [if_pos (by omega), if_pos (by omega), PFnValue.spec_OfUint.j0]
    by_cases cz : rd xs 0 = 0
    · have e : uPart xs = xs.drop 1 := if_pos ⟨c9, cz⟩
      rw [if_pos (by simp [cz]), if_pos (by omega), ← e]
      exact fin 13 (by omega)
    · have e : uPart xs = xs := if_neg (by simp [cz])
      rw [e] at h8; omega
  · have e : uPart xs = xs := if_neg (by simp [c9])
    rw [if_neg (by omega), PFnValue.spec_OfUint.j0, if_neg (by simp)]
    have := fin 13 (by omega)
    rw [e] at this ⊢
    exact this
theorem ofUint_no (xs : List Int) (h : ¬ (1 ≤ (uPart xs).length ∧ (uPart xs).length ≤ 8)) : PFnValue.spec_OfUint.f 14 xs = some (0, false) := by
  have fin : ∀ k, 11 ≤ k → PFnValue.spec_OfUint.j1 k (uPart xs) = some (0, false) := by
    intro k hk
    obtain ⟨k, rfl⟩ : ∃ j, k = j + 2 := ⟨k - 2, by omega⟩
    rw [PFnValue.spec_OfUint.j1]
    by_cases c : (uPart xs).length = 0
    · rw [if_pos (by omega), PFnValue.spec_OfUint.j2, if_pos rfl]
    · rw [if_neg (by omega), show decide (((uPart xs).length : Int) > 8) = true by simp; omega, PFnValue.spec_OfUint.j2, if_pos rfl]
  unfold PFnValue.spec_OfUint.f
  by_cases c9 : xs.length = 9
  · rw [if_pos (by omega), if_pos (by omega), PFnValue.spec_OfUint.j0]
    by_cases cz : rd xs 0 = 0
    · have e : uPart xs = xs.drop 1 := if_pos ⟨c9, cz⟩
      rw [if_pos (by simp [cz]), if_pos (by omega), ← e]
      exact fin 13 (by omega)
    · have e : uPart xs = xs := if_neg (by simp [cz])
      rw [if_neg (by simp [cz])]
      have := fin 13 (by omega)
      rw [e] at this
      exact this
  · have e : uPart xs = xs := if_neg (by simp [c9])
    rw [if_neg (by omega), PFnValue.spec_OfUint.j0, if_neg (by simp)]
    have := fin 13 (by omega)
    rw [e] at this
    exact this
end Go.Proofs.YtangjgclpipjdaaDoor
set_option linter.unusedVariables false
namespace Go.Proofs.YtangjgclpipjdaaDoor
open Go.RowKit Go.Proofs.YtangjgclpipjdaaDoorW.PrintWords Go.Proofs.YtangjgclpipjdaaDoorW.PrintLast Go.Proofs.YtangjgclpipjdaaDoorW.PrintMore
theorem ofGo_lo (x : Int) (l out : List Int) (n : Int) (op : Bool) (h0 : 0 ≤ x) (h1 : x ≤ 127) (hn : n < 33554432) : ofGo (x :: l) out n op = ofGo l (out ++ [n * 128 + x]) 0 false := by
  simp only [ofGo]
  rw [if_neg (by rintro (h | h); omega; omega), if_pos h1, show x % 128 = x by omega]
theorem ofGo_hi (x : Int) (l out : List Int) (h0 : 129 ≤ x) (h1 : x ≤ 255) : ofGo (x :: l) out 0 false = ofGo l out (x - 128) true := by
  simp only [ofGo]
  rw [if_neg (by rintro (h | h); omega; omega), if_neg (by omega), show (0 : Int) * 128 + x % 128 = x - 128 by omega]
theorem ofGo_on (x : Int) (l out : List Int) (n : Int) (h0 : 128 ≤ x) (h1 : x ≤ 255) (hn : n < 33554432) : ofGo (x :: l) out n true = ofGo l out (n * 128 + (x - 128)) true := by
  simp only [ofGo]
  rw [if_neg (by rintro (h | h); simp at h; omega), if_neg (by omega), show x % 128 = x - 128 by omega]
theorem ofGo_b128 (a : Int) (h0 : 0 ≤ a) (h1 : a ≤ 4294967295) (l out : List Int) : ofGo (b128 a ++ l) out 0 false = ofGo l (out ++ [a]) 0 false := by
  unfold b128
  split
  · rw [List.cons_append, List.nil_append, ofGo_lo _ _ _ _ _ h0 (by omega) (by omega)]
    simp
  split
  · simp only [List.cons_append, List.nil_append]
    rw [ofGo_hi _ _ _ (by omega) (by omega), ofGo_lo _ _ _ _ _ (by omega) (by omega) (by omega), show (a / 128 + 128 - 128) * 128 + a % 128 = a by omega]
  split
  · simp only [List.cons_append, List.nil_append]
    rw [ofGo_hi _ _ _ (by omega) (by omega), ofGo_on _ _ _ _ (by omega) (by omega) (by omega), ofGo_lo _ _ _ _ _ (by omega) (by omega) (by omega)]
    rw [show ((a / 16384 + 128 - 128) * 128 + (a / 128 % 128 + 128 - 128)) * 128 + a % 128 = a by omega]
  split
  · simp only [List.cons_append, List.nil_append]
    rw [ofGo_hi _ _ _ (by omega) (by omega), ofGo_on _ _ _ _ (by omega) (by omega) (by omega), ofGo_on _ _ _ _ (by omega) (by omega) (by omega), ofGo_lo _ _ _ _ _ (by omega) (by omega) (by omega)]
    rw [show (((a / 2097152 + 128 - 128) * 128 + (a / 16384 % 128 + 128 - 128)) * 128 + (a / 128 % 128 + 128 - 128)) * 128 + a % 128 = a by omega]
  · simp only [List.cons_append, List.nil_append]
    rw [ofGo_hi _ _ _ (by omega) (by omega), ofGo_on _ _ _ _ (by omega) (by omega) (by omega), ofGo_on _ _ _ _ (by omega) (by omega) (by omega), ofGo_on _ _ _ _ (by omega) (by omega) (by omega), ofGo_lo _ _ _ _ _ (by omega) (by omega) (by omega)]
    rw [show ((((a / 268435456 + 128 - 128) * 128 + (a / 2097152 % 128 + 128 - 128)) * 128 + (a / 16384 % 128 + 128 - 128)) * 128 + (a / 128 % 128 + 128 - 128)) * 128 + a % 128 = a by omega]
theorem ofGo_b128s (rest : List Int) (h : Bnd rest) : ∀ out, ofGo (b128s rest) out 0 false = some (out ++ rest, false) := by
  induction rest with
  | nil => intro out; simp [b128s, ofGo]
  | cons a l ih =>
    intro out
    have ha := h a (by simp)
    rw [b128s_cons, ofGo_b128 a ha.1 ha.2, ih (fun x hx => h x (by simp [hx]))]
    simp
theorem sOf_name (arcs : List Int) (h : arcsOk arcs) (hb : ∀ x ∈ arcs, 0 ≤ x ∧ x ≤ 4294967295) (hl : (sName arcs).length ≤ 300) : sOf (sName arcs) = (arcs, true) := by
  obtain ⟨h2, h60, h0, h1⟩ := h
  obtain ⟨x, y, rest, rfl⟩ : ∃ x y rest, arcs = x :: y :: rest := by
    match arcs, h2 with
    | x :: y :: rest, _ => exact ⟨x, y, rest, rfl⟩
  have hx := hb x (by simp)
  have hy := hb y (by simp)
  change x ≤ 2 at h0
  change y < 40 at h1
  have e : sName (x :: y :: rest) = (40 * x + y) :: b128s rest := by
    show ((40 * x + y) % 256) :: b128s rest = _
    rw [show (40 * x + y) % 256 = 40 * x + y by omega]
  rw [e] at hl ⊢
  have hr : rd ((40 * x + y) :: b128s rest) 0 = 40 * x + y := rfl
  unfold sOf
  rw [hr, if_neg (by simp at hl ⊢; omega), show (40 * x + y) / 40 = x by omega, show (40 * x + y) % 40 = y by omega]
  rw [show ((40 * x + y) :: b128s rest).drop 1 = b128s rest from rfl, ofGo_b128s rest (fun z hz => hb z (by simp [hz]))]
  simp at h60 ⊢
  omega
theorem sOf_asked {tx arcs : List Int} (h : sArcs tx = (arcs, true)) : sOf (sName arcs) = (arcs, true) := by
  obtain ⟨h1, h2, -⟩ := sArcs_text _ _ h
  exact sOf_name arcs h1 (sArcs_bounds _ _ h) (by omega)
/-- What is told of a content: number, number without a sign, text. -/
def sTold (tag : Int) (c : List Int) : Option (Int × Int × List Int) :=
  if tag = 2 then (if 1 ≤ c.length ∧ c.length ≤ 8 then some (sVal c, 0, []) else none)
  else if tag = 4 then some (0, 0, c)
  else if tag = 5 ∨ tag = 128 ∨ tag = 129 ∨ tag = 130 then (if c.length = 0 then some (0, 0, []) else none)
  else if tag = 6 then (if (sOf c).2 = true then some (0, 0, sDot (sOf c).1) else none)
  else if tag = 64 then (if c.length = 4 then some (0, 0, dots c) else none)
  else if tag = 65 ∨ tag = 66 ∨ tag = 67 ∨ tag = 70 then (if 1 ≤ (uPart c).length ∧ (uPart c).length ≤ 8 then some (0, beVal (uPart c) 0, []) else none)
  else none
theorem uPart_sUint (u : Int) (h0 : 0 ≤ u) (h1 : u ≤ 18446744073709551615) : 1 ≤ (uPart (sUint u)).length ∧ (uPart (sUint u)).length ≤ 8 ∧ beVal (uPart (sUint u)) 0 = u := by
  obtain ⟨a, b, c⟩ := sUint_val u h0 h1
  unfold uPart
  split
  · rename_i h
    obtain ⟨h9, hz⟩ := h
    cases hs : sUint u with
    | nil => rw [hs] at h9; simp at h9
    | cons x l =>
      rw [hs] at h9 hz a
      have hx : x = 0 := hz
      subst hx
      have e : beVal (0 :: l) 0 = beVal l 0 := rfl
      rw [e] at a
      simp at h9 ⊢
      exact ⟨by omega, by omega, a⟩
  · rename_i h
    refine ⟨b, ?_, a⟩
    rcases c with c | c
    · exact c
    · exact absurd c h
theorem Cont.sTold {ty i u : Int} {tx : ByteArray} {c : List Int} {i' u' : Int} {tx' : List Int} (h : Cont ty i u (bs tx) c i' u' tx') (u0 : 0 ≤ u) (u1 : u ≤ 18446744073709551615) : sTold ty c = some (i', u', tx') := by
  unfold Go.Proofs.YtangjgclpipjdaaDoor.sTold
  cases h with
  | int h h0 h1 =>
    have := mInt32_len i
    rw [if_pos h, if_pos (by omega), sVal_mInt32 i h0 h1]
  | oct h h0 => rw [if_neg (by omega), if_pos h]
  | null h => rw [if_neg (by omega), if_neg (by omega), if_pos h]; rfl
  | oid h arcs ha => rw [if_neg (by omega), if_neg (by omega), if_neg (by omega), if_pos h, sOf_asked ha]; rfl
  | addr h out ha =>
    obtain ⟨h4, hd, -⟩ := sAddr_text _ _ ha
    rw [if_neg (by omega), if_neg (by omega), if_neg (by omega), if_neg (by omega), if_pos h, if_pos h4, ← hd]
  | u32 h h0 =>
    obtain ⟨a, b, e⟩ := uPart_sUint u u0 u1
    rw [if_neg (by omega), if_neg (by omega), if_neg (by omega), if_neg (by omega), if_neg (by omega), if_pos (by omega), if_pos ⟨a, b⟩, e]
  | u64 h =>
    obtain ⟨a, b, e⟩ := uPart_sUint u u0 u1
    rw [if_neg (by omega), if_neg (by omega), if_neg (by omega), if_neg (by omega), if_neg (by omega), if_pos (by omega), if_pos ⟨a, b⟩, e]
def tellVar (arcs : List Int) (tag : Int) (rest : List Int) : Option (Int × Int × List Int) → Option ((List Int × Int × Int × Int × List Int) × List Int)
  | none => none
  | some (i, u, tx) => some ((arcs, tag, i, u, tx), rest)
/-- The reference's OfVar: arcs, type, number, number without a sign, text; what is behind. -/
def sOfVar (b : List Int) : Option ((List Int × Int × Int × Int × List Int) × List Int) :=
  match sNext b 48 with
  | none => none
  | some (inn, rest) => match sNext inn 6 with
    | none => none
    | some (nm, in2) => match sOpen in2 with
      | none => none
      | some (tag, c, left) =>
        if (sOf nm).2 = true ∧ left.length = 0 then tellVar (sOf nm).1 tag rest (sTold tag c) else none
end Go.Proofs.YtangjgclpipjdaaDoor
set_option linter.unusedVariables false
namespace Go.Proofs.YtangjgclpipjdaaDoor
open Go.RowKit Go.Proofs.YtangjgclpipjdaaDoorW.PrintWords Go.Proofs.YtangjgclpipjdaaDoorW.PrintLast Go.Proofs.YtangjgclpipjdaaDoorW.PrintMore
theorem parseInt_any (A : Option Addr) (c : Nat) (xs : List Int) (w : World) (hr : Kd.C (Kd.int .u8) w A xs.length xs) (hb : IsB xs) (h1 : 1 ≤ xs.length) (h8 : xs.length ≤ 8) :
    Calls Tryd.prog 72 #[.slice A xs.length c] w fun e w' => e = .returned (.tuple #[.int .i64 (sVal xs), .nilIface]) ∧ Below w.heap.size w w' := by
  have hsv : wrap64 (sVal xs) = sVal xs := by unfold sVal wrap64; omega
  have HH := Lib.hid (And.intro hr hb)
  clear hr hb
  go_enter Tryd.func72, Tryd.ntmps72
  go_wp2_with fail
  refine (parseInt64_any A c xs w HH.out.1 HH.out.2 h1 h8).mono ?_
  rintro e w' ⟨rfl, rfl⟩
  go_wp2
  go_ret2
  exact ⟨rfl, Below.refl _ _⟩
theorem parseUint_any (A : Option Addr) (c : Nat) (xs : List Int) (w : World) (hr : Kd.C (Kd.int .u8) w A xs.length xs) (hb : IsB xs) (h1 : 1 ≤ xs.length) (h9 : xs.length ≤ 8 ∨ (xs.length = 9 ∧ rd xs 0 = 0)) (hv : beVal xs 0 < 18446744073709551616) :
    Calls Tryd.prog 76 #[.slice A xs.length c] w fun e w' => e = .returned (.tuple #[.int .u64 (beVal xs 0), .nilIface]) ∧ Below w.heap.size w w' := by
  have hpos := (beVal_bound xs hb 0 (by omega)).1
  have HH := Lib.hid (And.intro hr (And.intro hb h9))
  clear hr hb h9
  go_enter Tryd.func76, Tryd.ntmps76
  go_wp2_with fail
  refine (parseUint64_any A c xs w HH.out.1 HH.out.2.1 h1 HH.out.2.2 hv).mono ?_
  rintro e w' ⟨rfl, rfl⟩
  go_wp2
  go_ret2
  exact ⟨rfl, Below.refl _ _⟩
theorem parseUint32_any (A : Option Addr) (c : Nat) (xs : List Int) (w : World) (hr : Kd.C (Kd.int .u8) w A xs.length xs) (hb : IsB xs) (h1 : 1 ≤ xs.length) (h9 : xs.length ≤ 8 ∨ (xs.length = 9 ∧ rd xs 0 = 0)) (hv : beVal xs 0 < 4294967296) :
    Calls Tryd.prog 77 #[.slice A xs.length c] w fun e w' => e = .returned (.tuple #[.int .u32 (beVal xs 0), .nilIface]) ∧ Below w.heap.size w w' := by
  have hpos := (beVal_bound xs hb 0 (by omega)).1
  have hw : beVal xs 0 % 4294967296 = beVal xs 0 := by omega
  have HH := Lib.hid (And.intro hr (And.intro hb h9))
  clear hr hb h9
  go_enter Tryd.func77, Tryd.ntmps77
  go_wp2_with fail
  refine (parseUint_any A c xs w HH.out.1 HH.out.2.1 h1 HH.out.2.2 (by omega)).mono ?_
  rintro e w' ⟨rfl, hb⟩
  have HB := Lib.hid hb
  clear hb
  go_wp2
  go_ret2
  exact ⟨rfl, HB.out⟩
theorem print_any (v1 : Value) (w : World) : Calls Tryd.prog 73 #[.agg #[], v1] w fun e w' => e = .returned (.tuple #[]) ∧ Below w.heap.size w w' := by
  go_enter Tryd.func73, Tryd.ntmps73
  go_wp2
  go_end0
  exact ⟨rfl, (Below.refl _ _).alloc (Nat.le_refl _) _⟩
theorem printf_any (v1 v2 : Value) (w : World) : Calls Tryd.prog 69 #[.agg #[], v1, v2] w fun e w' => e = .returned (.tuple #[]) ∧ Below w.heap.size w w' := by
  go_enter Tryd.func69, Tryd.ntmps69
  go_wp2
  go_end0
  exact ⟨rfl, (Below.refl _ _).alloc (Nat.le_refl _) _⟩
end Go.Proofs.YtangjgclpipjdaaDoor
set_option linter.unusedVariables false
namespace Go.Proofs.YtangjgclpipjdaaDoor
open Go.RowKit Go.Proofs.YtangjgclpipjdaaDoorW.PrintWords Go.Proofs.YtangjgclpipjdaaDoorW.PrintLast Go.Proofs.YtangjgclpipjdaaDoorW.PrintMore
theorem infoU8e : ∃ i, Tryd.prog.info? 5 = some i ∧ i.size = 1 := by
  obtain ⟨i, hi, hz⟩ := Option.map_eq_some_iff.1 infoB
  simp at hz
  exact ⟨i, hi, hz.2.1⟩
theorem sealed_len (t : Int) (c : List Int) (wide : Nat) : c.length + 2 ≤ (sSealed t c wide).length ∧ (sSealed t c wide).length ≤ c.length + wide + 6 := by
  have h := sLen_len c.length wide
  have h1 : 1 ≤ (sLen c.length wide).length := by unfold sLen; split <;> simp
  simp only [sSealed, List.length_cons, List.length_append]
  omega
/-- What a walk wants of an element at the front of bytes xs. -/
structure Elem (t : Int) (c xs : List Int) (L : Nat) (A : Option Addr) (cc : Nat) (A' : Option Addr) (c' : Nat) : Prop where
  parse : ∀ w, Kd.C (Kd.int .u8) w A xs.length xs → Calls Tryd.prog 71 #[.slice A xs.length cc] w fun e w' => e = .returned (.tuple #[.int .i64 L, .int .i64 (L - c.length), .nilIface]) ∧ w = w'
  cut : ∀ W : World, (Instr.slice 26 (.slice A xs.length cc) (some (.int .i64 (L - c.length))) (some (.int .i64 L)) none).run Tryd.prog W = .ok (.slice A' c.length c') W
  reads : ∀ w, Kd.C (Kd.int .u8) w A xs.length xs → Kd.C (Kd.int .u8) w A' c.length c
  head : ∀ w, Kd.C (Kd.int .u8) w A xs.length xs → ∃ ad, A = some ad ∧ w.cell? ad = some (.int .u8 (t % 256))
  le : c.length ≤ c'
  two : 2 ≤ xs.length
  len : L ≤ xs.length
  clen : c.length + 2 ≤ L
set_option maxRecDepth 100000 in
theorem parseRaw_oid (A : Option Addr) (cc : Nat) (xs : List Int) (L : Nat) (A' : Option Addr) (c' : Nat) (msg : ByteArray) (a b : Int) (rest : List Int) (a0 : 0 ≤ a) (a2 : a ≤ 2) (b0 : 0 ≤ b) (b40 : b < 40) (hrest : ∀ x ∈ rest, 0 ≤ x ∧ x ≤ 4294967295) (hl : rest.length ≤ 300) (hE : Elem 6 (sName (a :: b :: rest)) xs L A cc A' c') (hx : xs.length ≤ 100000) (w : World) (hr : Kd.C (Kd.int .u8) w A xs.length xs) (ht : PowTab w) :
    Calls Tryd.prog 74 #[.agg #[], .slice A xs.length cc, .string msg] w fun e w' => e = .returned (.tuple #[.iface 9 (.string (strOfNums (sDot (a :: b :: rest)))), .int .i64 L, .nilIface]) ∧ Below w.heap.size w w' := by
  have HO := Lib.hid (fun W hr ht => parseOid_any A' c' a b rest a0 a2 b0 b40 hrest hl W hr ht)
  obtain ⟨dt, hdt⟩ : ∃ dt, dt = strOfNums (sDot (a :: b :: rest)) := ⟨_, rfl⟩
  rw [← hdt] at HO ⊢
  clear hdt
  generalize sName (a :: b :: rest) = nm at *
  have two := hE.two
  have hll := hE.len
  have hcl := hE.clen
  have hcut := hE.cut
  have HE := Lib.hid (And.intro hE hr)
  obtain ⟨ad, rfl, c0⟩ := hE.head w hr
  have HT := Lib.hid ht
  clear hE hr ht
  go_enter Tryd.func74, Tryd.ntmps74
  have b0w := ((Below.refl w.heap.size w).alloc (Nat.le_refl _) (.cells #[] 88)).alloc (by simp) (.cells #[.iface 9 (.string msg)] 20)
  go_wp2_with fail
  refine (printf_any _ _ _).mono ?_
  rintro e w1 ⟨rfl, hb1⟩
  have b1 := below_step b0w hb1
  have H1 := Lib.hid (And.intro b1 (And.intro (Kd.C_below HE.out.2 b1) (PowTab.on HT.out b1)))
  have c1 := (b1.cell (World.block_lt_of_cell? _ _ c0)).trans c0
  have L0 : (0 : Int) ≤ L := by omega
  have L1 : (L : Int) ≤ xs.length := by omega
  have L2 : (L : Int) - nm.length ≤ L := by omega
  have L3 : (0 : Int) ≤ (L : Int) - nm.length := by omega
  clear hb1 b1 b0w c0
  go_wp2_with fail
  refine (HE.out.1.parse _ H1.out.2.1).mono ?_
  rintro e w2 ⟨rfl, rfl⟩
  go_wp2_with fail
  refine (HO.out _ (HE.out.1.reads _ H1.out.2.1) H1.out.2.2).mono ?_
  rintro e w3 ⟨rfl, hb3⟩
  have H3 := Lib.hid (below_step H1.out.1 hb3)
  clear hb3
  go_wp2
  go_ret3
  exact ⟨rfl, H3.out⟩
end Go.Proofs.YtangjgclpipjdaaDoor
set_option linter.unusedVariables false
namespace Go.Proofs.YtangjgclpipjdaaDoor
open Go.RowKit Go.Proofs.YtangjgclpipjdaaDoorW.PrintWords Go.Proofs.YtangjgclpipjdaaDoorW.PrintLast Go.Proofs.YtangjgclpipjdaaDoorW.PrintMore
/-- netip.Addr as a value: a version 4 address of the number n. -/
abbrev ipV (n : Int) (z : Addr) : Value := .agg #[.int .u64 0, .int .u64 (281470681743360 + n), .pointer (some z)]
/-- The package's variables z4, z0. -/
def ZTab (z : Addr) (w : World) : Prop := w.cell? ⟨13, 0, none⟩ = some (.pointer (some z)) ∧ w.cell? ⟨9, 0, none⟩ = some (.pointer none)
theorem cell_up' {W W' : World} {a : Addr} {v : Value} (c : W.cell? a = some v) (hb : Below W.heap.size W W') : W'.cell? a = some v := (hb.cell (World.block_lt_of_cell? _ _ c)).trans c
theorem ZTab.on {z : Addr} {w w' : World} (h : ZTab z w) (hb : Below w.heap.size w w') : ZTab z w' := ⟨cell_up' h.1 hb, cell_up' h.2 hb⟩
theorem cell_al {W : World} {a : Addr} {v : Value} (c : W.cell? a = some v) (o : Obj) : (W.alloc o).cell? a = some v := cell_up' c ((Below.refl _ _).alloc (Nat.le_refl _) o)
abbrev ipO (n : Int) (z : Addr) : Obj := .cells #[.int .u64 0, .int .u64 (281470681743360 + n), .pointer (some z)] 158
def ip4 (a b c d : Int) : Int := a * 16777216 + b * 65536 + c * 256 + d
theorem eq_nil (d : Nat) (W : World) : ∀ a : Addr, (Op.equalIn (d + 1) 154 (.pointer (some a)) (.pointer none)).run Tryd.prog W = .ok false W := fun a =>
  (run_equalIn_pointer_nil (P := Tryd.prog) W d 154 (some a) (by kernel_rfl)).trans rfl
theorem eq_self (d : Nat) (W : World) : ∀ a : Addr, (Op.equalIn (d + 1) 154 (.pointer (some a)) (.pointer (some a))).run Tryd.prog W = .ok true W := fun a => by
  have h := Tryd.underlying154
  obtain ⟨i, hi⟩ := Option.isSome_iff_exists.1 (show (Tryd.prog.info? 201).isSome = true by kernel_rfl)
  simp [Op.equalIn, run_underlying h, sizeOf, typeInfo, hi, Result.andThen, run_sameAddr_same]
theorem OwnB.blk {w : World} {B : Nat} {v : Value} {xs : List Int} (h : OwnB w B v xs) (k : Nat) (hk : v.ownBlock = some k) : B ≤ k := ((Kd.R_bound h).1 k hk).2.1
theorem v4_any (a b c d : Int) (z : Addr) (i x : Int) (w : World) (ha : 0 ≤ a ∧ a ≤ 255) (hb : 0 ≤ b ∧ b ≤ 255) (hc : 0 ≤ c ∧ c ≤ 255) (hd : 0 ≤ d ∧ d ≤ 255) (hi : (i = 0 ∧ x = a) ∨ (i = 1 ∧ x = b) ∨ (i = 2 ∧ x = c) ∨ (i = 3 ∧ x = d)) : Calls Tryd.prog 142 #[ipV (ip4 a b c d) z, .int .u8 i] w fun e w' => e = .returned (.int .u8 x) ∧ Below w.heap.size w w' := by
  obtain ⟨n, hn⟩ : ∃ n, n = ip4 a b c d := ⟨_, rfl⟩
  rw [← hn]
  have HN := Lib.hid (hn.trans (by unfold ip4; rfl : ip4 a b c d = a * 16777216 + b * 65536 + c * 256 + d))
  clear hn
  rcases hi with ⟨rfl, rfl⟩ | ⟨rfl, rfl⟩ | ⟨rfl, rfl⟩ | ⟨rfl, rfl⟩
  all_goals
    go_enter Tryd.func142, Tryd.ntmps142
    go_wp2
    go_ret
    have h := HN.out
    exact ⟨congrArg (fun t => Ending.returned (Value.int .u8 t)) (by omega), (Below.refl _ _).alloc (Nat.le_refl _) _⟩
set_option maxRecDepth 100000 in
theorem isValid_any (n : Int) (z : Addr) (w : World) (hz : ZTab z w) : Calls Tryd.prog 120 #[ipV n z] w fun e w' => e = .returned (.bool true) ∧ Below w.heap.size w w' := by
  have z1 := cell_al hz.1 (ipO n z)
  have z2 := cell_al hz.2 (ipO n z)
  have q1 := fun W => eq_nil 9998 W z
  have q2 := fun W => eq_self 9998 W z
  simp only [Nat.reduceAdd] at q1 q2
  go_enter Tryd.func120, Tryd.ntmps120
  go_wp2
  go_ret
  exact ⟨rfl, (Below.refl _ _).alloc (Nat.le_refl _) _⟩
set_option maxRecDepth 100000 in
theorem is6_any (n : Int) (z : Addr) (w : World) (hz : ZTab z w) : Calls Tryd.prog 140 #[ipV n z] w fun e w' => e = .returned (.bool false) ∧ Below w.heap.size w w' := by
  have z1 := cell_al hz.1 (ipO n z)
  have z2 := cell_al hz.2 (ipO n z)
  have q1 := fun W => eq_nil 9998 W z
  have q2 := fun W => eq_self 9998 W z
  simp only [Nat.reduceAdd] at q1 q2
  go_enter Tryd.func140, Tryd.ntmps140
  go_wp2
  go_ret
  exact ⟨rfl, (Below.refl _ _).alloc (Nat.le_refl _) _⟩
theorem is4In6_any (n : Int) (z : Addr) (w : World) (hz : ZTab z w) : Calls Tryd.prog 119 #[ipV n z] w fun e w' => e = .returned (.bool false) ∧ Below w.heap.size w w' := by
  have hz2 := hz.on ((Below.refl w.heap.size w).alloc (Nat.le_refl _) (ipO n z))
  have HZ := Lib.hid hz2
  clear hz hz2
  go_enter Tryd.func119, Tryd.ntmps119
  go_wp2_with fail
  refine (is6_any n z _ HZ.out).mono ?_
  rintro e w1 ⟨rfl, hb⟩
  have HB := Lib.hid (below_step ((Below.refl w.heap.size w).alloc (Nat.le_refl _) (ipO n z)) hb)
  clear hb
  go_wp2
  go_ret
  exact ⟨rfl, HB.out⟩
theorem unmap_any (n : Int) (z : Addr) (w : World) (hz : ZTab z w) : Calls Tryd.prog 100 #[ipV n z] w fun e w' => e = .returned (ipV n z) ∧ Below w.heap.size w w' := by
  have b1 := ((Below.refl w.heap.size w).alloc (Nat.le_refl _) (ipO n z)).alloc (by simp) (.cells #[.int .u64 0, .int .u64 0, .pointer none] 158)
  have hz2 := hz.on b1
  have hp : ((w.alloc (ipO n z)).alloc (.cells #[.int .u64 0, .int .u64 0, .pointer none] 158)).heap[w.heap.size]? = some (ipO n z) := blk_alloc (blk_new w (ipO n z)) _
  have hr : ((w.alloc (ipO n z)).alloc (.cells #[.int .u64 0, .int .u64 0, .pointer none] 158)).heap[w.heap.size + 1]? = some (.cells #[.int .u64 0, .int .u64 0, .pointer none] 158) := by
    have := blk_new (w.alloc (ipO n z)) (.cells #[.int .u64 0, .int .u64 0, .pointer none] 158)
    rw [show (w.alloc (ipO n z)).heap.size = w.heap.size + 1 by simp] at this
    exact this
  have HZ := Lib.hid (And.intro hz2 (And.intro b1 (And.intro hp hr)))
  clear hz hz2 b1 hp hr
  go_enter Tryd.func100, Tryd.ntmps100
  go_wp2_with fail
  refine (is4In6_any n z _ HZ.out.1).mono ?_
  rintro e w1 ⟨rfl, hb⟩
  have hp := blk_below HZ.out.2.2.1 hb
  have hr := blk_below HZ.out.2.2.2 hb
  have HB := Lib.hid (And.intro (below_step HZ.out.2.1 hb) hr)
  have p0 : w1.cell? ⟨w.heap.size, 0, none⟩ = some (.int .u64 0) := (blk_cell hp 0).trans rfl
  have p1 : w1.cell? ⟨w.heap.size, 1, none⟩ = some (.int .u64 (281470681743360 + n)) := (blk_cell hp 1).trans rfl
  have p2 : w1.cell? ⟨w.heap.size, 2, none⟩ = some (.pointer (some z)) := (blk_cell hp 2).trans rfl
  have r0 : w1.cell? ⟨w.heap.size + 1, 0, none⟩ = some (.int .u64 0) := (blk_cell hr 0).trans rfl
  have r1 : w1.cell? ⟨w.heap.size + 1, 1, none⟩ = some (.int .u64 0) := (blk_cell hr 1).trans rfl
  have r2 : w1.cell? ⟨w.heap.size + 1, 2, none⟩ = some (.pointer none) := (blk_cell hr 2).trans rfl
  have f0 := blk_frozen hr 0
  have f1 := blk_frozen hr 1
  have f2 := blk_frozen hr 2
  clear hb hp hr HZ
  go_wp2
  have q0 := blk_put (cs' := #[.int .u64 0, .int .u64 0, .pointer none]) HB.out.2 0 (.int .u64 0) rfl
  have q1 := blk_put (cs' := #[.int .u64 0, .int .u64 (281470681743360 + n), .pointer none]) q0 1 (.int .u64 (281470681743360 + n)) rfl
  have q2 := blk_put (cs' := #[.int .u64 0, .int .u64 (281470681743360 + n), .pointer (some z)]) q1 2 (.pointer (some z)) rfl
  exact bodyPost_ret (results_cell_row rfl _ _ (w.heap.size + 1) 158 #[.int .u64 0, .int .u64 (281470681743360 + n), .pointer (some z)] (0, 0) _ rfl q2 Tryd.underlying158 rfl (by kernel_rfl)) rfl ⟨rfl, below_set (below_set (below_set HB.out.1 (by omega)) (by omega)) (by omega)⟩
/-- From w to w' the slice v has become v' by appending alone: its own block may have turned, no other old one; the new slice lies where the old one lay or in new memory. -/
def App (w : World) (v : Value) (w' : World) (v' : Value) : Prop := w.grownBy w' v.ownBlock ∧ (v'.ownBlock = v.ownBlock ∨ ∃ b, v'.ownBlock = some b ∧ w.heap.size ≤ b)
theorem App.app {W w1 : World} {v v1 : Value} {o : Obj} (hg : (W.alloc o).grownBy w1 v.ownBlock) (hat : v1.ownBlock = v.ownBlock ∨ ∃ b, v1.ownBlock = some b ∧ (W.alloc o).heap.size ≤ b) : App W v w1 v1 :=
  ⟨(World.grownBy_alloc W o _).trans hg, hat.imp id (fun ⟨b, h1, h2⟩ => ⟨b, h1, by simp at h2; omega⟩)⟩
theorem App.trans {w w1 w2 : World} {v v1 v2 : Value} (h : App w v w1 v1) (k : App w1 v1 w2 v2) : App w v w2 v2 := by
  refine ⟨⟨k.1.os.trans h.1.os, k.1.tape.trans h.1.tape, k.1.output.trans h.1.output, Nat.le_trans h.1.size k.1.size, fun b hb hne => (k.1.block b (Nat.lt_of_lt_of_le hb h.1.size) ?_).trans (h.1.block b hb hne)⟩, ?_⟩
  · rcases h.2 with e | ⟨b', e, hb'⟩
    · rw [e]; exact hne
    · rw [e]; intro h; injection h with h; omega
  · rcases k.2 with e | ⟨b', e, hb'⟩
    · rw [e]; exact h.2
    · exact .inr ⟨b', e, Nat.le_trans h.1.size hb'⟩
theorem App.below {B : Nat} {w w' : World} {v v' : Value} {xs : List Int} (h : App w v w' v') (ho : OwnB w B v xs) (hB : B ≤ w.heap.size) : Below B w w' := (Below.refl B w).grown h.1 hB (fun k hk => OwnB.blk ho k hk)
theorem App.refl (w : World) (v : Value) : App w v w v := ⟨⟨rfl, rfl, rfl, Nat.le_refl _, fun _ _ _ => rfl⟩, .inl rfl⟩
theorem dig (j : Nat) (h9 : j ≤ 9) (h : j < ByteArray.size ⟨#[48, 49, 50, 51, 52, 53, 54, 55, 56, 57, 97, 98, 99, 100, 101, 102]⟩) : (((⟨#[48, 49, 50, 51, 52, 53, 54, 55, 56, 57, 97, 98, 99, 100, 101, 102]⟩ : ByteArray)[j]'h).toNat : Int) = 48 + j := by
  match j, h9 with
  | 0, _ => rfl
  | 1, _ => rfl
  | 2, _ => rfl
  | 3, _ => rfl
  | 4, _ => rfl
  | 5, _ => rfl
  | 6, _ => rfl
  | 7, _ => rfl
  | 8, _ => rfl
  | 9, _ => rfl
set_option maxRecDepth 100000 in
theorem appendDecimal_any (B : Nat) (x : Int) (x0 : 0 ≤ x) (x1 : x ≤ 255) (v : Value) (xs : List Int) (w : World) (ho : OwnB w B v xs) (hB : B ≤ w.heap.size) (hl : xs.length ≤ 1000) :
    Calls Tryd.prog 141 #[v, .int .u8 x] w fun e w' => ∃ v', e = .returned v' ∧ OwnB w' B v' (xs ++ dec x.toNat) ∧ App w v w' v' := by
  obtain ⟨A, c, rfl, hcc, hC⟩ := Kd.R_reads ho
  have HO := Lib.hid ho
  clear ho hC
  have hj : (x % 10).toNat ≤ 9 := by omega
  have hd0 := dec_step x.toNat
  have hd1 := dec_step (x.toNat / 10)
  have hd2 := dec_step (x.toNat / 10 / 10)
  have e0 : ((48 + x.toNat % 10 : Nat) : Int) = 48 + ((x % 10).toNat : Int) := by omega
  have e1 : ((48 + x.toNat / 10 % 10 : Nat) : Int) = 48 + ((x / 10 % 10).toNat : Int) := by omega
  by_cases h100 : 100 ≤ x
  · have e2 : ((48 + x.toNat / 10 / 10 % 10 : Nat) : Int) = 48 + ((x / 100).toNat : Int) := by omega
    rw [if_neg (by omega), e0] at hd0
    rw [if_neg (by omega), e1] at hd1
    rw [if_pos (by omega), e2] at hd2
    have HD := Lib.hid (show dec x.toNat = [48 + ((x / 100).toNat : Int)] ++ [48 + ((x / 10 % 10).toNat : Int)] ++ [48 + ((x % 10).toNat : Int)] by rw [hd0, hd1, hd2]; rfl)
    clear hd0 hd1 hd2 e0 e1 e2
    go_enter Tryd.func141, Tryd.ntmps141
    go_wp2_with (at_builtin; refine app_bytes rfl (.tmp 7) (.tmp 11) 26 rfl Tryd.underlying26 infoB B (.slice A xs.length c) xs [48 + (x / 100).toNat] (some ⟨w.heap.size, 0, none⟩) 1 1 rfl rfl (Kd.R_alloc HO.out _) (lit_C w [48 + (x / 100).toNat] 1 rfl (by simp) (by show [Value.int .u8 _] = [Value.int .u8 _]; rw [dig _ (by omega)])) (by simp; omega) (by omega) ?_; intro v1 w1 ho1 hg1 hat1; refine Hid.out ?_)
    have b1 : App w (.slice A xs.length c) w1 v1 := App.app hg1 hat1
    have hs1 := b1.1.size
    obtain ⟨A1, c1, rfl, hcc1, -⟩ := Kd.R_reads ho1
    have HO1 := Lib.hid (And.intro ho1 b1)
    have hl1 : (xs ++ [48 + ((x / 100).toNat : Int)]).length ≤ 1001 := by simp; omega
    obtain ⟨xs1, hx1⟩ : ∃ xs1, xs1 = xs ++ [48 + ((x / 100).toNat : Int)] := ⟨_, rfl⟩
    rw [← hx1] at HO1 hcc1 hl1 ⊢
    have HX1 := Lib.hid hx1
    clear hx1
    clear ho1 b1 hg1 hat1
    refine Lib.hid ?_
    go_wp2_with (at_builtin; refine app_bytes rfl (.tmp 15) (.tmp 20) 26 rfl Tryd.underlying26 infoB B (.slice A1 xs1.length c1) xs1 [48 + (x / 10 % 10).toNat] (some ⟨w1.heap.size, 0, none⟩) 1 1 rfl rfl (Kd.R_alloc HO1.out.1 _) (lit_C w1 [48 + (x / 10 % 10).toNat] 1 rfl (by simp) (by show [Value.int .u8 _] = [Value.int .u8 _]; rw [dig _ (by omega)])) (by simp; omega) (by omega) ?_; intro v2 w2 ho2 hg2 hat2; refine Hid.out ?_)
    have b2 := HO1.out.2.trans (App.app hg2 hat2)
    have hs2 := b2.1.size
    obtain ⟨A2, c2, rfl, hcc2, -⟩ := Kd.R_reads ho2
    have HO2 := Lib.hid (And.intro ho2 b2)
    have hl2 : (xs1 ++ [48 + ((x / 10 % 10).toNat : Int)]).length ≤ 1002 := by simp; omega
    have HX2 := Lib.hid (show xs1 ++ [48 + ((x / 10 % 10).toNat : Int)] ++ [48 + ((x % 10).toNat : Int)] = xs ++ dec x.toNat by rw [HD.out, HX1.out]; simp)
    generalize xs1 ++ [48 + ((x / 10 % 10).toNat : Int)] = xs2 at *
    clear ho2 b2 hg2 hat2
    refine Lib.hid ?_
    go_wp2_with (at_builtin; refine app_bytes rfl (.tmp 22) (.tmp 26) 26 rfl Tryd.underlying26 infoB B (.slice A2 xs2.length c2) xs2 [48 + (x % 10).toNat] (some ⟨w2.heap.size, 0, none⟩) 1 1 rfl rfl (Kd.R_alloc HO2.out.1 _) (lit_C w2 [48 + (x % 10).toNat] 1 rfl (by simp) (by show [Value.int .u8 _] = [Value.int .u8 _]; rw [dig _ (by omega)])) (by simp; omega) (by omega) ?_; intro v3 w3 ho3 hg3 hat3)
    go_ret
    have b3 := HO2.out.2.trans (App.app hg3 hat3)
    exact ⟨_, rfl, by rw [← HX2.out]; exact ho3, b3⟩
  by_cases h10 : 10 ≤ x
  · rw [if_neg (by omega), e0] at hd0
    rw [if_pos (by omega), e1] at hd1
    have e10 : x / 10 % 10 = x / 10 := by omega
    have HD := Lib.hid (show dec x.toNat = [48 + ((x / 10 % 10).toNat : Int)] ++ [48 + ((x % 10).toNat : Int)] by rw [hd0, hd1]; rfl)
    clear hd0 hd1 hd2 e0 e1 e10
    obtain ⟨xs1, HX1⟩ : ∃ xs1, Hid (xs1 = xs) := ⟨_, Lib.hid rfl⟩
    have HO1 : Hid (OwnB w B (.slice A xs1.length c) xs1 ∧ App w (.slice A xs1.length c) w (.slice A xs1.length c)) := Lib.hid (by rw [HX1.out]; exact ⟨HO.out, App.refl _ _⟩)
    have hl1 : xs1.length ≤ 1000 := by rw [HX1.out]; exact hl
    have hlx : xs.length = xs1.length := by rw [HX1.out]
    rw [hlx] at *
    clear hlx HO
    have hn100 : ¬ (100 ≤ x) := h100
    go_enter Tryd.func141, Tryd.ntmps141
    go_wp2_with (at_builtin; refine app_bytes rfl (.tmp 15) (.tmp 20) 26 rfl Tryd.underlying26 infoB B (.slice A xs1.length c) xs1 [48 + (x / 10 % 10).toNat] (some ⟨w.heap.size, 0, none⟩) 1 1 rfl rfl (Kd.R_alloc HO1.out.1 _) (lit_C w [48 + (x / 10 % 10).toNat] 1 rfl (by simp) (by show [Value.int .u8 _] = [Value.int .u8 _]; rw [dig _ (by omega)])) (by simp; omega) (by omega) ?_; intro v2 w2 ho2 hg2 hat2; refine Hid.out ?_)
    have b2 := HO1.out.2.trans (App.app hg2 hat2)
    have hs2 := b2.1.size
    obtain ⟨A2, c2, rfl, hcc2, -⟩ := Kd.R_reads ho2
    have HO2 := Lib.hid (And.intro ho2 b2)
    have hl2 : (xs1 ++ [48 + ((x / 10 % 10).toNat : Int)]).length ≤ 1002 := by simp; omega
    have HX2 := Lib.hid (show xs1 ++ [48 + ((x / 10 % 10).toNat : Int)] ++ [48 + ((x % 10).toNat : Int)] = xs ++ dec x.toNat by rw [HD.out, HX1.out]; simp)
    generalize xs1 ++ [48 + ((x / 10 % 10).toNat : Int)] = xs2 at *
    clear ho2 b2 hg2 hat2
    refine Lib.hid ?_
    go_wp2_with (at_builtin; refine app_bytes rfl (.tmp 22) (.tmp 26) 26 rfl Tryd.underlying26 infoB B (.slice A2 xs2.length c2) xs2 [48 + (x % 10).toNat] (some ⟨w2.heap.size, 0, none⟩) 1 1 rfl rfl (Kd.R_alloc HO2.out.1 _) (lit_C w2 [48 + (x % 10).toNat] 1 rfl (by simp) (by show [Value.int .u8 _] = [Value.int .u8 _]; rw [dig _ (by omega)])) (by simp; omega) (by omega) ?_; intro v3 w3 ho3 hg3 hat3)
    go_ret
    have b3 := HO2.out.2.trans (App.app hg3 hat3)
    exact ⟨_, rfl, by rw [← HX2.out]; exact ho3, b3⟩
  · rw [if_pos (by omega), e0] at hd0
    have HD := Lib.hid (show dec x.toNat = [48 + ((x % 10).toNat : Int)] by rw [hd0]; rfl)
    clear hd0 hd1 hd2 e0 e1
    go_enter Tryd.func141, Tryd.ntmps141
    go_wp2_with (at_builtin; refine app_bytes rfl (.tmp 22) (.tmp 26) 26 rfl Tryd.underlying26 infoB B (.slice A xs.length c) xs [48 + (x % 10).toNat] (some ⟨w.heap.size, 0, none⟩) 1 1 rfl rfl (Kd.R_alloc HO.out _) (lit_C w [48 + (x % 10).toNat] 1 rfl (by simp) (by show [Value.int .u8 _] = [Value.int .u8 _]; rw [dig _ (by omega)])) (by simp; omega) (by omega) ?_; intro v3 w3 ho3 hg3 hat3)
    go_ret
    have b3 : App w (.slice A xs.length c) w3 v3 := App.app hg3 hat3
    exact ⟨_, rfl, by rw [HD.out]; exact ho3, b3⟩
end Go.Proofs.YtangjgclpipjdaaDoor
set_option linter.unusedVariables false
namespace Go.Proofs.YtangjgclpipjdaaDoor
open Go.RowKit Go.Proofs.YtangjgclpipjdaaDoorW.PrintWords Go.Proofs.YtangjgclpipjdaaDoorW.PrintLast Go.Proofs.YtangjgclpipjdaaDoorW.PrintMore
def IsRow (k : IntKind) (w : World) (A : Option Addr) (len cap : Nat) (zs : List Int) : Prop :=
  (A = none ∧ len = 0 ∧ cap = 0 ∧ zs = []) ∨ ∃ a, A = some a ∧ len ≤ cap ∧ cap ≤ maxLen ∧ zs.length = cap ∧ (∀ i, i < zs.length → w.cell? (a.add i) = some (.int k (zs.getD i 0))) ∧ ∀ n ∈ zs, (Lit.int k n).wf = true
theorem IsRow.bytes {w : World} {A : Option Addr} {len cap : Nat} {zs : List Int} (h : IsRow .u8 w A len cap zs) : ∃ xs : List Int, len = xs.length ∧ xs.length ≤ cap ∧ xs.length ≤ maxLen ∧ Kd.C (Kd.int .u8) w A xs.length xs ∧ IsB xs := by
  rcases h with ⟨rfl, rfl, rfl, rfl⟩ | ⟨a, rfl, hl, hm, hz, hc, hw⟩
  · exact ⟨[], rfl, Nat.le_refl _, Nat.zero_le _, Kd.C_of_reads (h1 := fun _ => rfl) (d := (0 : Int)) ⟨rfl, Nat.zero_le _, fun h => absurd h (by simp)⟩, fun x hx => by simp at hx⟩
  · have e : (zs.take len).length = len := by rw [List.length_take]; omega
    refine ⟨zs.take len, e.symm, by omega, by omega, Kd.C_of_reads (h1 := fun _ => rfl) (d := (0 : Int)) ⟨rfl, by simp only [maxLen] at hm; omega, fun h => ⟨a, rfl, fun j hj => ?_⟩⟩, ?_⟩
    · rw [e] at hj
      rw [hc j (by omega)]
      simp [List.getD_eq_getElem?_getD, hj]
    · intro x hx
      have := hw x (List.mem_of_mem_take hx)
      exact bounds_u8 this
end Go.Proofs.YtangjgclpipjdaaDoor
