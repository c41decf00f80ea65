/- spec.OfUint's printed function. -/
import Derived.Test.YtacbdhklfgapkaaDoorPFnReadUintx1
import Derived.Test.YtacbdhklfgapkaaDoorPInt
set_option linter.unusedVariables false
namespace Go.Proofs.YtacbdhklfgapkaaDoor
open Go.RowKit Go.Proofs.YtacbdhklfgapkaaDoorW.PrintWords Go.Proofs.YtacbdhklfgapkaaDoorW.PrintLast Go.Proofs.YtacbdhklfgapkaaDoorW.PrintMore

theorem ofUint_rows (xs : List Int) (hb : IsB xs) (h8 : xs.length ≤ 8) (hv : beVal xs 0 < 18446744073709551616) (m : Nat) : ∀ k i, xs.length = i + m → m + 1 ≤ k →
    PFnReadUint.spec_OfUint.l0 k (beVal (xs.take i) 0) xs xs.length (i : Nat) = some (beVal xs 0, true) := by
  induction m with
  | zero =>
    intro k i hi hk
    obtain ⟨k, rfl⟩ : ∃ j, k = j + 1 := ⟨k - 1, by omega⟩
    rw [PFnReadUint.spec_OfUint.l0, if_neg (by omega), List.take_of_length_le (by omega)]
  | succ m ih =>
    intro k i hi hk
    obtain ⟨k, rfl⟩ : ∃ j, k = j + 1 := ⟨k - 1, by omega⟩
    have hbd := hb.rd i
    have h0 := (beVal_take_le xs hb i).1
    have h1 := (beVal_take_le xs hb (i + 1)).2
    have e := beVal_take xs i (by omega) 0
    rw [PFnReadUint.spec_OfUint.l0, if_pos (by omega), if_pos (by omega), if_pos (by omega), wraps_u64 (rd xs i) hbd.1 (by omega), wraps_u64 _ (by omega) (by omega), u64_or_low _ _ (by omega) hbd.1 (by omega) (by omega) (by omega),
      ← e, show wrap64 ((i : Int) + 1) = ((i + 1 : Nat) : Int) by unfold wrap64; omega]
    exact ih k (i + 1) (by omega) (by omega)
/-- The bytes of the number: without a nought ahead of eight. -/
def uPart (xs : List Int) : List Int := if xs.length = 9 ∧ rd xs 0 = 0 then xs.drop 1 else xs
theorem ofUint_eq (xs : List Int) (hb : IsB xs) (h1 : 1 ≤ (uPart xs).length) (h8 : (uPart xs).length ≤ 8) : PFnReadUint.spec_OfUint.f 14 xs = some (beVal (uPart xs) 0, true) := by
  have hbu : IsB (uPart xs) := by unfold uPart; split; exact isB_drop hb 1; exact hb
  have hv : beVal (uPart xs) 0 < 18446744073709551616 := by
    have h := beVal_bound _ hbu 0 (by omega)
    have : (256 : Int) ^ (uPart xs).length ≤ 256 ^ 8 := by
      have : (uPart xs).length = 1 ∨ (uPart xs).length = 2 ∨ (uPart xs).length = 3 ∨ (uPart xs).length = 4 ∨ (uPart xs).length = 5 ∨ (uPart xs).length = 6 ∨ (uPart xs).length = 7 ∨ (uPart xs).length = 8 := by omega
      rcases this with e | e | e | e | e | e | e | e <;> rw [e] <;> decide
    omega
  have fin : ∀ k, 11 ≤ k → PFnReadUint.spec_OfUint.j1 k (uPart xs) = some (beVal (uPart xs) 0, true) := by
    intro k hk
    obtain ⟨k, rfl⟩ : ∃ j, k = j + 2 := ⟨k - 2, by omega⟩
    rw [PFnReadUint.spec_OfUint.j1, if_neg (by omega), show decide (((uPart xs).length : Int) > 8) = false by simp; omega, PFnReadUint.spec_OfUint.j2, if_neg (by simp)]
    have := ofUint_rows (uPart xs) hbu h8 hv (uPart xs).length k 0 (by omega) (by omega)
    simpa [beVal] using this
  unfold PFnReadUint.spec_OfUint.f
  by_cases c9 : xs.length = 9
  · rw [if_pos (by omega), if_pos (by omega), PFnReadUint.spec_OfUint.j0]
    by_cases cz : rd xs 0 = 0
    · have e : uPart xs = xs.drop 1 := if_pos ⟨c9, cz⟩
      rw [if_pos (by simp [cz]), if_pos (by omega), ← e]
      exact fin 13 (by omega)
    · have e : uPart xs = xs := if_neg (by simp [cz])
      rw [e] at h8; omega
  · have e : uPart xs = xs := if_neg (by simp [c9])
    rw [if_neg (by omega), PFnReadUint.spec_OfUint.j0, if_neg (by simp)]
    have := fin 13 (by omega)
    rw [e] at this ⊢
    exact this
theorem ofUint_no (xs : List Int) (h : ¬ (1 ≤ (uPart xs).length ∧ (uPart xs).length ≤ 8)) : PFnReadUint.spec_OfUint.f 14 xs = some (0, false) := by
  have fin : ∀ k, 11 ≤ k → PFnReadUint.spec_OfUint.j1 k (uPart xs) = some (0, false) := by
    intro k hk
    obtain ⟨k, rfl⟩ : ∃ j, k = j + 2 := ⟨k - 2, by omega⟩
    rw [PFnReadUint.spec_OfUint.j1]
    by_cases c : (uPart xs).length = 0
    · rw [if_pos (by omega), PFnReadUint.spec_OfUint.j2, if_pos rfl]
    · rw [if_neg (by omega), show decide (((uPart xs).length : Int) > 8) = true by simp; omega, PFnReadUint.spec_OfUint.j2, if_pos rfl]
  unfold PFnReadUint.spec_OfUint.f
  by_cases c9 : xs.length = 9
  · rw [if_pos (by omega), if_pos (by omega), PFnReadUint.spec_OfUint.j0]
    by_cases cz : rd xs 0 = 0
    · have e : uPart xs = xs.drop 1 := if_pos ⟨c9, cz⟩
      rw [if_pos (by simp [cz]), if_pos (by omega), ← e]
      exact fin 13 (by omega)
    · have e : uPart xs = xs := if_neg (by simp [cz])
      rw [if_neg (by simp [cz])]
      have := fin 13 (by omega)
      rw [e] at this
      exact this
  · have e : uPart xs = xs := if_neg (by simp [c9])
    rw [if_neg (by omega), PFnReadUint.spec_OfUint.j0, if_neg (by simp)]
    have := fin 13 (by omega)
    rw [e] at this
    exact this
end Go.Proofs.YtacbdhklfgapkaaDoor
