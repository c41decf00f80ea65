/- spec.OfInt's printed function. -/
import Derived.Test.YtacbdhklfgapkaaDoorPFnReadIntx1
import Derived.Test.YtacbdhklfgapkaaDoorPInt
set_option linter.unusedVariables false
namespace Go.Proofs.YtacbdhklfgapkaaDoor
open Go.RowKit Go.Proofs.YtacbdhklfgapkaaDoorW.PrintWords Go.Proofs.YtacbdhklfgapkaaDoorW.PrintLast Go.Proofs.YtacbdhklfgapkaaDoorW.PrintMore

theorem ofInt_rows (xs : List Int) (hb : IsB xs) (s : Int) (h8 : xs.length ≤ 8) (m : Nat) : ∀ k i, xs.length = i + m → m + 1 ≤ k →
    PFnReadInt.spec_OfInt.l0 k (wrap64 (beVal (xs.take i) s)) xs xs.length (i : Nat) = some (wrap64 (beVal xs s), true) := by
  induction m with
  | zero =>
    intro k i hi hk
    obtain ⟨k, rfl⟩ : ∃ j, k = j + 1 := ⟨k - 1, by omega⟩
    rw [PFnReadInt.spec_OfInt.l0, if_neg (by omega), List.take_of_length_le (by omega)]
  | succ m ih =>
    intro k i hi hk
    obtain ⟨k, rfl⟩ : ∃ j, k = j + 1 := ⟨k - 1, by omega⟩
    have hbd := hb.rd i
    rw [PFnReadInt.spec_OfInt.l0, if_pos (by omega), if_pos (by omega), if_pos (by omega), show wrap64 (rd xs i) = rd xs i by unfold wrap64; omega, w64_step _ _ hbd.1 (by omega),
      ← beVal_take xs i (by omega), show wrap64 ((i : Int) + 1) = ((i + 1 : Nat) : Int) by unfold wrap64; omega]
    exact ih k (i + 1) (by omega) (by omega)
theorem ofInt_eq (xs : List Int) (hb : IsB xs) (h1 : 1 ≤ xs.length) (h8 : xs.length ≤ 8) : PFnReadInt.spec_OfInt.f 12 xs = some (sVal xs, true) := by
  unfold PFnReadInt.spec_OfInt.f
  rw [if_neg (by omega), PFnReadInt.spec_OfInt.j0, show decide ((xs.length : Int) > 8) = false by simp; omega, if_neg (by simp), if_pos (by omega)]
  unfold sVal
  by_cases c : rd xs 0 > 127
  · rw [if_pos c, if_pos c, PFnReadInt.spec_OfInt.j1]
    have := ofInt_rows xs hb (-1) h8 xs.length 10 0 (by omega) (by omega)
    simpa [beVal, wrap64] using this
  · rw [if_neg c, if_neg c, PFnReadInt.spec_OfInt.j1]
    have := ofInt_rows xs hb 0 h8 xs.length 10 0 (by omega) (by omega)
    simpa [beVal, wrap64] using this
theorem ofInt_no (xs : List Int) (h : ¬ (1 ≤ xs.length ∧ xs.length ≤ 8)) : PFnReadInt.spec_OfInt.f 12 xs = some (0, false) := by
  unfold PFnReadInt.spec_OfInt.f
  by_cases c : xs.length = 0
  · rw [if_pos (by omega), PFnReadInt.spec_OfInt.j0, if_pos rfl]
  · rw [if_neg (by omega), show decide ((xs.length : Int) > 8) = true by simp; omega, PFnReadInt.spec_OfInt.j0, if_pos rfl]
end Go.Proofs.YtacbdhklfgapkaaDoor
