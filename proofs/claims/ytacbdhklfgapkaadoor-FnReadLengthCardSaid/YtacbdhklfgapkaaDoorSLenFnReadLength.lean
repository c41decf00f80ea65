/- spec.Length's printed function, below 2^32, at most five bytes more than needed. -/
import Derived.Test.YtacbdhklfgapkaaDoorPFnReadLengthx1
import Derived.Test.YtacbdhklfgapkaaDoorSpec
set_option linter.unusedVariables false
namespace Go.Proofs.YtacbdhklfgapkaaDoor
open Go.RowKit Go.Proofs.YtacbdhklfgapkaaDoorW.PrintWords Go.Proofs.YtacbdhklfgapkaaDoorW.PrintLast Go.Proofs.YtacbdhklfgapkaaDoorW.PrintMore

theorem len_l1 (d : Nat) : ∀ (k : Nat) (x : List Int) (wide i : Nat), i + d = wide → wide ≤ 100 → x.length + d ≤ 100 → PFnReadLength.spec_Length.l1 (k + d + 1) x wide i = some (((128 + (x.length + d : Nat) : Int)) :: (List.replicate d 0 ++ x)) := by
  induction d with
  | zero =>
    intro k x wide i h hw hx
    simp only [PFnReadLength.spec_Length.l1]
    rw [if_neg (by omega)]
    simp only [Option.bind_some, List.length_cons, List.length_nil, List.cons_append, List.nil_append, List.replicate_zero]
    rw [if_pos (by omega)]
    have e : wrap64 (128 + (x.length : Int)) % 256 = 128 + ((x.length + 0 : Nat) : Int) := by unfold wrap64; omega
    rw [e]
  | succ d ih =>
    intro k x wide i h hw hx
    rw [show k + (d + 1) + 1 = (k + d + 1) + 1 by omega, PFnReadLength.spec_Length.l1]
    rw [if_pos (by omega)]
    simp only [Option.bind_some, List.length_cons, List.length_nil, List.cons_append, List.nil_append]
    rw [if_pos (by omega)]
    have e : wrap64 ((i : Int) + 1) = ((i + 1 : Nat) : Int) := by unfold wrap64; omega
    rw [e, ih k (0 :: x) wide (i + 1) (by omega) hw (by simp; omega)]
    have e2 : List.replicate d 0 ++ 0 :: x = List.replicate (d + 1) (0 : Int) ++ x := by
      rw [List.replicate_succ', List.append_assoc]; rfl
    rw [e2]
    simp only [List.length_cons]
    rw [show x.length + 1 + d = x.length + (d + 1) by omega]

theorem len_l0_stop (k : Nat) (n wide : Int) (x : List Int) (h : n ≤ 0) : PFnReadLength.spec_Length.l0 (k + 1) n wide x = PFnReadLength.spec_Length.l1 k x wide 0 := by
  simp only [PFnReadLength.spec_Length.l0]
  rw [if_neg (by omega)]
theorem len_l0_step (k : Nat) (n wide : Int) (x : List Int) (h : 0 < n) (hx : x.length ≤ 100) : PFnReadLength.spec_Length.l0 (k + 1) n wide x = PFnReadLength.spec_Length.l0 k (n / 256) wide (n % 256 :: x) := by
  simp only [PFnReadLength.spec_Length.l0]
  rw [if_pos (by omega)]
  simp only [Option.bind_some, List.length_cons, List.length_nil, List.cons_append, List.nil_append]
  rw [if_pos (by omega)]

theorem len_l0 (n : Int) (wide : Nat) (hw : wide ≤ 5) (h1 : n ≤ 4294967295) : PFnReadLength.spec_Length.l0 20 n wide [] = some (((128 + ((lenBytes n).length + wide : Nat) : Int)) :: (List.replicate wide 0 ++ lenBytes n)) := by
  have d2 : n / 256 / 256 = n / 65536 := by omega
  have d3 : n / 65536 / 256 = n / 16777216 := by omega
  have fin : ∀ (j : Nat) (x : List Int), x.length ≤ 4 → wide + 1 ≤ j → PFnReadLength.spec_Length.l1 j x wide 0 = some (((128 + (x.length + wide : Nat) : Int)) :: (List.replicate wide 0 ++ x)) := by
    intro j x hx hj
    have := len_l1 wide (j - wide - 1) x wide 0 (by omega) (by omega) (by omega)
    rw [show j - wide - 1 + wide + 1 = j by omega] at this
    exact this
  unfold lenBytes
  split
  · rw [len_l0_stop _ _ _ _ (by omega), fin _ _ (by simp) (by omega)]
  rw [len_l0_step _ _ _ _ (by omega) (by simp)]
  split
  · rw [len_l0_stop _ _ _ _ (by omega), fin _ _ (by simp) (by omega), show n % 256 = n by omega]
  rw [len_l0_step _ _ _ _ (by omega) (by simp), d2]
  split
  · rw [len_l0_stop _ _ _ _ (by omega), fin _ _ (by simp) (by omega), show n / 256 % 256 = n / 256 by omega]
  rw [len_l0_step _ _ _ _ (by omega) (by simp), d3]
  split
  · rw [len_l0_stop _ _ _ _ (by omega), fin _ _ (by simp) (by omega), show n / 65536 % 256 = n / 65536 by omega]
  rw [len_l0_step _ _ _ _ (by omega) (by simp), len_l0_stop _ _ _ _ (by omega), fin _ _ (by simp) (by omega), show n / 16777216 % 256 = n / 16777216 by omega]

theorem sLen_eq (n : Int) (wide : Nat) (hw : wide ≤ 5) (h0 : 0 ≤ n) (h1 : n ≤ 4294967295) : PFnReadLength.spec_Length.f 21 n wide = some (sLen n wide) := by
  unfold PFnReadLength.spec_Length.f sLen
  by_cases c : n < 128
  · rw [if_pos c]
    by_cases c2 : wide = 0
    · rw [if_pos ⟨c, c2⟩]
      subst c2
      simp only [PFnReadLength.spec_Length.j0]
      rw [if_pos (by rfl), show n % 256 = n by omega]
    · rw [if_neg (by omega)]
      simp only [PFnReadLength.spec_Length.j0]
      rw [if_neg (by simp; omega)]
      exact len_l0 n wide hw h1
  · rw [if_neg c, if_neg (by omega)]
    simp only [PFnReadLength.spec_Length.j0]
    rw [if_neg (by simp)]
    exact len_l0 n wide hw h1
end Go.Proofs.YtacbdhklfgapkaaDoor
