/- The pure side of FnInt: spec.Int's printed function comes to the bytes of marshalInt32. -/
import Derived.Test.YtacbdhklfgapkaaPFnIntx1
import Derived.Test.YtacbdhklfgapkaaInt
set_option linter.unusedVariables false
namespace Go.Proofs.Ytacbdhklfgapkaa
open Go.RowKit Go.Proofs.YtacbdhklfgapkaaW.PrintWords Go.Proofs.YtacbdhklfgapkaaW.PrintLast Go.Proofs.YtacbdhklfgapkaaW.PrintMore

theorem sInt_step (k : Nat) (x : Int) (l : List Int) (hl : l.length < 1000) (h : x < -128 ∨ 127 < x) : PFnInt.spec_Int.l0 (k + 1) x l = PFnInt.spec_Int.l0 k (x / 256) ((x / 256) % 256 :: l) := by
  simp only [PFnInt.spec_Int.l0]
  by_cases h1 : x < -128
  · rw [if_pos h1]
    simp only [Option.bind_some, List.length_cons, List.length_nil, List.cons_append, List.nil_append]
    rw [if_pos (by omega)]
  · rw [if_neg h1, if_pos (by omega)]
    simp only [Option.bind_some, List.length_cons, List.length_nil, List.cons_append, List.nil_append]
    rw [if_pos (by omega)]
theorem sInt_stop (k : Nat) (x : Int) (l : List Int) (h : -128 ≤ x ∧ x ≤ 127) : PFnInt.spec_Int.l0 (k + 1) x l = some l := by
  simp only [PFnInt.spec_Int.l0]
  rw [if_neg (by omega), if_neg (by omega)]

theorem sInt_eq (n : Int) (h0 : -2147483648 ≤ n) (h1 : n ≤ 2147483647) : PFnInt.spec_Int.f 10 n = some (mInt32 n) := by
  unfold PFnInt.spec_Int.f mInt32
  have d2 : n / 256 / 256 = n / 65536 := by omega
  have d3 : n / 65536 / 256 = n / 16777216 := by omega
  split
  · exact sInt_stop _ _ _ (by omega)
  · rw [sInt_step _ _ _ (by simp) (by omega)]
    split
    · exact sInt_stop _ _ _ (by omega)
    · rw [sInt_step _ _ _ (by simp) (by omega), d2]
      split
      · exact sInt_stop _ _ _ (by omega)
      · rw [sInt_step _ _ _ (by simp) (by omega), d3]
        exact sInt_stop _ _ _ (by omega)
end Go.Proofs.Ytacbdhklfgapkaa
