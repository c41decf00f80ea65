/- spec.Uint's printed function. -/
import Derived.Test.YtacbdhklfgapkaaPFnUintx1
import Derived.Test.YtacbdhklfgapkaaUint
set_option linter.unusedVariables false
namespace Go.Proofs.Ytacbdhklfgapkaa
open Go.RowKit Go.Proofs.YtacbdhklfgapkaaW.PrintWords Go.Proofs.YtacbdhklfgapkaaW.PrintLast Go.Proofs.YtacbdhklfgapkaaW.PrintMore

theorem sUint_step (k : Nat) (x : Int) (l : List Int) (hl : l.length < 1000) (h : 255 < x) : PFnUint.spec_Uint.l0 (k + 1) x l = PFnUint.spec_Uint.l0 k (x / 256) ((x / 256) % 256 :: l) := by
  rw [PFnUint.spec_Uint.l0, if_pos (by omega)]
  simp only [Option.bind_some, List.length_cons, List.length_nil, List.cons_append, List.nil_append]
  rw [if_pos (by omega)]
theorem sUint_stop (k : Nat) (x : Int) (l : List Int) (h : x ≤ 255) (h0 : 0 < l.length) (hl : l.length < 1000) : PFnUint.spec_Uint.l0 (k + 1) x l = some (if rd l 0 > 127 then 0 :: l else l) := by
  rw [PFnUint.spec_Uint.l0, if_neg (by omega), if_pos (by omega)]
  split
  · simp only [Option.bind_some, List.length_cons, List.length_nil, List.cons_append, List.nil_append]
    rw [if_pos (by omega)]
  · rfl

theorem sUint_eq (n : Int) (h0 : 0 ≤ n) (h1 : n ≤ 18446744073709551615) : PFnUint.spec_Uint.f 10 n = some (sUint n) := by
  unfold PFnUint.spec_Uint.f sUint uBytes
  have e0 : n ≤ 255 → n % 256 = n := by omega
  have e1 : n / 256 / 256 = n / 65536 := by omega
  have e2 : n / 65536 / 256 = n / 16777216 := by omega
  have e3 : n / 16777216 / 256 = n / 4294967296 := by omega
  have e4 : n / 4294967296 / 256 = n / 1099511627776 := by omega
  have e5 : n / 1099511627776 / 256 = n / 281474976710656 := by omega
  have e6 : n / 281474976710656 / 256 = n / 72057594037927936 := by omega
  by_cases c1 : n ≤ 255
  · simp only [if_pos c1]
    rw [sUint_stop _ _ _ c1 (by simp) (by simp), e0 c1]
  simp only [if_neg c1]
  rw [sUint_step _ _ _ (by simp) (by omega)]
  by_cases c2 : n ≤ 65535
  · simp only [if_pos c2]
    rw [sUint_stop _ _ _ (by omega) (by simp) (by simp), show n / 256 % 256 = n / 256 by omega]
  simp only [if_neg c2]
  rw [sUint_step _ _ _ (by simp) (by omega), e1]
  by_cases c3 : n ≤ 16777215
  · simp only [if_pos c3]
    rw [sUint_stop _ _ _ (by omega) (by simp) (by simp), show n / 65536 % 256 = n / 65536 by omega]
  simp only [if_neg c3]
  rw [sUint_step _ _ _ (by simp) (by omega), e2]
  by_cases c4 : n ≤ 4294967295
  · simp only [if_pos c4]
    rw [sUint_stop _ _ _ (by omega) (by simp) (by simp), show n / 16777216 % 256 = n / 16777216 by omega]
  simp only [if_neg c4]
  rw [sUint_step _ _ _ (by simp) (by omega), e3]
  by_cases c5 : n ≤ 1099511627775
  · simp only [if_pos c5]
    rw [sUint_stop _ _ _ (by omega) (by simp) (by simp), show n / 4294967296 % 256 = n / 4294967296 by omega]
  simp only [if_neg c5]
  rw [sUint_step _ _ _ (by simp) (by omega), e4]
  by_cases c6 : n ≤ 281474976710655
  · simp only [if_pos c6]
    rw [sUint_stop _ _ _ (by omega) (by simp) (by simp), show n / 1099511627776 % 256 = n / 1099511627776 by omega]
  simp only [if_neg c6]
  rw [sUint_step _ _ _ (by simp) (by omega), e5]
  by_cases c7 : n ≤ 72057594037927935
  · simp only [if_pos c7]
    rw [sUint_stop _ _ _ (by omega) (by simp) (by simp), show n / 281474976710656 % 256 = n / 281474976710656 by omega]
  simp only [if_neg c7]
  rw [sUint_step _ _ _ (by simp) (by omega), e6, sUint_stop _ _ _ (by omega) (by simp) (by simp), show n / 72057594037927936 % 256 = n / 72057594037927936 by omega]
end Go.Proofs.Ytacbdhklfgapkaa
