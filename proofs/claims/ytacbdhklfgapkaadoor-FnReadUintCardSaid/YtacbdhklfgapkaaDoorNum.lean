/- Numbers of bytes: the plain laws. -/
import Derived.Test.YtacbdhklfgapkaaDoorPLen
set_option linter.unusedVariables false
namespace Go.Proofs.YtacbdhklfgapkaaDoor
open Go.RowKit Go.Proofs.YtacbdhklfgapkaaDoorW.PrintWords Go.Proofs.YtacbdhklfgapkaaDoorW.PrintLast Go.Proofs.YtacbdhklfgapkaaDoorW.PrintMore

theorem i64_or_low (x b : Int) (hx : x % 256 = 0) (h0 : 0 ≤ b) (h1 : b < 256) : bits .or .i64 x b = wrap64 (x + b) := by
  show IntKind.i64.wrap ((BitVec.ofInt 64 x ||| BitVec.ofInt 64 b).toNat : Int) = _
  rw [BitVec.toNat_or, BitVec.toNat_ofInt, BitVec.toNat_ofInt, nat_join 8 _ _ (by omega) (by omega)]
  rw [IntKind.wrap_i64]
  unfold wrap64
  omega
theorem u64_or_low (x b : Int) (hx : x % 256 = 0) (h0 : 0 ≤ b) (h1 : b < 256) (h2 : 0 ≤ x) (h3 : x < 18446744073709551616) : bits .or .u64 x b = x + b := by
  rw [u64_or x b h2 h3 h0 (by omega), nat_join 8 _ _ (by omega) (by omega)]
  omega
theorem w64_mul (x : Int) : wrap64 (x * 256) % 256 = 0 := by unfold wrap64; omega
theorem w64_step (x b : Int) (h0 : 0 ≤ b) (h1 : b < 256) : bits .or .i64 (wrap64 (wrap64 x * 256)) b = wrap64 (x * 256 + b) := by
  rw [i64_or_low _ _ (w64_mul _) h0 h1]
  unfold wrap64
  omega
/-- The number with a sign. -/
def sVal (xs : List Int) : Int := wrap64 (beVal xs (if rd xs 0 > 127 then -1 else 0))
theorem beVal_start (xs : List Int) : ∀ a : Int, beVal xs a = a * 256 ^ xs.length + beVal xs 0 := by
  induction xs with
  | nil => intro a; simp [beVal]
  | cons x l ih =>
    intro a
    simp only [beVal, List.length_cons]
    rw [ih (a * 256 + x), ih (0 * 256 + x), Int.pow_succ, Int.add_mul, Int.add_mul]
    rw [Int.mul_assoc, Int.mul_comm 256]
    omega
theorem beVal_head (x : Int) (l : List Int) (hb : IsB (x :: l)) : x * 256 ^ l.length ≤ beVal (x :: l) 0 ∧ beVal (x :: l) 0 < (x + 1) * 256 ^ l.length := by
  have h := beVal_bound l (fun y hy => hb y (by simp [hy])) 0 (by omega)
  have e : beVal (x :: l) 0 = x * 256 ^ l.length + beVal l 0 := by
    simp only [beVal]
    rw [beVal_start l (0 * 256 + x), Int.zero_mul, Int.zero_add]
  rw [e, Int.add_mul]
  omega
/-- The number with a sign, of its number without. -/
theorem sVal_of (xs : List Int) (hb : IsB xs) (m : Nat) (hl : xs.length = m + 1) : sVal xs = wrap64 (if 128 * 256 ^ m ≤ beVal xs 0 then beVal xs 0 - 256 ^ (m + 1) else beVal xs 0) := by
  obtain ⟨x, l, rfl⟩ : ∃ x l, xs = x :: l := List.exists_cons_of_length_eq_add_one hl
  have hlm : l.length = m := by simpa using hl
  have h := beVal_head x l hb
  rw [hlm] at h
  have hp : (0 : Int) < 256 ^ m := Int.pow_pos (by decide)
  unfold sVal
  have hx : rd (x :: l) 0 = x := rfl
  rw [hx]
  by_cases c : x > 127
  · rw [if_pos c, if_pos (Int.le_trans (Int.mul_le_mul_of_nonneg_right (by omega) (Int.le_of_lt hp)) h.1), beVal_start _ (-1), hl]
    congr 1
    omega
  · rw [if_neg c, if_neg]
    have : (x + 1) * 256 ^ m ≤ 128 * 256 ^ m := Int.mul_le_mul_of_nonneg_right (by omega) (Int.le_of_lt hp)
    omega
theorem sVal_shift (xs : List Int) (hb : IsB xs) (m : Nat) (hm : m ≤ 7) (hl : xs.length = m + 1) : wrap64 (wrap64 (beVal xs 0) * 256 ^ (7 - m)) / 256 ^ (7 - m) = sVal xs := by
  rw [sVal_of xs hb m hl]
  have h := beVal_bound xs hb 0 (by omega)
  rw [hl] at h
  generalize beVal xs 0 = v at *
  rcases (by omega : m = 0 ∨ m = 1 ∨ m = 2 ∨ m = 3 ∨ m = 4 ∨ m = 5 ∨ m = 6 ∨ m = 7) with rfl | rfl | rfl | rfl | rfl | rfl | rfl | rfl
  all_goals
    simp only [Nat.reduceAdd, Nat.reduceSub, Int.reducePow, Int.reduceMul] at h ⊢
    unfold wrap64
    split <;> omega
end Go.Proofs.YtacbdhklfgapkaaDoor
