/- marshalUint64, marshalUint32: the bytes of a number without a sign. -/
import Derived.Test.YtacbdhklfgapkaaProg
import Derived.Test.YtacbdhklfgapkaaBin
import Derived.Test.YtacbdhklfgapkaaClone
set_option linter.unusedVariables false
namespace Go.Proofs.Ytacbdhklfgapkaa
open Go.RowKit Go.Proofs.YtacbdhklfgapkaaW.PrintWords Go.Proofs.YtacbdhklfgapkaaW.PrintLast Go.Proofs.YtacbdhklfgapkaaW.PrintMore

/-- The bytes of n, as few as it takes, at least one. -/
def uBytes (n : Int) : List Int :=
  if n ≤ 255 then [n] else if n ≤ 65535 then [n / 256, n % 256] else if n ≤ 16777215 then [n / 65536, n / 256 % 256, n % 256]
  else if n ≤ 4294967295 then [n / 16777216, n / 65536 % 256, n / 256 % 256, n % 256]
  else if n ≤ 1099511627775 then [n / 4294967296, n / 16777216 % 256, n / 65536 % 256, n / 256 % 256, n % 256]
  else if n ≤ 281474976710655 then [n / 1099511627776, n / 4294967296 % 256, n / 16777216 % 256, n / 65536 % 256, n / 256 % 256, n % 256]
  else if n ≤ 72057594037927935 then [n / 281474976710656, n / 1099511627776 % 256, n / 4294967296 % 256, n / 16777216 % 256, n / 65536 % 256, n / 256 % 256, n % 256]
  else [n / 72057594037927936, n / 281474976710656 % 256, n / 1099511627776 % 256, n / 4294967296 % 256, n / 16777216 % 256, n / 65536 % 256, n / 256 % 256, n % 256]
def sUint (n : Int) : List Int := if rd (uBytes n) 0 > 127 then 0 :: uBytes n else uBytes n

/-- What is left behind zeros. -/
def trim0 : List Int → List Int
  | [] => []
  | x :: l => if x = 0 then trim0 l else x :: l

theorem trim_be64 (n : Int) (h0 : 0 ≤ n) (h1 : n ≤ 18446744073709551615) : trim0 (be64 n) = if n = 0 then [] else uBytes n := by
  unfold be64 uBytes
  by_cases c0 : n = 0
  · subst c0; rfl
  rw [if_neg c0]
  by_cases c1 : n ≤ 255
  · rw [if_pos c1]
    simp only [trim0]
    rw [if_pos (by omega), if_pos (by omega), if_pos (by omega), if_pos (by omega), if_pos (by omega), if_pos (by omega), if_pos (by omega), if_neg (by omega)]
    congr 1; omega
  rw [if_neg c1]
  by_cases c2 : n ≤ 65535
  · rw [if_pos c2]
    simp only [trim0]
    rw [if_pos (by omega), if_pos (by omega), if_pos (by omega), if_pos (by omega), if_pos (by omega), if_pos (by omega), if_neg (by omega)]
    congr 1; omega
  rw [if_neg c2]
  by_cases c3 : n ≤ 16777215
  · rw [if_pos c3]
    simp only [trim0]
    rw [if_pos (by omega), if_pos (by omega), if_pos (by omega), if_pos (by omega), if_pos (by omega), if_neg (by omega)]
    congr 1; omega
  rw [if_neg c3]
  by_cases c4 : n ≤ 4294967295
  · rw [if_pos c4]
    simp only [trim0]
    rw [if_pos (by omega), if_pos (by omega), if_pos (by omega), if_pos (by omega), if_neg (by omega)]
    congr 1; omega
  rw [if_neg c4]
  by_cases c5 : n ≤ 1099511627775
  · rw [if_pos c5]
    simp only [trim0]
    rw [if_pos (by omega), if_pos (by omega), if_pos (by omega), if_neg (by omega)]
    congr 1; omega
  rw [if_neg c5]
  by_cases c6 : n ≤ 281474976710655
  · rw [if_pos c6]
    simp only [trim0]
    rw [if_pos (by omega), if_pos (by omega), if_neg (by omega)]
    congr 1; omega
  rw [if_neg c6]
  by_cases c7 : n ≤ 72057594037927935
  · rw [if_pos c7]
    simp only [trim0]
    rw [if_pos (by omega), if_neg (by omega)]
    congr 1; omega
  rw [if_neg c7]
  simp only [trim0]
  rw [if_neg (by omega)]

theorem uBytes_len (n : Int) : 1 ≤ (uBytes n).length ∧ (uBytes n).length ≤ 8 := by
  unfold uBytes
  repeat' split
  all_goals simp

theorem uBytes_isB (n : Int) (h0 : 0 ≤ n) (h1 : n ≤ 18446744073709551615) (i : Int) : 0 ≤ rd (uBytes n) i ∧ rd (uBytes n) i ≤ 255 := by
  have h : ∀ x ∈ uBytes n, 0 ≤ x ∧ x ≤ 255 := by
    unfold uBytes
    intro x hx
    split at hx
    · simp at hx; omega
    split at hx
    · simp at hx; omega
    split at hx
    · simp at hx; omega
    split at hx
    · simp at hx; omega
    split at hx
    · simp at hx; omega
    split at hx
    · simp at hx; omega
    split at hx
    · simp at hx; omega
    · simp at hx; omega
  unfold Go.Proofs.YtacbdhklfgapkaaW.PrintWords.rd
  rw [List.getD_eq_getElem?_getD]
  cases e : (uBytes n)[i.toNat]? with
  | none => simp
  | some x => exact h x (List.mem_of_getElem? e)
theorem cell_at0 {w : World} {A : Option Addr} {xs : List Int} (h : Kd.C (Kd.int .u8) w A xs.length xs) (hi : 0 < xs.length) : ∃ ad, A = some ad ∧ w.cell? ad = some (.int .u8 (rd xs 0)) := by
  obtain ⟨ad, e, hx⟩ := Kd.at_int h 0 (by omega) (by omega)
  exact ⟨ad, e, by simpa [Addr.add] using hx⟩
theorem be_cell' {w : World} {g t : Nat} {xs : List Int} (h : w.heap[g]? = some (.cells (xs.map (Value.int .u8)).toArray t (0, 0))) (j : Nat) (hj : j < xs.length) : w.cell? ⟨g, j, none⟩ = some (.int .u8 (xs[j]?.getD 0)) := by
  rw [blk_cell h j]
  simp [List.getElem?_eq_getElem hj]
theorem u8_bit7 (b : Int) (h0 : 0 ≤ b) (h1 : b ≤ 255) : bits .and .u8 b 128 = if 128 ≤ b then 128 else 0 := by
  rw [u8_and b 128 h0 (by omega) (by omega) (by omega), show (128 : Int).toNat = 2 ^ 7 from rfl, nat_bit]
  split
  · have : b.toNat / 2 ^ 7 % 2 = 1 := by omega
    rw [this]; rfl
  · have : b.toNat / 2 ^ 7 % 2 = 0 := by omega
    rw [this]; rfl
end Go.Proofs.Ytacbdhklfgapkaa
