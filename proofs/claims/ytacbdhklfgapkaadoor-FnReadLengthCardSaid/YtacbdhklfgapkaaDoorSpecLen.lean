/- The length of a sealed content is read back: by parseLength's plain function. -/
import Derived.Test.YtacbdhklfgapkaaDoorSpec
import Derived.Test.YtacbdhklfgapkaaDoorPLen
set_option linter.unusedVariables false
namespace Go.Proofs.YtacbdhklfgapkaaDoor
open Go.RowKit Go.Proofs.YtacbdhklfgapkaaDoorW.PrintWords Go.Proofs.YtacbdhklfgapkaaDoorW.PrintLast Go.Proofs.YtacbdhklfgapkaaDoorW.PrintMore

theorem beVal_zeros (k : Nat) (l : List Int) : beVal (List.replicate k 0 ++ l) 0 = beVal l 0 := by
  induction k with
  | zero => rfl
  | succ k ih => rw [List.replicate_succ]; exact ih
theorem beVal_lenBytes (n : Int) (h0 : 0 ≤ n) (h1 : n ≤ 4294967295) : beVal (lenBytes n) 0 = n := by
  unfold lenBytes
  split
  · simp [beVal]; omega
  split
  · simp [beVal]
  split
  · simp [beVal]; omega
  split
  · simp [beVal]; omega
  · simp [beVal]; omega
theorem lenBytes_isB (n : Int) (h1 : n ≤ 4294967295) : IsB (lenBytes n) := by
  unfold lenBytes
  intro x hx
  split at hx
  · simp at hx
  split at hx
  · simp at hx; omega
  split at hx
  · simp at hx; omega
  split at hx
  · simp at hx; omega
  · simp at hx; omega
theorem isB_append {a b : List Int} (ha : IsB a) (hb : IsB b) : IsB (a ++ b) := fun x hx => (List.mem_append.1 hx).elim (ha x) (hb x)
theorem isB_cons {x : Int} {b : List Int} (h0 : 0 ≤ x) (h1 : x ≤ 255) (hb : IsB b) : IsB (x :: b) := fun y hy => (List.mem_cons.1 hy).elim (fun e => by omega) (hb y)
theorem isB_zeros (k : Nat) : IsB (List.replicate k 0) := fun x hx => by rw [List.eq_of_mem_replicate hx]; omega
theorem sLen_isB (n : Int) (wide : Nat) (h0 : 0 ≤ n) (h1 : n ≤ 4294967295) (hw : wide ≤ 100) : IsB (sLen n wide) := by
  have := lenBytes_len n
  unfold sLen
  split
  · exact isB_cons h0 (by omega) (fun x hx => by simp at hx)
  · exact isB_cons (by omega) (by omega) (isB_append (isB_zeros _) (lenBytes_isB n h1))
theorem sSealed_isB (tag : Int) (c : List Int) (wide : Nat) (hc : IsB c) (h : c.length ≤ 4294967295) (hw : wide ≤ 100) : IsB (sSealed tag c wide) :=
  isB_cons (by omega) (by omega) (isB_append (sLen_isB _ _ (by omega) (by omega) hw) hc)

/-- What parseLength asks of bytes that begin with an element. -/
def LenOk (xs : List Int) : Prop := 2 ≤ xs.length ∧ rd xs 1 ≠ 128 ∧ rd xs 1 ≤ 135 ∧ (127 < rd xs 1 → 2 + (rd xs 1 - 128).toNat ≤ xs.length)

theorem sealed_read (tag : Int) (c rest : List Int) (wide : Nat) (hw : wide ≤ 3) (h : c.length ≤ 4294967295) :
    LenOk (sSealed tag c wide ++ rest) ∧ pLen (sSealed tag c wide ++ rest) = (((sSealed tag c wide).length : Int), ((sSealed tag c wide).length : Int) - c.length) := by
  have hb := lenBytes_len c.length
  by_cases hs : (c.length : Int) < 128 ∧ wide = 0
  · have e : sSealed tag c wide = tag % 256 :: (c.length : Int) :: c := by unfold sSealed sLen; rw [if_pos hs]; rfl
    rw [e]
    have r1 : rd (tag % 256 :: (c.length : Int) :: c ++ rest) 1 = c.length := rfl
    unfold LenOk pLen
    rw [r1, if_pos (by omega)]
    refine ⟨⟨by simp, by omega, by omega, fun h => by omega⟩, ?_⟩
    simp only [List.length_cons]
    rw [Prod.mk.injEq]
    omega
  · have e : sSealed tag c wide = tag % 256 :: (128 + ((lenBytes c.length).length + wide : Nat) : Int) :: (List.replicate wide 0 ++ lenBytes c.length ++ c) := by unfold sSealed sLen; rw [if_neg hs]; rfl
    have hpos : 1 ≤ (lenBytes c.length).length + wide := by
      by_cases h0 : wide = 0
      · have : ¬ (c.length : Int) ≤ 0 := by omega
        unfold lenBytes
        rw [if_neg this]
        split
        · simp
        split
        · simp; omega
        split <;> simp <;> omega
      · omega
    rw [e]
    generalize hm : (lenBytes (c.length : Int)).length + wide = m at *
    have r1 : rd (tag % 256 :: (128 + (m : Nat) : Int) :: (List.replicate wide 0 ++ lenBytes c.length ++ c) ++ rest) 1 = 128 + (m : Int) := rfl
    have hl : (tag % 256 :: (128 + (m : Nat) : Int) :: (List.replicate wide 0 ++ lenBytes c.length ++ c)).length = 2 + m + c.length := by simp; omega
    have ht : ((tag % 256 :: (128 + (m : Nat) : Int) :: (List.replicate wide 0 ++ lenBytes c.length ++ c) ++ rest).drop 2).take m = List.replicate wide 0 ++ lenBytes c.length := by
      simp only [List.cons_append, List.drop_succ_cons, List.drop_zero, List.append_assoc]
      rw [← List.append_assoc, List.take_append_of_le_length (by simp; omega), List.take_of_length_le (by simp; omega)]
    unfold LenOk pLen
    rw [r1, if_neg (by omega), show (128 + (m : Int) - 128).toNat = m by omega, ht, beVal_zeros, beVal_lenBytes _ (by omega) (by omega), List.length_append, hl]
    refine ⟨⟨by omega, by omega, by omega, fun _ => by omega⟩, ?_⟩
    rw [Prod.mk.injEq]
    omega
end Go.Proofs.YtacbdhklfgapkaaDoor
