/- What is read back of the contents: plain. spec.OfInt's printed function. spec.OfUint's printed function. The reference's Open, next and whole: plain. The reference's OfVar: plain, and what it reads of a variable's bytes. spec.Open: the walk. spec.next, spec.OfVar: the walks. spec.OfName: the walk. spec.OfVar: the walk. -/
import Derived.Test.YtangjgclpipjdaaDoorVE
import Derived.Test.YtangjgclpipjdaaDoorVC
import Derived.Test.YtangjgclpipjdaaDoorVB
import Derived.Test.YtangjgclpipjdaaDoorVD
import Derived.Test.YtangjgclpipjdaaDoorPFnValuex8
import Derived.Test.YtangjgclpipjdaaDoorVA
import Derived.OwnWalk
import Derived.Test.YtangjgclpipjdaaDoorVF
set_option linter.unusedVariables false
namespace Go.Proofs.YtangjgclpipjdaaDoor
open Go.RowKit Go.Proofs.YtangjgclpipjdaaDoorW.PrintWords Go.Proofs.YtangjgclpipjdaaDoorW.PrintLast Go.Proofs.YtangjgclpipjdaaDoorW.PrintMore

theorem mInt32_isB (n : Int) : IsB (mInt32 n) := by
  intro x hx
  unfold mInt32 at hx
  split at hx
  · simp at hx; omega
  split at hx
  · simp at hx; omega
  split at hx
  · simp at hx; omega
  · simp at hx; omega
theorem sVal_mInt32 (n : Int) (h0 : -2147483648 ≤ n) (h1 : n ≤ 2147483647) : sVal (mInt32 n) = n := by
  unfold sVal mInt32
  split
  · simp only [Go.Proofs.YtangjgclpipjdaaDoorW.PrintWords.rd, beVal, Int.toNat_zero, List.getD_cons_zero]
    unfold wrap64
    split <;> omega
  split
  · simp only [Go.Proofs.YtangjgclpipjdaaDoorW.PrintWords.rd, beVal, Int.toNat_zero, List.getD_cons_zero]
    unfold wrap64
    split <;> omega
  split
  · simp only [Go.Proofs.YtangjgclpipjdaaDoorW.PrintWords.rd, beVal, Int.toNat_zero, List.getD_cons_zero]
    unfold wrap64
    split <;> omega
  · simp only [Go.Proofs.YtangjgclpipjdaaDoorW.PrintWords.rd, beVal, Int.toNat_zero, List.getD_cons_zero]
    unfold wrap64
    split <;> omega
theorem bs_isB (s : ByteArray) : IsB (bs s) := by
  intro x hx
  unfold bs at hx
  obtain ⟨b, -, rfl⟩ := List.mem_map.1 hx
  have := b.toNat_lt
  omega
theorem b128_isB (n : Int) (h0 : 0 ≤ n) (h1 : n ≤ 4294967295) : IsB (b128 n) := by
  intro x hx
  unfold b128 at hx
  split at hx
  · simp at hx; omega
  split at hx
  · simp at hx; omega
  split at hx
  · simp at hx; omega
  split at hx
  · simp at hx; omega
  · simp at hx; omega
theorem b128s_isB (l : List Int) (h : ∀ x ∈ l, 0 ≤ x ∧ x ≤ 4294967295) : IsB (b128s l) := by
  induction l with
  | nil => intro x hx; simp [b128s] at hx
  | cons a l ih =>
    rw [b128s_cons]
    have ha := h a (by simp)
    exact isB_append (b128_isB a ha.1 ha.2) (ih (fun x hx => h x (by simp [hx])))
theorem sName_isB (arcs : List Int) (h : ∀ x ∈ arcs, 0 ≤ x ∧ x ≤ 4294967295) : IsB (sName arcs) := by
  unfold sName
  exact isB_cons (by omega) (by omega) (b128s_isB _ (fun x hx => h x (List.mem_of_mem_drop hx)))
theorem uBytes_isB' (n : Int) (h0 : 0 ≤ n) (h1 : n ≤ 18446744073709551615) : IsB (uBytes n) := by
  intro x hx
  obtain ⟨i, hi, rfl⟩ := List.getElem_of_mem hx
  have := uBytes_isB n h0 h1 (i : Int)
  unfold Go.Proofs.YtangjgclpipjdaaDoorW.PrintWords.rd at this
  rw [Int.toNat_natCast, List.getD_eq_getElem?_getD, List.getElem?_eq_getElem hi] at this
  exact this
theorem sUint_isB (n : Int) (h0 : 0 ≤ n) (h1 : n ≤ 18446744073709551615) : IsB (sUint n) := by
  unfold sUint
  split
  · exact isB_cons (by omega) (by omega) (uBytes_isB' n h0 h1)
  · exact uBytes_isB' n h0 h1
theorem beVal_uBytes (n : Int) (h0 : 0 ≤ n) (h1 : n ≤ 18446744073709551615) : beVal (uBytes n) 0 = n := by
  unfold uBytes
  repeat' split
  all_goals simp only [beVal]
  all_goals omega
theorem sUint_val (n : Int) (h0 : 0 ≤ n) (h1 : n ≤ 18446744073709551615) : beVal (sUint n) 0 = n ∧ 1 ≤ (sUint n).length ∧ ((sUint n).length ≤ 8 ∨ ((sUint n).length = 9 ∧ rd (sUint n) 0 = 0)) := by
  have hb := beVal_uBytes n h0 h1
  have hl := uBytes_len n
  unfold sUint
  split
  · refine ⟨?_, by simp, ?_⟩
    · show beVal (uBytes n) (0 * 256 + 0) = n
      simpa using hb
    · by_cases h : (uBytes n).length = 8
      · exact .inr ⟨by simp [h], rfl⟩
      · exact .inl (by simp only [List.length_cons]; omega)
  · exact ⟨hb, hl.1, .inl hl.2⟩
theorem Cont.isB {ty i u : Int} {tx : ByteArray} {c : List Int} {i' u' : Int} {tx' : List Int} (h : Cont ty i u (bs tx) c i' u' tx') (u0 : 0 ≤ u) (u1 : u ≤ 18446744073709551615) : IsB c := by
  cases h with
  | int h h0 h1 => exact mInt32_isB i
  | oct h h0 => exact bs_isB tx
  | null h => intro x hx; simp at hx
  | oid h arcs ha => exact sName_isB arcs (sArcs_bounds _ _ ha)
  | addr h out ha => intro x hx; exact (sAddr_text _ _ ha).2.2 x hx
  | u32 h h0 => exact sUint_isB u u0 u1
  | u64 h => exact sUint_isB u u0 u1
end Go.Proofs.YtangjgclpipjdaaDoor
set_option linter.unusedVariables false
namespace Go.Proofs.YtangjgclpipjdaaDoor
open Go.RowKit Go.Proofs.YtangjgclpipjdaaDoorW.PrintWords Go.Proofs.YtangjgclpipjdaaDoorW.PrintLast Go.Proofs.YtangjgclpipjdaaDoorW.PrintMore

theorem ofInt_rows (xs : List Int) (hb : IsB xs) (s : Int) (h8 : xs.length ≤ 8) (m : Nat) : ∀ k i, xs.length = i + m → m + 1 ≤ k →
    PFnValue.spec_OfInt.l0 k (wrap64 (beVal (xs.take i) s)) xs xs.length (i : Nat) = some (wrap64 (beVal xs s), true) := by
  induction m with
  | zero =>
    intro k i hi hk
    obtain ⟨k, rfl⟩ : ∃ j, k = j + 1 := ⟨k - 1, by omega⟩
    rw [PFnValue.spec_OfInt.l0, if_neg (by omega), List.take_of_length_le (by omega)]
  | succ m ih =>
    intro k i hi hk
    obtain ⟨k, rfl⟩ : ∃ j, k = j + 1 := ⟨k - 1, by omega⟩
    have hbd := hb.rd i
    rw [PFnValue.spec_OfInt.l0, if_pos (by omega), if_pos (by omega), if_pos (by omega), show wrap64 (rd xs i) = rd xs i by unfold wrap64; omega, w64_step _ _ hbd.1 (by omega),
      ← beVal_take xs i (by omega), show wrap64 ((i : Int) + 1) = ((i + 1 : Nat) : Int) by unfold wrap64; omega]
    exact ih k (i + 1) (by omega) (by omega)
theorem ofInt_eq (xs : List Int) (hb : IsB xs) (h1 : 1 ≤ xs.length) (h8 : xs.length ≤ 8) : PFnValue.spec_OfInt.f 12 xs = some (sVal xs, true) := by
  unfold PFnValue.spec_OfInt.f
  rw [if_neg (by omega), PFnValue.spec_OfInt.j0, show decide ((xs.length : Int) > 8) = false by simp; omega, if_neg (by simp), if_pos (by omega)]
  unfold sVal
  by_cases c : rd xs 0 > 127
  · rw [if_pos c, if_pos c, PFnValue.spec_OfInt.j1]
    have := ofInt_rows xs hb (-1) h8 xs.length 10 0 (by omega) (by omega)
    simpa [beVal, wrap64] using this
  · rw [if_neg c, if_neg c, PFnValue.spec_OfInt.j1]
    have := ofInt_rows xs hb 0 h8 xs.length 10 0 (by omega) (by omega)
    simpa [beVal, wrap64] using this
theorem ofInt_no (xs : List Int) (h : ¬ (1 ≤ xs.length ∧ xs.length ≤ 8)) : PFnValue.spec_OfInt.f 12 xs = some (0, false) := by
  unfold PFnValue.spec_OfInt.f
  by_cases c : xs.length = 0
  · rw [if_pos (by omega), PFnValue.spec_OfInt.j0, if_pos rfl]
  · rw [if_neg (by omega), show decide ((xs.length : Int) > 8) = true by simp; omega, PFnValue.spec_OfInt.j0, if_pos rfl]
end Go.Proofs.YtangjgclpipjdaaDoor
set_option linter.unusedVariables false
namespace Go.Proofs.YtangjgclpipjdaaDoor
open Go.RowKit Go.Proofs.YtangjgclpipjdaaDoorW.PrintWords Go.Proofs.YtangjgclpipjdaaDoorW.PrintLast Go.Proofs.YtangjgclpipjdaaDoorW.PrintMore

theorem ofUint_rows (xs : List Int) (hb : IsB xs) (h8 : xs.length ≤ 8) (hv : beVal xs 0 < 18446744073709551616) (m : Nat) : ∀ k i, xs.length = i + m → m + 1 ≤ k →
    PFnValue.spec_OfUint.l0 k (beVal (xs.take i) 0) xs xs.length (i : Nat) = some (beVal xs 0, true) := by
  induction m with
  | zero =>
    intro k i hi hk
    obtain ⟨k, rfl⟩ : ∃ j, k = j + 1 := ⟨k - 1, by omega⟩
    rw [PFnValue.spec_OfUint.l0, if_neg (by omega), List.take_of_length_le (by omega)]
  | succ m ih =>
    intro k i hi hk
    obtain ⟨k, rfl⟩ : ∃ j, k = j + 1 := ⟨k - 1, by omega⟩
    have hbd := hb.rd i
    have h0 := (beVal_take_le xs hb i).1
    have h1 := (beVal_take_le xs hb (i + 1)).2
    have e := beVal_take xs i (by omega) 0
    rw [PFnValue.spec_OfUint.l0, if_pos (by omega), if_pos (by omega), if_pos (by omega), wraps_u64 (rd xs i) hbd.1 (by omega), wraps_u64 _ (by omega) (by omega), u64_or_low _ _ (by omega) hbd.1 (by omega) (by omega) (by omega),
      ← e, show wrap64 ((i : Int) + 1) = ((i + 1 : Nat) : Int) by unfold wrap64; omega]
    exact ih k (i + 1) (by omega) (by omega)
/-- The bytes of the number: without a nought ahead of eight. -/
def uPart (xs : List Int) : List Int := if xs.length = 9 ∧ rd xs 0 = 0 then xs.drop 1 else xs
theorem ofUint_eq (xs : List Int) (hb : IsB xs) (h1 : 1 ≤ (uPart xs).length) (h8 : (uPart xs).length ≤ 8) : PFnValue.spec_OfUint.f 14 xs = some (beVal (uPart xs) 0, true) := by
  have hbu : IsB (uPart xs) := by unfold uPart; split; exact isB_drop hb 1; exact hb
  have hv : beVal (uPart xs) 0 < 18446744073709551616 := by
    have h := beVal_bound _ hbu 0 (by omega)
    have : (256 : Int) ^ (uPart xs).length ≤ 256 ^ 8 := by
      have : (uPart xs).length = 1 ∨ (uPart xs).length = 2 ∨ (uPart xs).length = 3 ∨ (uPart xs).length = 4 ∨ (uPart xs).length = 5 ∨ (uPart xs).length = 6 ∨ (uPart xs).length = 7 ∨ (uPart xs).length = 8 := by omega
      rcases this with e | e | e | e | e | e | e | e <;> rw [e] <;> decide
    omega
  have fin : ∀ k, 11 ≤ k → PFnValue.spec_OfUint.j1 k (uPart xs) = some (beVal (uPart xs) 0, true) := by
    intro k hk
    obtain ⟨k, rfl⟩ : ∃ j, k = j + 2 := ⟨k - 2, by omega⟩
    rw [PFnValue.spec_OfUint.j1, if_neg (by omega), show decide (((uPart xs).length : Int) > 8) = false by simp; omega, PFnValue.spec_OfUint.j2, if_neg (by simp)]
    have := ofUint_rows (uPart xs) hbu h8 hv (uPart xs).length k 0 (by omega) (by omega)
    simpa [beVal] using this
  unfold PFnValue.spec_OfUint.f
  by_cases c9 : xs.length = 9
  · rw [if_pos (by omega), if_pos (by omega), PFnValue.spec_OfUint.j0]
    by_cases cz : rd xs 0 = 0
    · have e : uPart xs = xs.drop 1 := if_pos ⟨c9, cz⟩
      rw [if_pos (by simp [cz]), if_pos (by omega), ← e]
      exact fin 13 (by omega)
    · have e : uPart xs = xs := if_neg (by simp [cz])
      rw [e] at h8; omega
  · have e : uPart xs = xs := if_neg (by simp [c9])
    rw [if_neg (by omega), PFnValue.spec_OfUint.j0, if_neg (by simp)]
    have := fin 13 (by omega)
    rw [e] at this ⊢
    exact this
theorem ofUint_no (xs : List Int) (h : ¬ (1 ≤ (uPart xs).length ∧ (uPart xs).length ≤ 8)) : PFnValue.spec_OfUint.f 14 xs = some (0, false) := by
  have fin : ∀ k, 11 ≤ k → PFnValue.spec_OfUint.j1 k (uPart xs) = some (0, false) := by
    intro k hk
    obtain ⟨k, rfl⟩ : ∃ j, k = j + 2 := ⟨k - 2, by omega⟩
    rw [PFnValue.spec_OfUint.j1]
    by_cases c : (uPart xs).length = 0
    · rw [if_pos (by omega), PFnValue.spec_OfUint.j2, if_pos rfl]
    · rw [if_neg (by omega), show decide (((uPart xs).length : Int) > 8) = true by simp; omega, PFnValue.spec_OfUint.j2, if_pos rfl]
  unfold PFnValue.spec_OfUint.f
  by_cases c9 : xs.length = 9
  · rw [if_pos (by omega), if_pos (by omega), PFnValue.spec_OfUint.j0]
    by_cases cz : rd xs 0 = 0
    · have e : uPart xs = xs.drop 1 := if_pos ⟨c9, cz⟩
      rw [if_pos (by simp [cz]), if_pos (by omega), ← e]
      exact fin 13 (by omega)
    · have e : uPart xs = xs := if_neg (by simp [cz])
      rw [if_neg (by simp [cz])]
      have := fin 13 (by omega)
      rw [e] at this
      exact this
  · have e : uPart xs = xs := if_neg (by simp [c9])
    rw [if_neg (by omega), PFnValue.spec_OfUint.j0, if_neg (by simp)]
    have := fin 13 (by omega)
    rw [e] at this
    exact this
end Go.Proofs.YtangjgclpipjdaaDoor
set_option linter.unusedVariables false
namespace Go.Proofs.YtangjgclpipjdaaDoor
open Go.RowKit Go.Proofs.YtangjgclpipjdaaDoorW.PrintWords Go.Proofs.YtangjgclpipjdaaDoorW.PrintLast Go.Proofs.YtangjgclpipjdaaDoorW.PrintMore

/-- Bytes that begin with a whole element. -/
def OpenOk (b : List Int) : Prop := 2 ≤ b.length ∧ rd b 1 ≠ 128 ∧ rd b 1 ≤ 132 ∧ (127 < rd b 1 → 2 + (rd b 1 - 128).toNat ≤ b.length) ∧ (pLen b).1 ≤ b.length
instance (b : List Int) : Decidable (OpenOk b) := by unfold OpenOk; infer_instance
/-- Tag, content, what is behind. -/
def sOpen (b : List Int) : Option (Int × List Int × List Int) :=
  if OpenOk b then some (rd b 0, (b.take (pLen b).1.toNat).drop (pLen b).2.toNat, b.drop (pLen b).1.toNat) else none
theorem pLen_ge (b : List Int) (hb : IsB b) (h : OpenOk b) : 2 ≤ (pLen b).2 ∧ (pLen b).2 ≤ (pLen b).1 ∧ (pLen b).1 ≤ b.length := by
  refine ⟨?_, ?_, h.2.2.2.2⟩
  · unfold pLen
    split <;> simp only <;> omega
  · have h1 := hb.rd 1
    unfold pLen
    split
    · simp only; omega
    · have := (beVal_bound ((b.drop 2).take (rd b 1 - 128).toNat) (isB_take (isB_drop hb 2) _) 0 (Int.le_refl 0)).1
      simp only
      omega
theorem sOpen_sealed (tag : Int) (c rest : List Int) (wide : Nat) (t0 : 0 ≤ tag) (t1 : tag ≤ 255) (hc : c.length ≤ 4294967295) (hw : wide ≤ 3) (h4 : (lenBytes c.length).length + wide ≤ 4) : sOpen (sSealed tag c wide ++ rest) = some (tag, c, rest) := by
  obtain ⟨⟨a1, a2, a3, a4⟩, hp⟩ := sealed_read tag c rest wide hw hc
  have hs : sSealed tag c wide = (tag % 256 :: sLen c.length wide) ++ c := by unfold sSealed; simp
  have h132 : rd (sSealed tag c wide ++ rest) 1 ≤ 132 := by
    have hlb := lenBytes_len c.length
    unfold sSealed sLen
    split
    · show ((c.length : Nat) : Int) ≤ 132; omega
    · show (128 + ((lenBytes (c.length : Int)).length + wide : Nat) : Int) ≤ 132; omega
  have hle : (sSealed tag c wide).length = (tag % 256 :: sLen c.length wide).length + c.length := by rw [hs]; simp; omega
  generalize hh : (tag % 256 :: sLen c.length wide) = hd at *
  have hok : OpenOk (sSealed tag c wide ++ rest) := ⟨a1, a2, h132, a4, by rw [hp]; simp; omega⟩
  unfold sOpen
  rw [if_pos hok, hp]
  simp only [Int.toNat_natCast]
  rw [show ((sSealed tag c wide).length : Int) - c.length = (hd.length : Nat) by omega, Int.toNat_natCast, List.take_left', List.drop_left' rfl, hs, List.drop_left' rfl]
  · have h0 : rd (hd ++ c ++ rest) 0 = tag := by
      rw [← hh]
      show tag % 256 = tag
      omega
    rw [h0]
  · rfl
theorem sOpen_len {b c rest : List Int} {t : Int} (hb : IsB b) (h : sOpen b = some (t, c, rest)) : c.length + rest.length + 2 ≤ b.length := by
  unfold sOpen at h
  split at h
  · rename_i hok
    simp only [Option.some.injEq, Prod.mk.injEq] at h
    obtain ⟨-, rfl, rfl⟩ := h
    have := pLen_ge b hb hok
    simp
    omega
  · simp at h
theorem sOpen_isB {b c rest : List Int} {t : Int} (hb : IsB b) (h : sOpen b = some (t, c, rest)) : IsB c ∧ IsB rest ∧ 0 ≤ t ∧ t ≤ 255 := by
  unfold sOpen at h
  split at h
  · simp only [Option.some.injEq, Prod.mk.injEq] at h
    obtain ⟨rfl, rfl, rfl⟩ := h
    have := hb.rd 0
    exact ⟨isB_drop (isB_take hb _) _, isB_drop hb _, this.1, this.2⟩
  · simp at h
def sNext (b : List Int) (tag : Int) : Option (List Int × List Int) := match sOpen b with
  | some (t, c, rest) => if t = tag then some (c, rest) else none
  | none => none
theorem sNext_sealed (tag : Int) (c rest : List Int) (wide : Nat) (t0 : 0 ≤ tag) (t1 : tag ≤ 255) (hc : c.length ≤ 4294967295) (hw : wide ≤ 3) (h4 : (lenBytes c.length).length + wide ≤ 4) : sNext (sSealed tag c wide ++ rest) tag = some (c, rest) := by
  unfold sNext
  rw [sOpen_sealed tag c rest wide t0 t1 hc hw h4]
  simp
end Go.Proofs.YtangjgclpipjdaaDoor
set_option linter.unusedVariables false
namespace Go.Proofs.YtangjgclpipjdaaDoor
open Go.RowKit Go.Proofs.YtangjgclpipjdaaDoorW.PrintWords Go.Proofs.YtangjgclpipjdaaDoorW.PrintLast Go.Proofs.YtangjgclpipjdaaDoorW.PrintMore

theorem ofGo_lo (x : Int) (l out : List Int) (n : Int) (op : Bool) (h0 : 0 ≤ x) (h1 : x ≤ 127) (hn : n < 33554432) : ofGo (x :: l) out n op = ofGo l (out ++ [n * 128 + x]) 0 false := by
  simp only [ofGo]
  rw [if_neg (by rintro (h | h); omega; omega), if_pos h1, show x % 128 = x by omega]
theorem ofGo_hi (x : Int) (l out : List Int) (h0 : 129 ≤ x) (h1 : x ≤ 255) : ofGo (x :: l) out 0 false = ofGo l out (x - 128) true := by
  simp only [ofGo]
  rw [if_neg (by rintro (h | h); omega; omega), if_neg (by omega), show (0 : Int) * 128 + x % 128 = x - 128 by omega]
theorem ofGo_on (x : Int) (l out : List Int) (n : Int) (h0 : 128 ≤ x) (h1 : x ≤ 255) (hn : n < 33554432) : ofGo (x :: l) out n true = ofGo l out (n * 128 + (x - 128)) true := by
  simp only [ofGo]
  rw [if_neg (by rintro (h | h); simp at h; omega), if_neg (by omega), show x % 128 = x - 128 by omega]
theorem ofGo_b128 (a : Int) (h0 : 0 ≤ a) (h1 : a ≤ 4294967295) (l out : List Int) : ofGo (b128 a ++ l) out 0 false = ofGo l (out ++ [a]) 0 false := by
  unfold b128
  split
  · rw [List.cons_append, List.nil_append, ofGo_lo _ _ _ _ _ h0 (by omega) (by omega)]
    simp
  split
  · simp only [List.cons_append, List.nil_append]
    rw [ofGo_hi _ _ _ (by omega) (by omega), ofGo_lo _ _ _ _ _ (by omega) (by omega) (by omega), show (a / 128 + 128 - 128) * 128 + a % 128 = a by omega]
  split
  · simp only [List.cons_append, List.nil_append]
    rw [ofGo_hi _ _ _ (by omega) (by omega), ofGo_on _ _ _ _ (by omega) (by omega) (by omega), ofGo_lo _ _ _ _ _ (by omega) (by omega) (by omega)]
    rw [show ((a / 16384 + 128 - 128) * 128 + (a / 128 % 128 + 128 - 128)) * 128 + a % 128 = a by omega]
  split
  · simp only [List.cons_append, List.nil_append]
    rw [ofGo_hi _ _ _ (by omega) (by omega), ofGo_on _ _ _ _ (by omega) (by omega) (by omega), ofGo_on _ _ _ _ (by omega) (by omega) (by omega), ofGo_lo _ _ _ _ _ (by omega) (by omega) (by omega)]
    rw [show (((a / 2097152 + 128 - 128) * 128 + (a / 16384 % 128 + 128 - 128)) * 128 + (a / 128 % 128 + 128 - 128)) * 128 + a % 128 = a by omega]
  · simp only [List.cons_append, List.nil_append]
    rw [ofGo_hi _ _ _ (by omega) (by omega), ofGo_on _ _ _ _ (by omega) (by omega) (by omega), ofGo_on _ _ _ _ (by omega) (by omega) (by omega), ofGo_on _ _ _ _ (by omega) (by omega) (by omega), ofGo_lo _ _ _ _ _ (by omega) (by omega) (by omega)]
    rw [show ((((a / 268435456 + 128 - 128) * 128 + (a / 2097152 % 128 + 128 - 128)) * 128 + (a / 16384 % 128 + 128 - 128)) * 128 + (a / 128 % 128 + 128 - 128)) * 128 + a % 128 = a by omega]
theorem ofGo_b128s (rest : List Int) (h : Bnd rest) : ∀ out, ofGo (b128s rest) out 0 false = some (out ++ rest, false) := by
  induction rest with
  | nil => intro out; simp [b128s, ofGo]
  | cons a l ih =>
    intro out
    have ha := h a (by simp)
    rw [b128s_cons, ofGo_b128 a ha.1 ha.2, ih (fun x hx => h x (by simp [hx]))]
    simp
theorem sOf_name (arcs : List Int) (h : arcsOk arcs) (hb : ∀ x ∈ arcs, 0 ≤ x ∧ x ≤ 4294967295) (hl : (sName arcs).length ≤ 300) : sOf (sName arcs) = (arcs, true) := by
  obtain ⟨h2, h60, h0, h1⟩ := h
  obtain ⟨x, y, rest, rfl⟩ : ∃ x y rest, arcs = x :: y :: rest := by
    match arcs, h2 with
    | x :: y :: rest, _ => exact ⟨x, y, rest, rfl⟩
  have hx := hb x (by simp)
  have hy := hb y (by simp)
  change x ≤ 2 at h0
  change y < 40 at h1
  have e : sName (x :: y :: rest) = (40 * x + y) :: b128s rest := by
    show ((40 * x + y) % 256) :: b128s rest = _
    rw [show (40 * x + y) % 256 = 40 * x + y by omega]
  rw [e] at hl ⊢
  have hr : rd ((40 * x + y) :: b128s rest) 0 = 40 * x + y := rfl
  unfold sOf
  rw [hr, if_neg (by simp at hl ⊢; omega), show (40 * x + y) / 40 = x by omega, show (40 * x + y) % 40 = y by omega]
  rw [show ((40 * x + y) :: b128s rest).drop 1 = b128s rest from rfl, ofGo_b128s rest (fun z hz => hb z (by simp [hz]))]
  simp at h60 ⊢
  omega
theorem sOf_asked {tx arcs : List Int} (h : sArcs tx = (arcs, true)) : sOf (sName arcs) = (arcs, true) := by
  obtain ⟨h1, h2, -⟩ := sArcs_text _ _ h
  exact sOf_name arcs h1 (sArcs_bounds _ _ h) (by omega)

/-- What is told of a content: number, number without a sign, text. -/
def sTold (tag : Int) (c : List Int) : Option (Int × Int × List Int) :=
  if tag = 2 then (if 1 ≤ c.length ∧ c.length ≤ 8 then some (sVal c, 0, []) else none)
  else if tag = 4 then some (0, 0, c)
  else if tag = 5 ∨ tag = 128 ∨ tag = 129 ∨ tag = 130 then (if c.length = 0 then some (0, 0, []) else none)
  else if tag = 6 then (if (sOf c).2 = true then some (0, 0, sDot (sOf c).1) else none)
  else if tag = 64 then (if c.length = 4 then some (0, 0, dots c) else none)
  else if tag = 65 ∨ tag = 66 ∨ tag = 67 ∨ tag = 70 then (if 1 ≤ (uPart c).length ∧ (uPart c).length ≤ 8 then some (0, beVal (uPart c) 0, []) else none)
  else none
theorem uPart_sUint (u : Int) (h0 : 0 ≤ u) (h1 : u ≤ 18446744073709551615) : 1 ≤ (uPart (sUint u)).length ∧ (uPart (sUint u)).length ≤ 8 ∧ beVal (uPart (sUint u)) 0 = u := by
  obtain ⟨a, b, c⟩ := sUint_val u h0 h1
  unfold uPart
  split
  · rename_i h
    obtain ⟨h9, hz⟩ := h
    cases hs : sUint u with
    | nil => rw [hs] at h9; simp at h9
    | cons x l =>
      rw [hs] at h9 hz a
      have hx : x = 0 := hz
      subst hx
      have e : beVal (0 :: l) 0 = beVal l 0 := rfl
      rw [e] at a
      simp at h9 ⊢
      exact ⟨by omega, by omega, a⟩
  · rename_i h
    refine ⟨b, ?_, a⟩
    rcases c with c | c
    · exact c
    · exact absurd c h
theorem Cont.sTold {ty i u : Int} {tx : ByteArray} {c : List Int} {i' u' : Int} {tx' : List Int} (h : Cont ty i u (bs tx) c i' u' tx') (u0 : 0 ≤ u) (u1 : u ≤ 18446744073709551615) : sTold ty c = some (i', u', tx') := by
  unfold Go.Proofs.YtangjgclpipjdaaDoor.sTold
  cases h with
  | int h h0 h1 =>
    have := mInt32_len i
    rw [if_pos h, if_pos (by omega), sVal_mInt32 i h0 h1]
  | oct h h0 => rw [if_neg (by omega), if_pos h]
  | null h => rw [if_neg (by omega), if_neg (by omega), if_pos h]; rfl
  | oid h arcs ha => rw [if_neg (by omega), if_neg (by omega), if_neg (by omega), if_pos h, sOf_asked ha]; rfl
  | addr h out ha =>
    obtain ⟨h4, hd, -⟩ := sAddr_text _ _ ha
    rw [if_neg (by omega), if_neg (by omega), if_neg (by omega), if_neg (by omega), if_pos h, if_pos h4, ← hd]
  | u32 h h0 =>
    obtain ⟨a, b, e⟩ := uPart_sUint u u0 u1
    rw [if_neg (by omega), if_neg (by omega), if_neg (by omega), if_neg (by omega), if_neg (by omega), if_pos (by omega), if_pos ⟨a, b⟩, e]
  | u64 h =>
    obtain ⟨a, b, e⟩ := uPart_sUint u u0 u1
    rw [if_neg (by omega), if_neg (by omega), if_neg (by omega), if_neg (by omega), if_neg (by omega), if_pos (by omega), if_pos ⟨a, b⟩, e]
def tellVar (arcs : List Int) (tag : Int) (rest : List Int) : Option (Int × Int × List Int) → Option ((List Int × Int × Int × Int × List Int) × List Int)
  | none => none
  | some (i, u, tx) => some ((arcs, tag, i, u, tx), rest)
/-- The reference's OfVar: arcs, type, number, number without a sign, text; what is behind. -/
def sOfVar (b : List Int) : Option ((List Int × Int × Int × Int × List Int) × List Int) :=
  match sNext b 48 with
  | none => none
  | some (inn, rest) => match sNext inn 6 with
    | none => none
    | some (nm, in2) => match sOpen in2 with
      | none => none
      | some (tag, c, left) =>
        if (sOf nm).2 = true ∧ left.length = 0 then tellVar (sOf nm).1 tag rest (sTold tag c) else none
end Go.Proofs.YtangjgclpipjdaaDoor
set_option linter.unusedVariables false
namespace Go.Proofs.YtangjgclpipjdaaDoor
open Go.RowKit Go.Proofs.YtangjgclpipjdaaDoorW.PrintWords Go.Proofs.YtangjgclpipjdaaDoorW.PrintLast Go.Proofs.YtangjgclpipjdaaDoorW.PrintMore

/-- A cut of a slice: wherever the slice reads as xs, the cut reads as x. -/
def Cut (A : Option Addr) (xs : List Int) (A1 : Option Addr) (c1 : Nat) (x : List Int) : Prop := x.length ≤ c1 ∧ ∀ W, Kd.C (Kd.int .u8) W A xs.length xs → Kd.C (Kd.int .u8) W A1 x.length x
def GotO (A : Option Addr) (xs : List Int) (w w' : World) (e : Ending) : Prop := Below w.heap.size w w' ∧
  ((sOpen xs = none ∧ e = .returned (.tuple #[.int .i64 0, .slice none 0 0, .slice none 0 0, .bool false])) ∨
   ∃ t x y A1 c1 A2 c2, sOpen xs = some (t, x, y) ∧ e = .returned (.tuple #[.int .i64 t, .slice A1 x.length c1, .slice A2 y.length c2, .bool true]) ∧ Cut A xs A1 c1 x ∧ Cut A xs A2 c2 y)
theorem infoSz : ∃ i, Tryd.prog.info? 5 = some i ∧ i.size = 1 := by
  have h := infoB
  cases hi : Tryd.prog.info? 5 with
  | none => rw [hi] at h; simp at h
  | some i => rw [hi] at h; simp at h; exact ⟨i, rfl, h.2.1⟩
theorem results_tmp4 {fn : Func} {t u v x : Tmp} (h : fn.results = #[.tmp t, .tmp u, .tmp v, .tmp x]) (tmps : Array Value) (P : Program) (w : World) :
    (results fn tmps).run P w = .ok (.tuple #[tmps.getD t undef, tmps.getD u undef, tmps.getD v undef, tmps.getD x undef]) w := by
  simp [results, h]
set_option maxRecDepth 100000 in
/-- The two cuts at a place and behind it, as the program makes them. -/
theorem open_cuts (A : Option Addr) (c : Nat) (xs : List Int) (hc : xs.length ≤ c) (at_ tot : Nat) (h1 : at_ ≤ tot) (h2 : tot ≤ xs.length) (ai ti : Int) (ha : ai = at_) (ht : ti = tot) :
    ∃ A1 A2, (∀ W : World, (Instr.slice 26 (.slice A xs.length c) (some (.int .i64 ai)) (some (.int .i64 ti)) none).run Tryd.prog W = .ok (.slice A1 ((xs.take tot).drop at_).length (c - at_)) W) ∧
      (∀ W : World, (Instr.slice 26 (.slice A xs.length c) (some (.int .i64 ti)) none none).run Tryd.prog W = .ok (.slice A2 (xs.drop tot).length (c - tot)) W) ∧
      Cut A xs A1 (c - at_) ((xs.take tot).drop at_) ∧ Cut A xs A2 (c - tot) (xs.drop tot) := by
  subst ha
  subst ht
  obtain ⟨i, hi, hsz⟩ := infoSz
  refine ⟨_, _, fun W => ?_, fun W => ?_, ⟨?_, fun W hC => Kd.C_mid hC h1 h2 hc⟩, ⟨?_, fun W hC => Kd.C_drop hC h2 hc⟩⟩
  · have := cut_mid 26 5 .i64 .i64 Tryd.underlying26 hi 1 hsz A xs.length c (at_ : Int) (tot : Int) (by omega) (by omega) (by omega) hc W
    simp only [Int.toNat_natCast] at this
    rw [this]
    congr 2
    simp
    omega
  · have := cut_from 26 5 .i64 Tryd.underlying26 hi 1 hsz A xs.length c (tot : Int) (by omega) (by omega) W
    simp only [Int.toNat_natCast] at this
    rw [this]
    congr 2
    simp
  · simp; omega
  · simp; omega

set_option maxRecDepth 100000 in
set_option maxHeartbeats 4000000 in
theorem open_few (A : Option Addr) (c : Nat) (xs : List Int) (w : World) (hr : Kd.C (Kd.int .u8) w A xs.length xs) (hc : xs.length ≤ c) (hb : IsB xs) (h2 : xs.length < 2) :
    Calls Tryd.prog 31 #[.slice A xs.length c] w fun e w' => GotO A xs w w' e := by
  have hn : sOpen xs = none := if_neg (fun h => by have := h.1; omega)
  have HN := Lib.hid hn
  clear hn hr hb
  go_enter Tryd.func31, Tryd.ntmps31
  go_wp2
  exact bodyPost_ret (results_tmp4 rfl _ _ _) rfl ⟨Below.refl _ _, .inl ⟨HN.out, rfl⟩⟩
set_option maxRecDepth 100000 in
set_option maxHeartbeats 4000000 in
theorem open_short (A : Option Addr) (c : Nat) (xs : List Int) (w : World) (hr : Kd.C (Kd.int .u8) w A xs.length xs) (hc : xs.length ≤ c) (hb : IsB xs) (h2 : 2 ≤ xs.length) (h : rd xs 1 ≤ 127) :
    Calls Tryd.prog 31 #[.slice A xs.length c] w fun e w' => GotO A xs w w' e := by
  obtain ⟨ad, rfl, hx1⟩ := cell_at hr 1 (by omega)
  obtain ⟨ad0, e0, hx0⟩ := cell_at hr 0 (by omega)
  obtain rfl : ad = ad0 := by injection e0
  simp [Addr.add] at hx0 hx1
  have hb0 := hb.rd 0
  have hb1 := hb.rd 1
  have hp : pLen xs = (rd xs 1 + 2, 2) := if_pos h
  have hmax := Kd.C_max hr
  have hw : wrap64 ((xs.length : Int) - 2) = (xs.length : Int) - 2 := by unfold wrap64; omega
  have HR := Lib.hid hr
  clear e0 hr
  by_cases hle : rd xs 1 + 2 ≤ xs.length
  · obtain ⟨n, hn⟩ : ∃ n : Nat, rd xs 1 = n := ⟨(rd xs 1).toNat, by omega⟩
    have ho : sOpen xs = some (rd xs 0, (xs.take (n + 2)).drop 2, xs.drop (n + 2)) := by
      have hok : OpenOk xs := ⟨h2, by omega, by omega, fun h => by omega, by rw [hp]; exact hle⟩
      unfold sOpen
      rw [if_pos hok, hp, hn]
      simp only [show ((n : Int) + 2).toNat = n + 2 by omega, show (2 : Int).toNat = 2 from rfl]
    obtain ⟨A1, A2, hc1, hc2, k1, k2⟩ := open_cuts (some ad) c xs hc 2 (n + 2) (by omega) (by omega) 2 (2 + n) rfl (by omega)
    generalize (xs.take (n + 2)).drop 2 = x at ho hc1 k1
    generalize xs.drop (n + 2) = y at ho hc2 k2
    have HO := Lib.hid (And.intro ho (And.intro k1 k2))
    rw [hn] at hx1 h hle
    clear ho k1 k2 hp hn
    go_enter Tryd.func31, Tryd.ntmps31
    go_wp2_with fail
    go_quiet (fail)
    go_wp2_with fail
    go_quiet (fail)
    go_wp2
    exact bodyPost_ret (results_tmp4 rfl _ _ _) rfl ⟨pw_below_drewN (pw_below_drewN (Below.refl _ _) _) _, .inr ⟨_, x, y, A1, _, A2, _, HO.out.1, rfl, HO.out.2.1, HO.out.2.2⟩⟩
  · have hn : sOpen xs = none := if_neg (fun h => by have := h.2.2.2.2; rw [hp] at this; simp only at this; omega)
    have HN := Lib.hid hn
    clear hn hp hb
    generalize rd xs 1 = n at *
    go_enter Tryd.func31, Tryd.ntmps31
    go_wp2_with fail
    go_quiet (fail)
    go_wp2
    exact bodyPost_ret (results_tmp4 rfl _ _ _) rfl ⟨pw_below_drewN (Below.refl _ _) _, .inl ⟨HN.out, rfl⟩⟩
theorem i64_join8 (v y : Int) (h0 : 0 ≤ v) (h1 : v < 281474976710656) (y0 : 0 ≤ y) (y1 : y ≤ 255) : bits .or .i64 (v * 256) y = v * 256 + y := by
  rw [i64_or_low _ _ (by omega) y0 (by omega)]
  unfold wrap64
  omega
theorem beVal_takeO (ys : List Int) (i : Nat) (h : i < ys.length) : beVal (ys.take (i + 1)) 0 = beVal (ys.take i) 0 * 256 + rd ys i := by
  rw [List.take_add_one, List.getElem?_eq_getElem h, Option.toList_some, beVal_snoc]
  simp [Go.Proofs.YtangjgclpipjdaaDoorW.PrintWords.rd, List.getD_eq_getElem?_getD, h]
theorem pow_le4O (k : Nat) (hk : k ≤ 4) : (256 : Int) ^ k ≤ 4294967296 := by
  have : k = 0 ∨ k = 1 ∨ k = 2 ∨ k = 3 ∨ k = 4 := by omega
  rcases this with rfl | rfl | rfl | rfl | rfl <;> decide
set_option maxRecDepth 100000 in
set_option maxHeartbeats 4000000 in
theorem open_long (A : Option Addr) (c : Nat) (xs : List Int) (w : World) (hr : Kd.C (Kd.int .u8) w A xs.length xs) (hc : xs.length ≤ c) (hb : IsB xs) (h2 : 2 ≤ xs.length) (h : 128 ≤ rd xs 1) :
    Calls Tryd.prog 31 #[.slice A xs.length c] w fun e w' => GotO A xs w w' e := by
  obtain ⟨ad, rfl, hx1⟩ := cell_at hr 1 (by omega)
  obtain ⟨ad0, e0, hx0⟩ := cell_at hr 0 (by omega)
  obtain rfl : ad = ad0 := by injection e0
  simp [Addr.add] at hx0 hx1
  have hb0 := hb.rd 0
  have hb1 := hb.rd 1
  have hp : pLen xs = (beVal ((xs.drop 2).take (rd xs 1 - 128).toNat) 0 + 2 + (rd xs 1 - 128), 2 + (rd xs 1 - 128)) := if_neg (by omega)
  have hmax := Kd.C_max hr
  have hw : ∀ k : Int, 0 ≤ k → k ≤ 255 → wrap64 ((xs.length : Int) - (2 + k)) = (xs.length : Int) - (2 + k) := fun k _ _ => by unfold wrap64; omega
  obtain ⟨k, hk⟩ : ∃ k : Nat, rd xs 1 = 128 + k := ⟨(rd xs 1 - 128).toNat, by omega⟩
  have hk2 : rd xs 1 - 128 = k := by omega
  rw [hk2] at hp
  simp only [Int.toNat_natCast] at hp
  have HR := Lib.hid (And.intro hr hb)
  by_cases hbad : k = 0 ∨ 4 < k ∨ xs.length < 2 + k
  · have hn : sOpen xs = none := if_neg (fun h => by
      obtain ⟨-, a1, a2, a3, -⟩ := h
      have := a3 (by omega)
      omega)
    have HN := Lib.hid hn
    rw [hk] at hx1 h hb1
    clear hn hp hr hb hk hk2 e0
    have e1 : (128 : Int) + k - 128 = k := by omega
    rcases hbad with rfl | hbad | hbad
    · go_enter Tryd.func31, Tryd.ntmps31
      go_wp2_with fail
      go_quiet (fail)
      go_wp2
      all_goals exact bodyPost_ret (results_tmp4 rfl _ _ _) rfl ⟨pw_below_drewN (Below.refl _ _) _, .inl ⟨HN.out, rfl⟩⟩
    · have d0 : ((k : Int) == 0) = false := beq_eq_false_iff_ne.2 (by omega)
      go_enter Tryd.func31, Tryd.ntmps31
      go_wp2_with fail
      go_quiet (fail)
      go_wp2
      all_goals exact bodyPost_ret (results_tmp4 rfl _ _ _) rfl ⟨pw_below_drewN (Below.refl _ _) _, .inl ⟨HN.out, rfl⟩⟩
    · by_cases k0 : k = 0
      · subst k0
        omega
      · have d0 : ((k : Int) == 0) = false := beq_eq_false_iff_ne.2 (by omega)
        go_enter Tryd.func31, Tryd.ntmps31
        go_wp2_with fail
        go_quiet (fail)
        go_wp2
        all_goals exact bodyPost_ret (results_tmp4 rfl _ _ _) rfl ⟨pw_below_drewN (Below.refl _ _) _, .inl ⟨HN.out, rfl⟩⟩
  · have k1 : 1 ≤ k := by omega
    have k4 : k ≤ 4 := by omega
    have kl : 2 + k ≤ xs.length := by omega
    obtain ⟨B1, B2, hcb, -, kb, -⟩ := open_cuts (some ad) c xs hc 2 (2 + k) (by omega) (by omega) 2 (2 + k) rfl (by omega)
    have hyl : ((xs.take (2 + k)).drop 2).length = k := by simp; omega
    have hye : (xs.take (2 + k)).drop 2 = (xs.drop 2).take k := by rw [List.drop_take]; congr 1; omega
    rw [hyl] at hcb
    rw [hye] at kb hyl
    have hkC := kb.2 w hr
    rw [hyl] at hkC
    have hyb : IsB ((xs.drop 2).take k) := isB_take (isB_drop hb 2) k
    obtain ⟨ys, hys⟩ : ∃ ys, ys = (xs.drop 2).take k := ⟨_, rfl⟩
    rw [← hys] at hkC hyl hyb hp
    have HY := Lib.hid (And.intro hys (And.intro hkC hyb))
    have HP := Lib.hid hp
    rw [hk] at hx1 h hb1
    have HK := Lib.hid hk
    have d0 : ((k : Int) == 0) = false := beq_eq_false_iff_ne.2 (by omega)
    have e1 : (128 : Int) + k - 128 = k := by omega
    clear hp hr hb hk hk2 e0 hys hkC hyb kb hye hbad
    go_enter Tryd.func31, Tryd.ntmps31
    go_wp2_with fail
    go_quiet (fail)
    go_wp2
    go_loop [7, 11, 45] (fun v _ j => ∃ i : Nat, i ≤ k ∧ j = .int .i64 i ∧ v = .int .i64 (beVal (ys.take i) 0)) (fun _ _ j => k - (intOf j).toNat)
    case atStart => exact ⟨0, Nat.zero_le _, rfl, rfl⟩
    case round =>
      obtain ⟨i, hi, rfl, rfl⟩ := hrel
      by_cases hlt : i < k
      · obtain ⟨hys, hkC, hyb⟩ := HY.out
        rw [← hyl] at hkC
        obtain ⟨ad1, rfl, hcl⟩ := cell_at hkC i (by omega)
        have hst := beVal_takeO ys i (by omega)
        have hbd := beVal_bound (ys.take i) (isB_take hyb i) 0 (Int.le_refl 0)
        have hp := pow_le4O i (by omega)
        have hr2 := hyb.rd i
        have hlen : (ys.take i).length = i := by simp; omega
        rw [hlen] at hbd
        have HS := Lib.hid hst
        have b0 := hbd.1
        have b1 : beVal (ys.take i) 0 < 281474976710656 := by omega
        have r0 := hr2.1
        have r1 := hr2.2
        clear hst hbd hp hlen hr2 hys hkC hyb
        generalize beVal (ys.take i) 0 = v at *
        generalize rd ys i = y at *
        have hor := i64_join8 v y b0 b1 r0 r1
        go_wp2
        go_round
        case rel => exact ⟨i + 1, by omega, by go_num, by rw [HS.out]⟩
        case measure => simp [intOf]; omega
      · obtain rfl : i = k := by omega
        obtain ⟨hys, hkC, hyb⟩ := HY.out
        have hbd := beVal_bound ys hyb 0 (Int.le_refl 0)
        have hp4 := pow_le4O i k4
        rw [hyl] at hbd
        rw [List.take_of_length_le (by omega)]
        have hp := HP.out
        obtain ⟨N, hN⟩ : ∃ N : Nat, beVal ys 0 = N := ⟨(beVal ys 0).toNat, by omega⟩
        have hN4 : N ≤ 4294967296 := by omega
        rw [hN] at hp
        have hok : OpenOk xs ↔ (N : Int) + 2 + i ≤ xs.length := by
          have hk := HK.out
          unfold OpenOk
          rw [hp, hk]
          simp only
          omega
        have hwl := hw i (by omega) (by omega)
        by_cases hle : (N : Int) + 2 + i ≤ xs.length
        · have ho : sOpen xs = some (rd xs 0, (xs.take (N + 2 + i)).drop (2 + i), xs.drop (N + 2 + i)) := by
            unfold sOpen
            rw [if_pos (hok.2 hle), hp]
            simp only [show ((N : Int) + 2 + i).toNat = N + 2 + i by omega, show (2 + (i : Int)).toNat = 2 + i by omega]
          obtain ⟨A1, A2, hc1, hc2, c1, c2⟩ := open_cuts (some ad) c xs hc (2 + i) (N + 2 + i) (by omega) (by omega) (2 + i) (2 + i + N) (by omega) (by omega)
          generalize (xs.take (N + 2 + i)).drop (2 + i) = x at ho hc1 c1
          generalize xs.drop (N + 2 + i) = y at ho hc2 c2
          have HO := Lib.hid (And.intro ho (And.intro c1 c2))
          clear ho c1 c2 hok hp hbd hp4 hys hkC hyb HY HP HK hcb
          rw [hN]
          clear hN
          go_wp2_with fail
          go_quiet (fail)
          go_wp2
          exact bodyPost_ret (results_tmp4 rfl _ _ _) rfl ⟨pw_below_drewN (pw_below_drewN (Below.refl _ _) _) _, .inr ⟨_, x, y, A1, _, A2, _, HO.out.1, rfl, HO.out.2.1, HO.out.2.2⟩⟩
        · have HN := Lib.hid (show sOpen xs = none from if_neg (fun h => hle (hok.1 h)))
          clear hok hp hbd hp4 hys hkC hyb HY HP HK hcb
          rw [hN]
          clear hN
          go_wp2
          exact bodyPost_ret (results_tmp4 rfl _ _ _) rfl ⟨pw_below_drewN (Below.refl _ _) _, .inl ⟨HN.out, rfl⟩⟩
theorem open_any (A : Option Addr) (c : Nat) (xs : List Int) (w : World) (hr : Kd.C (Kd.int .u8) w A xs.length xs) (hc : xs.length ≤ c) (hb : IsB xs) :
    Calls Tryd.prog 31 #[.slice A xs.length c] w fun e w' => GotO A xs w w' e := by
  by_cases h2 : xs.length < 2
  · exact open_few A c xs w hr hc hb h2
  by_cases h : rd xs 1 ≤ 127
  · exact open_short A c xs w hr hc hb (by omega) h
  · exact open_long A c xs w hr hc hb (by omega) (by omega)
end Go.Proofs.YtangjgclpipjdaaDoor
set_option linter.unusedVariables false
namespace Go.Proofs.YtangjgclpipjdaaDoor
open Go.RowKit Go.Proofs.YtangjgclpipjdaaDoorW.PrintWords Go.Proofs.YtangjgclpipjdaaDoorW.PrintLast Go.Proofs.YtangjgclpipjdaaDoorW.PrintMore

/-- What Open gives, in one form. -/
def Opened (A : Option Addr) (xs : List Int) (e : Ending) : Prop := ∃ t x y A1 c1 A2 c2 ok, e = .returned (.tuple #[.int .i64 t, .slice A1 x.length c1, .slice A2 y.length c2, .bool ok]) ∧
  Cut A xs A1 c1 x ∧ Cut A xs A2 c2 y ∧ IsB x ∧ IsB y ∧ 0 ≤ t ∧ t ≤ 255 ∧ x.length + y.length ≤ xs.length ∧ sOpen xs = if ok = true then some (t, x, y) else none
theorem Cut.nil (A : Option Addr) (xs : List Int) : Cut A xs none 0 [] := ⟨Nat.le_refl _, fun W _ => Kd.C_nil _ W⟩
theorem isB_nil : IsB [] := fun x hx => by simp at hx
theorem opened_any (A : Option Addr) (c : Nat) (xs : List Int) (w : World) (hr : Kd.C (Kd.int .u8) w A xs.length xs) (hc : xs.length ≤ c) (hb : IsB xs) :
    Calls Tryd.prog 31 #[.slice A xs.length c] w fun e w' => Below w.heap.size w w' ∧ Opened A xs e := by
  refine (open_any A c xs w hr hc hb).mono ?_
  rintro e w' ⟨hbl, ⟨hn, rfl⟩ | ⟨t, x, y, A1, c1, A2, c2, ho, rfl, k1, k2⟩⟩
  · exact ⟨hbl, 0, [], [], none, 0, none, 0, false, rfl, Cut.nil _ _, Cut.nil _ _, isB_nil, isB_nil, by omega, by omega, by simp, hn⟩
  · obtain ⟨b1, b2, b3, b4⟩ := sOpen_isB hb ho
    have := sOpen_len hb ho
    exact ⟨hbl, t, x, y, A1, c1, A2, c2, true, rfl, k1, k2, b1, b2, b3, b4, by omega, ho⟩
/-- What next gives. -/
def Nexted (A : Option Addr) (xs : List Int) (tag : Int) (e : Ending) : Prop := ∃ x y A1 c1 A2 c2 ok, e = .returned (.tuple #[.slice A1 x.length c1, .slice A2 y.length c2, .bool ok]) ∧
  Cut A xs A1 c1 x ∧ Cut A xs A2 c2 y ∧ IsB x ∧ IsB y ∧ x.length + y.length ≤ xs.length ∧ sNext xs tag = if ok = true then some (x, y) else none
set_option maxRecDepth 100000 in
set_option maxHeartbeats 4000000 in
theorem next_any (A : Option Addr) (c : Nat) (xs : List Int) (tag : Int) (w : World) (hr : Kd.C (Kd.int .u8) w A xs.length xs) (hc : xs.length ≤ c) (hb : IsB xs) :
    Calls Tryd.prog 29 #[.slice A xs.length c, .int .i64 tag] w fun e w' => Below w.heap.size w w' ∧ Nexted A xs tag e := by
  have HR := Lib.hid (And.intro hr hb)
  clear hr hb
  go_enter Tryd.func29, Tryd.ntmps29
  go_wp2_with fail
  refine (opened_any A c xs w HR.out.1 hc HR.out.2).mono ?_
  rintro e w1 ⟨hbl, t, x, y, A1, c1, A2, c2, ok, rfl, k1, k2, b1, b2, t0, t1, hl, ho⟩
  have HO := Lib.hid (And.intro hbl (And.intro k1 (And.intro k2 (And.intro b1 (And.intro b2 (And.intro hl ho))))))
  clear hbl k1 k2 b1 b2 hl ho
  cases ok with
  | false =>
    go_wp2
    go_ret3
    refine ⟨HO.out.1, x, y, A1, c1, A2, c2, false, rfl, HO.out.2.1, HO.out.2.2.1, HO.out.2.2.2.1, HO.out.2.2.2.2.1, HO.out.2.2.2.2.2.1, ?_⟩
    unfold sNext
    rw [HO.out.2.2.2.2.2.2]
    rfl
  | true =>
    go_wp2
    go_ret3
    refine ⟨HO.out.1, x, y, A1, c1, A2, c2, (t == tag), rfl, HO.out.2.1, HO.out.2.2.1, HO.out.2.2.2.1, HO.out.2.2.2.2.1, HO.out.2.2.2.2.2.1, ?_⟩
    unfold sNext
    rw [HO.out.2.2.2.2.2.2]
    simp
end Go.Proofs.YtangjgclpipjdaaDoor
set_option linter.unusedVariables false
namespace Go.Proofs.YtangjgclpipjdaaDoor
open Go.RowKit Go.Proofs.YtangjgclpipjdaaDoorW.PrintWords Go.Proofs.YtangjgclpipjdaaDoorW.PrintLast Go.Proofs.YtangjgclpipjdaaDoorW.PrintMore

theorem and127c (x : Int) (h0 : 0 ≤ x) (h1 : x < 256) : bits .and .u8 x 127 = x % 128 := by
  have := bits_mask .u8 8 (by decide) wraps_u8 7 (by decide) x h0 (by omega)
  simpa using this
theorem or_low7 (n y : Int) (h0 : 0 ≤ n) (h1 : n < 33554432) (y0 : 0 ≤ y) (y1 : y < 128) : bits .or .u64 (n * 128) y = n * 128 + y := by
  rw [u64_or _ _ (by omega) (by omega) (by omega) (by omega), nat_join 7 _ _ (by omega) (by omega)]
  omega

set_option maxRecDepth 100000 in
set_option maxHeartbeats 4000000 in
theorem specOfName_any (A : Option Addr) (c : Nat) (xs : List Int) (hc : xs.length ≤ c) (hb : IsB xs) (w : World) (hC : Kd.C (Kd.int .u8) w A xs.length xs) :
    Calls Tryd.prog 30 #[.slice A xs.length c] w fun e w' => GotA w w' (sOf xs) e := by
  by_cases c0 : xs.length = 0
  · have he : sOf xs = ([], false) := if_pos (.inl c0)
    have HE := Lib.hid he
    have d0 : ((xs.length : Int) == 0) = true := beq_iff_eq.2 (by omega)
    clear he c0
    go_enter Tryd.func30, Tryd.ntmps30
    go_wp2
    go_ret2
    exact gotA HE.out (OwnU.nil _ _) (Below.refl _ _)
  · obtain ⟨ad, rfl, g0⟩ := Kd.at_int hC 0 (by omega) (by omega)
    rw [show (0 : Int).toNat = 0 from rfl, Addr.add_zero'] at g0
    have d0 : ((xs.length : Int) == 0) = false := beq_eq_false_iff_ne.2 (by omega)
    have m0 : (0 < xs.length) = True := eq_true (by omega)
    have hv := hb.rd 0
    by_cases c1 : 120 ≤ rd xs 0
    · have he : sOf xs = ([], false) := if_pos (.inr (.inl c1))
      have HE := Lib.hid he
      clear he c0
      go_enter Tryd.func30, Tryd.ntmps30
      go_wp2
      go_ret2
      exact gotA HE.out (OwnU.nil _ _) (Below.refl _ _)
    · by_cases c2 : 300 < (xs.length : Int)
      · have he : sOf xs = ([], false) := if_pos (.inr (.inr (by omega)))
        have HE := Lib.hid he
        clear he c0
        go_enter Tryd.func30, Tryd.ntmps30
        go_wp2
        go_ret2
        exact gotA HE.out (OwnU.nil _ _) (Below.refl _ _)
      · have HH := Lib.hid (And.intro hb hC)
        have hal : ∀ o, Below w.heap.size w (w.alloc o).drew := fun o => below_drew ((Below.refl _ _).alloc (Nat.le_refl _) o)
        have hl1 : 1 ≤ (xs.length : Int) := by omega
        have hso : sOf xs = match ofGo (xs.drop 1) [rd xs 0 / 40, rd xs 0 % 40] 0 false with
            | none => ([], false)
            | some (out, op) => (out, !op && decide ((out.length : Int) ≤ 60)) := if_neg (by rintro (h | h | h); exact c0 h; exact c1 h; omega)
        have HS := Lib.hid hso
        clear hb hC c0 hso
        have hv0 := hv.1
        have hv1 := hv.2
        obtain ⟨v, hvd⟩ : ∃ v, v = rd xs 0 := ⟨_, rfl⟩
        rw [← hvd] at g0 hv0 hv1 c1
        have HV := Lib.hid hvd
        clear hvd hv
        go_enter Tryd.func30, Tryd.ntmps30
        go_wp2
        go_region_held (fun w' => w'.cell? ad = some (.int .u8 v)) (first | exact g0 | exact ((hal _).cell (World.block_lt_of_cell? w _ g0)).trans g0) (fail)
        have w1 : IntKind.u64.wrap v = v := wraps_u64 _ hv0 (by omega)
        have w2 : v.tdiv 40 = v / 40 := Int.tdiv_eq_ediv_of_nonneg hv0
        have w3 : v.tmod 40 = v % 40 := Int.tmod_eq_emod_of_nonneg hv0
        have w4 : IntKind.u64.wrap (v / 40) = v / 40 := wraps_u64 _ (by omega) (by omega)
        rw [w1, w2, w3, w4]
        have ho0 : OwnU (w.alloc (.cells #[Value.int .u64 (v / 40), Value.int .u64 (v % 40)] 22)).drew w.heap.size (.slice (some ⟨w.heap.size, 0, none⟩) 2 2) [v / 40, v % 40] := Kd.R_drew (OwnU.lit w _ [v / 40, v % 40] (Nat.le_refl _) (by simp) (by rfl))
        obtain ⟨hb, hC⟩ := HH.out
        obtain ⟨i8, hi8, hz8⟩ := Option.map_eq_some_iff.1 infoB
        have hs8 : i8.size = 1 := by simp at hz8; exact hz8.2.1
        obtain ⟨A8, hcut, hA8, hC8⟩ := print_drop_of (P := Tryd.prog) (Value.int .u8) 0 26 5 .i64 Tryd.underlying26 hi8 hs8 (some ad) c xs 1 (by omega) (by omega) hc
        have hCl := Kd.C_of_reads (h1 := fun _ => rfl) (hA8 _ (Kd.reads_of_C hC))
        rw [show (1 : Int).toNat = 1 from rfl] at hcut hCl
        have hbl : IsB (xs.drop 1) := isB_drop hb 1
        have hll : (xs.drop 1).length ≤ 300 := by rw [List.length_drop]; omega
        have hso := HS.out
        rw [← HV.out] at hso
        have HL := Lib.hid (And.intro hbl (And.intro hCl (And.intro ho0 (And.intro (hal (.cells #[Value.int .u64 (v / 40), Value.int .u64 (v % 40)] 22)) hso))))
        clear hbl hCl ho0 hal hso HS hA8 hC8 hb hC HH hi8 hz8 hs8 w1 w2 w3 w4 g0 HV m0
        generalize xs.drop 1 = l at *
        go_wp2
        obtain ⟨R, hRR⟩ : ∃ R, R = ofGo l [v / 40, v % 40] 0 false := ⟨_, rfl⟩
        have hend : (R = none → sOf xs = ([], false)) ∧ ∀ out op, R = some (out, op) → sOf xs = (out, !op && decide ((out.length : Int) ≤ 60)) := by
          have h := HL.out.2.2.2.2
          rw [← hRR] at h
          exact ⟨fun e => by rw [h, e], fun out op e => by rw [h, e]⟩
        have HE := Lib.hid hend
        have HR0 := Lib.hid hRR
        clear hRR hend
        go_loopg [4, 5, 6, 37] l.length (fun k v4 v5 v6 v37 wr => ∃ (i : Nat) (out : List Int) (n : Int) (op : Bool), v37 = .int .i64 i ∧ v5 = .int .u64 n ∧ v6 = .bool op ∧ Hid (i ≤ l.length ∧ k = l.length - i ∧ 0 ≤ n ∧ n ≤ 4294967295 ∧ OwnU wr w.heap.size v4 out ∧ Below w.heap.size w wr ∧ ofGo (l.drop i) out n op = R ∧ out.length ≤ i + 2))
        case atStart => exact ⟨0, _, 0, false, rfl, rfl, rfl, Lib.hid ⟨Nat.zero_le _, rfl, by omega, by omega, HL.out.2.2.1, HL.out.2.2.2.1, HR0.out.symm, by simp⟩⟩
        case round =>
          obtain ⟨i, out, n, op, rfl, rfl, rfl, HR⟩ := hrel
          obtain ⟨hi, hk, n0, n1, ho, hbw, hR, hol⟩ := HR.out
          by_cases hil : (i : Int) < l.length
          · have hln : i < l.length := by omega
            obtain ⟨ad8, rfl, g⟩ := Kd.at_int (Kd.C_below HL.out.2.1 hbw) i (by omega) hil
            have hrd : rd l i = l[i] := by
              unfold Go.Proofs.YtangjgclpipjdaaDoorW.PrintWords.rd
              rw [Int.toNat_natCast, List.getD_eq_getElem?_getD, List.getElem?_eq_getElem hln]
              rfl
            rw [hrd, Int.toNat_natCast] at g
            rw [List.drop_eq_getElem_cons hln] at hR
            have hxb := HL.out.1 l[i] (List.getElem_mem hln)
            have HK := Lib.hid (And.intro hi (And.intro hk (And.intro ho (And.intro hbw hol))))
            clear hrd hi hk hbw hol HR HR0
            generalize l[i] = x at *
            have hlt : (i < l.length) = True := eq_true hln
            have x0 := hxb.1
            have x1 := hxb.2
            clear hln hxb
            simp only [ofGo] at hR
            obtain ⟨Ao, co, rfl, hco, hCo⟩ := Kd.R_reads ho
            clear hCo ho
            by_cases hbad : (op = false ∧ x = 128) ∨ n ≥ 33554432
            · have HS := Lib.hid (HE.out.1 (by rw [← hR, if_pos hbad]))
              clear hR
              have hx8 : op = false → n < 33554432 → (x == 128) = true := fun h1 h2 => beq_iff_eq.2 (by rcases hbad with h | h; exact h.2; omega)
              cases op with
              | true =>
                have hbig : 33554432 ≤ n := by rcases hbad with h | h; exact absurd h.1 (by simp); exact h
                clear hbad hx8
                go_wp2
                go_ret2
                exact gotA HS.out (OwnU.nil _ _) HK.out.2.2.2.1
              | false =>
                by_cases hx : x = 128
                · have hxb : (x == 128) = true := beq_iff_eq.2 hx
                  clear hbad hx8 hx
                  go_wp2
                  go_ret2
                  exact gotA HS.out (OwnU.nil _ _) HK.out.2.2.2.1
                · have hxb : (x == 128) = false := beq_eq_false_iff_ne.2 hx
                  have hbig : 33554432 ≤ n := by rcases hbad with h | h; exact absurd h.2 hx; exact h
                  clear hbad hx8 hx
                  go_wp2
                  go_ret2
                  exact gotA HS.out (OwnU.nil _ _) HK.out.2.2.2.1
            · rw [if_neg hbad] at hR
              have hn : n < 33554432 := by omega
              have hxb : op = false → (x == 128) = false := fun h => beq_eq_false_iff_ne.2 (fun e => hbad (.inl ⟨h, e⟩))
              have e1 : IntKind.u64.wrap (n * 128) = n * 128 := wraps_u64 _ (by omega) (by omega)
              have a1 := and127c x x0 (by omega)
              have e2 := or_low7 n (x % 128) n0 hn (by omega) (by omega)
              clear hbad
              by_cases hx7 : x ≤ 127
              · rw [if_pos hx7] at hR
                have hd7 : decide (127 < x) = false := by simp; omega
                have HS := Lib.hid hR
                clear hR
                cases op
                all_goals
                  (try have hxb := hxb rfl)
                  go_wp2_with (at_builtin; refine app_u64s rfl (.tmp 61) (.tmp 63) 52 rfl Tryd.underlying52 infoU64 w.heap.size (.slice Ao out.length co) out [n * 128 + x % 128] (some ⟨wr.heap.size, 0, none⟩) 1 1 rfl rfl (Kd.R_alloc HK.out.2.2.1 _) (litU_C wr (n * 128 + x % 128)) (by have := HK.out.2.2.2.1.size; simp; omega) (by have := HK.out.2.2.2.2; have := HK.out.1; omega) ?_; intro v1 w3 ho3 hg3 hat3)
                  go_roundg (l.length - (i + 1))
                  case measure =>
                    have := HK.out.2.1
                    omega
                  case rel =>
                    obtain ⟨hi, hk, ho, hbw, hol⟩ := HK.out
                    exact ⟨i + 1, out ++ [n * 128 + x % 128], 0, false, by go_num, rfl, by first | rfl | (congr 1; simp; omega) | (congr 1; simpa using hx7), Lib.hid ⟨by omega, rfl, by omega, by omega, ho3, (hbw.alloc hbw.size _).grown hg3 (by have := hbw.size; simp; omega) (fun k hk => OwnU.block ho k hk), HS.out, by simp; omega⟩⟩
              · rw [if_neg hx7] at hR
                have hd7 : decide (127 < x) = true := by simp; omega
                have hx9 : 127 < x := by omega
                have HS := Lib.hid hR
                clear hR
                cases op
                all_goals
                  (try have hxb := hxb rfl)
                  go_wp2
                  go_roundg (l.length - (i + 1))
                  case measure =>
                    have := HK.out.2.1
                    omega
                  case rel =>
                    obtain ⟨hi, hk, ho, hbw, hol⟩ := HK.out
                    exact ⟨i + 1, out, n * 128 + x % 128, true, by go_num, rfl, by first | rfl | (congr 1; simp; omega), Lib.hid ⟨by omega, rfl, by omega, by omega, ho, hbw, HS.out, by omega⟩⟩
          · rw [List.drop_of_length_le (by omega)] at hR
            simp only [ofGo] at hR
            have HS := Lib.hid (HE.out.2 out op hR.symm)
            obtain ⟨Ao, co, rfl, hco, hCo⟩ := Kd.R_reads ho
            have HK := Lib.hid (And.intro ho hbw)
            clear hR hCo ho hbw HR HR0
            cases op
            all_goals
              go_wp2
              go_ret2
              exact gotA HS.out HK.out.1 HK.out.2
end Go.Proofs.YtangjgclpipjdaaDoor
set_option linter.unusedVariables false
namespace Go.Proofs.YtangjgclpipjdaaDoor
open Go.RowKit Go.Proofs.YtangjgclpipjdaaDoorW.PrintWords Go.Proofs.YtangjgclpipjdaaDoorW.PrintLast Go.Proofs.YtangjgclpipjdaaDoorW.PrintMore

def GotOV (A : Option Addr) (xs : List Int) (w w' : World) (e : Ending) : Prop := Below w.heap.size w w' ∧
  ((sOfVar xs = none ∧ ∃ v1 v2, e = .returned (.tuple #[v1, v2, .bool false])) ∨
   ∃ arcs ty i u tx rest A2 c2, sOfVar xs = some ((arcs, ty, i, u, tx), rest) ∧ e = .returned (.tuple #[varV (strOfNums (sDot arcs)) ty i u (strOfNums tx), .slice A2 rest.length c2, .bool true]) ∧ Cut A xs A2 c2 rest)
theorem Cut.trans {A A1 A2 : Option Addr} {c1 c2 : Nat} {xs x y : List Int} (h : Cut A xs A1 c1 x) (k : Cut A1 x A2 c2 y) : Cut A xs A2 c2 y := ⟨k.1, fun W hW => k.2 W (h.2 W hW)⟩
theorem specOfInt_any (A : Option Addr) (c : Nat) (xs : List Int) (w : World) (hC : Kd.C (Kd.int .u8) w A xs.length xs) (hc : xs.length ≤ c) (hb : IsB xs) :
    Calls Tryd.prog 33 #[.slice A xs.length c] w fun e w' => Below w.heap.size w w' ∧ ∃ n ok, e = .returned (.tuple #[.int .i64 n, .bool ok]) ∧ (if 1 ≤ xs.length ∧ xs.length ≤ 8 then n = sVal xs ∧ ok = true else n = 0 ∧ ok = false) := by
  by_cases h : 1 ≤ xs.length ∧ xs.length ≤ 8
  · refine (PFnValue.spec_OfInt.calls 12 A c xs _ true w hC hc (ofInt_eq xs hb h.1 h.2)).mono ?_
    rintro e w' ⟨rfl, hb'⟩
    exact ⟨hb'.below, _, _, rfl, by rw [if_pos h]; exact ⟨rfl, rfl⟩⟩
  · refine (PFnValue.spec_OfInt.calls 12 A c xs 0 false w hC hc (ofInt_no xs h)).mono ?_
    rintro e w' ⟨rfl, hb'⟩
    exact ⟨hb'.below, _, _, rfl, by rw [if_neg h]; exact ⟨rfl, rfl⟩⟩
theorem specOfUint_any (A : Option Addr) (c : Nat) (xs : List Int) (w : World) (hC : Kd.C (Kd.int .u8) w A xs.length xs) (hc : xs.length ≤ c) (hb : IsB xs) :
    Calls Tryd.prog 35 #[.slice A xs.length c] w fun e w' => Below w.heap.size w w' ∧ ∃ n ok, e = .returned (.tuple #[.int .u64 n, .bool ok]) ∧ (if 1 ≤ (uPart xs).length ∧ (uPart xs).length ≤ 8 then n = beVal (uPart xs) 0 ∧ ok = true else n = 0 ∧ ok = false) := by
  by_cases h : 1 ≤ (uPart xs).length ∧ (uPart xs).length ≤ 8
  · refine (PFnValue.spec_OfUint.calls 14 (fun k => k < w.heap.size) A c xs _ true w (readB_of hc hC) (ofUint_eq xs hb h.1 h.2)).mono ?_
    rintro e w' ⟨rfl, hb'⟩
    exact ⟨hb', _, _, rfl, by rw [if_pos h]; exact ⟨rfl, rfl⟩⟩
  · refine (PFnValue.spec_OfUint.calls 14 (fun k => k < w.heap.size) A c xs 0 false w (readB_of hc hC) (ofUint_no xs h)).mono ?_
    rintro e w' ⟨rfl, hb'⟩
    exact ⟨hb', _, _, rfl, by rw [if_neg h]; exact ⟨rfl, rfl⟩⟩
theorem ofGo_bnd (l : List Int) (hb : IsB l) : ∀ (out : List Int) (n : Int) (op : Bool) (r : List Int) (o : Bool), ofGo l out n op = some (r, o) → 0 ≤ n → (∀ x ∈ out, 0 ≤ x ∧ x ≤ 4294967295) → (∀ x ∈ r, 0 ≤ x ∧ x ≤ 4294967295) ∧ r.length ≤ out.length + l.length := by
  induction l with
  | nil =>
    intro out n op r o h h0 ho
    simp only [ofGo, Option.some.injEq, Prod.mk.injEq] at h
    obtain ⟨rfl, -⟩ := h
    exact ⟨ho, by simp⟩
  | cons x l ih =>
    intro out n op r o h h0 ho
    have hx := hb x (by simp)
    have hbl : IsB l := fun y hy => hb y (by simp [hy])
    simp only [ofGo] at h
    split at h
    · simp at h
    · rename_i hc
      simp only [not_or] at hc
      split at h
      · obtain ⟨a, b⟩ := ih hbl _ _ _ _ _ h (by omega) (by
          intro y hy
          rcases List.mem_append.1 hy with hy | hy
          · exact ho y hy
          · simp at hy; subst hy; omega)
        refine ⟨a, ?_⟩
        simp at b ⊢
        omega
      · obtain ⟨a, b⟩ := ih hbl _ _ _ _ _ h (by omega) ho
        refine ⟨a, ?_⟩
        simp
        omega
theorem sOf_bnd (b : List Int) (hb : IsB b) : (∀ x ∈ (sOf b).1, 0 ≤ x ∧ x ≤ 4294967295) ∧ (sOf b).1.length ≤ 1000 := by
  unfold sOf
  split
  · simp
  · rename_i hc
    simp only [not_or] at hc
    have h0 := hb.rd 0
    split
    · simp
    · rename_i out op e
      obtain ⟨a, c⟩ := ofGo_bnd _ (isB_drop hb 1) _ _ _ _ _ e (Int.le_refl 0) (by
        intro y hy
        simp at hy
        omega)
      refine ⟨a, ?_⟩
      simp at c ⊢
      omega
theorem dots_snoc (l : List Int) (x : Int) : dots (l ++ [x]) = if l = [] then dec x.toNat else dots l ++ (46 :: dec x.toNat) := by
  induction l with
  | nil => rfl
  | cons a l ih =>
    cases l with
    | nil => rfl
    | cons b l =>
      have e : dots (a :: b :: (l ++ [x])) = dec a.toNat ++ 46 :: dots (b :: (l ++ [x])) := rfl
      have e2 : dots (a :: b :: l) = dec a.toNat ++ 46 :: dots (b :: l) := rfl
      simp only [List.cons_append] at ih ⊢
      rw [e, ih, e2]
      simp
theorem dots_len (l : List Int) (h : ∀ x ∈ l, 0 ≤ x ∧ x ≤ 255) : (dots l).length ≤ 21 * l.length := by
  induction l with
  | nil => simp [dots]
  | cons a l ih =>
    have ha := h a (by simp)
    have hd := dec_len a ha.1 (by omega)
    cases l with
    | nil => simp [dots]; omega
    | cons b l =>
      have := ih (fun x hx => h x (by simp [hx]))
      have e2 : dots (a :: b :: l) = dec a.toNat ++ 46 :: dots (b :: l) := rfl
      rw [e2]
      simp at this ⊢
      omega
theorem ov_some {A A2 : Option Addr} {xs arcs x y tx : List Int} {t i u : Int} {c2 : Nat} {dt : ByteArray} {w w' : World} (h : strOfNums (sDot arcs) = dt ∧ sOfVar xs = tellVar arcs t y (sTold t x)) (hT : sTold t x = some (i, u, tx)) (k : Cut A xs A2 c2 y) (b : Below w.heap.size w w') :
    GotOV A xs w w' (.returned (.tuple #[varV dt t i u (strOfNums tx), .slice A2 y.length c2, .bool true])) := by
  obtain ⟨rfl, h⟩ := h
  exact ⟨b, .inr ⟨arcs, t, i, u, tx, y, A2, c2, by rw [h, hT]; rfl, rfl, k⟩⟩
theorem ov_none {A : Option Addr} {xs arcs x y : List Int} {t : Int} {dt : ByteArray} {w w' : World} {v1 v2 : Value} (h : strOfNums (sDot arcs) = dt ∧ sOfVar xs = tellVar arcs t y (sTold t x)) (hT : sTold t x = none) (b : Below w.heap.size w w') :
    GotOV A xs w w' (.returned (.tuple #[v1, v2, .bool false])) := ⟨b, .inl ⟨by rw [h.2, hT]; rfl, v1, v2, rfl⟩⟩
theorem results_ctt {P : Program} {fn : Func} {p u v : Tmp} {ty : TypeId} (h : fn.results = #[.cell p ty, .tmp u, .tmp v]) (tmps : Array Value) (w : World) (g : Nat) (t : TypeId) (cs : Array Value) (fr : Nat × Nat) (d : TypeDesc)
    (hp : tmps.getD p undef = .pointer (some ⟨g, 0, none⟩)) (hg : w.heap[g]? = some (.cells cs t fr))
    (hu : P.underlying ty = some d) (hd : (match d with | .struct _ | .array _ _ => true | _ => false) = true) (hi : (P.info? ty).map (·.size) = some cs.size) :
    (results fn tmps).run P w = .ok (.tuple #[.agg cs, tmps.getD u undef, tmps.getD v undef]) w := by
  have hp' : tmps[p]?.getD undef = .pointer (some ⟨g, 0, none⟩) := by simpa using hp
  simp [results, h, hp', asAddr, run_loadVar_row w g t ty cs fr d hg hu hd hi]
theorem ov_ret {fn : Func} {p y z : Tmp} (h : fn.results = #[.cell p 24, .tmp y, .tmp z]) {R : Ending → World → Prop} {a : Act} {W : World} {g : Nat} {nm tx nm' tx' : ByteArray} {ty i u ty' i' u' : Int} (hp : a.tmps.getD p undef = .pointer (some ⟨g, 0, none⟩)) (hd : a.defers = [])
    (hr : W.heap[g]? = some (varO nm' ty' i' u' tx')) (hR : R (.returned (.tuple #[varV nm ty i u tx, a.tmps.getD y undef, a.tmps.getD z undef])) (setVar W g nm ty i u tx)) :
    bodyPost Tryd.prog fn R .ret a (setVar W g nm ty i u tx) :=
  bodyPost_ret (results_ctt h _ _ g 24 #[.string nm, .int .i64 ty, .int .i64 i, .int .u64 u, .string tx] (0, 0) _ hp (setVar_new hr _ _ _ _ _) Tryd.underlying24 rfl infoVar) hd hR
theorem ov_ret2 {fn : Func} {p y z : Tmp} (h : fn.results = #[.cell p 24, .tmp y, .tmp z]) {R : Ending → World → Prop} {a : Act} {W : World} {g : Nat} {nm tx nm' tx' : ByteArray} {ty i u ty' i' u' : Int} {o : Obj} (hp : a.tmps.getD p undef = .pointer (some ⟨g, 0, none⟩)) (hd : a.defers = [])
    (hr : W.heap[g]? = some (varO nm' ty' i' u' tx')) (hR : R (.returned (.tuple #[varV nm ty i u tx, a.tmps.getD y undef, a.tmps.getD z undef])) ((setVar W g nm ty i u tx).alloc o)) :
    bodyPost Tryd.prog fn R .ret a ((setVar W g nm ty i u tx).alloc o) :=
  bodyPost_ret (results_ctt h _ _ g 24 #[.string nm, .int .i64 ty, .int .i64 i, .int .u64 u, .string tx] (0, 0) _ hp (blk_alloc (setVar_new hr _ _ _ _ _) o) Tryd.underlying24 rfl infoVar) hd hR
set_option maxRecDepth 100000 in
set_option maxHeartbeats 4000000 in
theorem ofVar_any (A : Option Addr) (c : Nat) (xs : List Int) (w : World) (hr : Kd.C (Kd.int .u8) w A xs.length xs) (hc : xs.length ≤ c) (hb : IsB xs) (hl : xs.length ≤ 1000000) :
    Calls Tryd.prog 12 #[.slice A xs.length c] w fun e w' => GotOV A xs w w' e := by
  have mixed : Tryd.prog.follows Departure.mixedOrders = true := by kernel_rfl
  have HR := Lib.hid (And.intro hr hb)
  clear hr hb
  go_enter Tryd.func12, Tryd.ntmps12
  go_wp2_with fail
  have b0 := (Below.refl w.heap.size w).alloc (Nat.le_refl _) (varO ⟨#[]⟩ 0 0 0 ⟨#[]⟩)
  refine (next_any A c xs 48 _ (Kd.C_below HR.out.1 b0) hc HR.out.2).mono ?_
  rintro e w1 ⟨hb1, x1, y1, A1, c1, A2, c2, ok1, rfl, k1, k2, i1, i2, l1, ho1⟩
  have b1 := below_step b0 hb1
  have hblk1 := blk_below (blk_new w (varO ⟨#[]⟩ 0 0 0 ⟨#[]⟩)) hb1
  have H1 := Lib.hid (And.intro b1 (And.intro hblk1 (And.intro k1 (And.intro k2 (And.intro i1 (And.intro i2 ho1))))))
  clear b0 hb1 b1 hblk1 k1 k2 i1 i2 ho1
  cases ok1 with
  | false =>
    have HN := Lib.hid (show sOfVar xs = none by unfold sOfVar; rw [H1.out.2.2.2.2.2.2]; rfl)
    obtain ⟨r0, r1, r2, r3, r4, rf0, rf1, rf2, rf3, rf4⟩ := var_cells H1.out.2.1
    go_wp2
    exact ov_ret rfl rfl rfl H1.out.2.1 ⟨setVar_below H1.out.1 (Nat.le_refl _) _ _ _ _ _, .inl ⟨HN.out, _, _, rfl⟩⟩
  | true =>
    go_wp2_with fail
    have hC1 := H1.out.2.2.1.2 w1 (Kd.C_below HR.out.1 H1.out.1)
    refine (next_any A1 c1 x1 6 w1 hC1 H1.out.2.2.1.1 H1.out.2.2.2.2.1).mono ?_
    rintro e w2 ⟨hb2, x2, y2, B1, d1, B2, d2, ok2, rfl, m1, m2, j1, j2, l2, ho2⟩
    have n1 := H1.out.2.2.1.trans m1
    have n2 := H1.out.2.2.1.trans m2
    have b2 := below_step H1.out.1 hb2
    have hblk2 := blk_below H1.out.2.1 hb2
    have H2 := Lib.hid (And.intro b2 (And.intro hblk2 (And.intro n1 (And.intro n2 (And.intro j1 (And.intro j2 (And.intro ho2 (And.intro H1.out.2.2.2.1 H1.out.2.2.2.2.2.2))))))))
    clear b2 hb2 hblk2 n1 n2 m1 m2 j1 j2 ho2 hC1 H1
    go_wp2_with fail
    refine (specOfName_any B1 d1 x2 H2.out.2.2.1.1 H2.out.2.2.2.2.1 w2 (H2.out.2.2.1.2 w2 (Kd.C_below HR.out.1 H2.out.1))).mono ?_
    rintro e w3 ⟨v3, rfl, ho3, hb3⟩
    obtain ⟨A3, c3, rfl, hc3, hC3⟩ := Kd.R_reads ho3
    have b3 := below_step H2.out.1 hb3
    have H3 := Lib.hid (And.intro b3 (And.intro (blk_below H2.out.2.1 hb3) (And.intro hC3 H2.out)))
    clear b3 hb3 hC3 ho3 H2
    go_wp2_with fail
    refine (opened_any B2 d2 y2 w3 (H3.out.2.2.2.2.2.2.1.2 w3 (Kd.C_below HR.out.1 H3.out.1)) H3.out.2.2.2.2.2.2.1.1 H3.out.2.2.2.2.2.2.2.2.1).mono ?_
    rintro e w4 ⟨hb4, t, x4, y4, E1, e1, E2, e2, ok4, rfl, q1, q2, s1, s2, t0, t1, l4, ho4⟩
    have b4 := below_step H3.out.1 hb4
    have hblk4 := blk_below H3.out.2.1 hb4
    have hq := H3.out.2.2.2.2.2.2.1.trans q1
    have he1 := q1.1
    have HT := Lib.hid (show sOfVar xs = if ok2 = true ∧ (sOf x2).2 = true ∧ ok4 = true ∧ y4.length = 0 then tellVar (sOf x2).1 t y1 (sTold t x4) else none from by
      unfold sOfVar
      rw [H3.out.2.2.2.2.2.2.2.2.2.2.2]
      simp only [if_true]
      rw [H3.out.2.2.2.2.2.2.2.2.2.1]
      cases ok2 with
      | false => simp
      | true =>
        simp only [if_true]
        rw [ho4]
        cases ok4 with
        | false => simp
        | true => simp)
    have H4 := Lib.hid (And.intro b4 (And.intro hblk4 (And.intro (Kd.C_below H3.out.2.2.1 hb4) (And.intro (hq.2 w4 (Kd.C_below HR.out.1 b4)) (And.intro s1 H3.out.2.2.2.2.2.2.2.2.2.2.1)))))
    have HCC := Lib.hid (fun W (hW : Below w.heap.size w W) => hq.2 W (Kd.C_below HR.out.1 hW))
    have HB2 := Lib.hid H3.out.2.2.2.2.2.1
    have HJ := Lib.hid H3.out.2.2.2.2.2.2.2.1
    clear b4 hb4 hblk4 hq q1 q2 s1 s2 ho4 H3
    cases ok2 with
    | false =>
      have HN := Lib.hid (show sOfVar xs = none by rw [HT.out]; simp)
      obtain ⟨r0, r1, r2, r3, r4, rf0, rf1, rf2, rf3, rf4⟩ := var_cells H4.out.2.1
      go_wp2
      exact ov_ret rfl rfl rfl H4.out.2.1 ⟨setVar_below H4.out.1 (Nat.le_refl _) _ _ _ _ _, .inl ⟨HN.out, _, _, rfl⟩⟩
    | true =>
    cases h3 : (sOf x2).2 with
    | false =>
      have HN := Lib.hid (show sOfVar xs = none by rw [HT.out]; simp [h3])
      obtain ⟨r0, r1, r2, r3, r4, rf0, rf1, rf2, rf3, rf4⟩ := var_cells H4.out.2.1
      go_wp2
      exact ov_ret rfl rfl rfl H4.out.2.1 ⟨setVar_below H4.out.1 (Nat.le_refl _) _ _ _ _ _, .inl ⟨HN.out, _, _, rfl⟩⟩
    | true =>
    cases ok4 with
    | false =>
      have HN := Lib.hid (show sOfVar xs = none by rw [HT.out]; simp)
      obtain ⟨r0, r1, r2, r3, r4, rf0, rf1, rf2, rf3, rf4⟩ := var_cells H4.out.2.1
      go_wp2
      exact ov_ret rfl rfl rfl H4.out.2.1 ⟨setVar_below H4.out.1 (Nat.le_refl _) _ _ _ _ _, .inl ⟨HN.out, _, _, rfl⟩⟩
    | true =>
    by_cases hy4 : y4.length = 0
    case neg =>
      have hyp : 0 < (y4.length : Int) := by omega
      have HN := Lib.hid (show sOfVar xs = none by rw [HT.out, if_neg (by rintro ⟨-, -, -, h⟩; exact hy4 h)])
      obtain ⟨r0, r1, r2, r3, r4, rf0, rf1, rf2, rf3, rf4⟩ := var_cells H4.out.2.1
      go_wp2
      exact ov_ret rfl rfl rfl H4.out.2.1 ⟨setVar_below H4.out.1 (Nat.le_refl _) _ _ _ _ _, .inl ⟨HN.out, _, _, rfl⟩⟩
    case pos =>
      rw [hy4]
      have HT2 := Lib.hid (show sOfVar xs = tellVar (sOf x2).1 t y1 (sTold t x4) by rw [HT.out, if_pos ⟨rfl, h3, rfl, hy4⟩])
      obtain ⟨xa, ya, ra, hae, -, hx0, hx2, hyb, hyb2, hbnd, hal⟩ := sOf_text x2 HJ.out (sOf x2).1 (by rw [← h3])
      have hbd : ∀ x ∈ (sOf x2).1, 0 ≤ x ∧ x ≤ 4294967295 := by
        rw [hae]
        intro x hx
        rcases List.mem_cons.1 hx with rfl | hx
        · omega
        rcases List.mem_cons.1 hx with rfl | hx
        · omega
        · exact hbnd x hx
      clear hae hbnd hx0 hx2 hyb hyb2 HT h3 HJ HB2
      generalize (sOf x2).1 = arcs at *
      have H4b := Lib.hid hbd
      clear hbd
      go_wp2_with fail
      refine (dotted_any arcs H4b.out (by omega) A3 c3 w4 H4.out.2.2.1).mono ?_
      rintro e w5 ⟨rfl, hb5⟩
      have b5 := below_step H4.out.1 hb5
      have hblk5 := blk_below H4.out.2.1 hb5
      generalize hdt : strOfNums (sDot arcs) = dt at *
      have hout := blk_new w5 (varO dt t 0 0 ⟨#[]⟩)
      have hblk6 := fun o => blk_alloc hblk5 o
      have b6 := fun o => b5.alloc b5.size o
      have hs5 := blk_lt hblk5
      have hC6 := Kd.C_alloc (Kd.C_below H4.out.2.2.2.1 hb5) (varO dt t 0 0 ⟨#[]⟩)
      have H6 := Lib.hid (And.intro b6 (And.intro hblk6 (And.intro hout (And.intro hC6 (And.intro H4.out.2.2.2.2.1 (And.intro H4.out.2.2.2.2.2 (And.intro hblk5 b5)))))))
      clear hb5 b5 hblk5 H4 hout hblk6 b6 hC6
      have HE := Lib.hid (And.intro hdt HT2.out)
      clear hdt HT2 H4b HR
      by_cases c2 : t = 2
      · subst c2
        go_wp2_with fail
        refine (specOfInt_any E1 e1 x4 _ H6.out.2.2.2.1 (by omega) H6.out.2.2.2.2.1).mono ?_
        rintro e w7 ⟨hb7, n, ok, rfl, hn⟩
        have hout7 := blk_below H6.out.2.2.1 hb7
        have hr7 := blk_below (H6.out.2.1 _) hb7
        obtain ⟨o0, o1, o2, o3, o4, of0, of1, of2, of3, of4⟩ := var_cells hout7
        obtain ⟨r0, r1, r2, r3, r4, rf0, rf1, rf2, rf3, rf4⟩ := var_cells hr7
        have H7 := Lib.hid (And.intro hr7 (And.intro (below_step (H6.out.1 _) hb7) hn))
        clear hout7 hr7 hb7 hn
        go_wp2
        have hr8 : (w7.setCell ⟨w5.heap.size, 2, none⟩ (.int .i64 n)).heap[w.heap.size]? = some (varO ⟨#[]⟩ 0 0 0 ⟨#[]⟩) := (Below.heap_setCell _ _ _ _ (by show w.heap.size ≠ w5.heap.size; omega)).trans H7.out.1
        have hb8 := setVar_below (below_set (j := 2) (v := .int .i64 n) H7.out.2.1 (Nat.le_of_lt hs5)) (Nat.le_refl _) dt 2 n 0 ⟨#[]⟩
        have hn := H7.out.2.2
        by_cases h : 1 ≤ x4.length ∧ x4.length ≤ 8
        · rw [if_pos h] at hn
          obtain ⟨rfl, rfl⟩ := hn
          (refine ov_ret rfl rfl rfl hr8 ?_; exact ov_some HE.out (by unfold sTold; rw [if_pos rfl, if_pos h]) H6.out.2.2.2.2.2.1 hb8)
        · rw [if_neg h] at hn
          obtain ⟨rfl, rfl⟩ := hn
          (refine ov_ret rfl rfl rfl hr8 ?_; exact ov_none HE.out (by unfold sTold; rw [if_pos rfl, if_neg h]) hb8)
      have H5 := H6.out.2.2.2.2.2.2
      obtain ⟨r0, r1, r2, r3, r4, rf0, rf1, rf2, rf3, rf4⟩ := var_cells H5.1
      have HV := Lib.hid H5
      have hsv : ∀ nm ty i u tx o, Below w.heap.size w ((setVar w5 w.heap.size nm ty i u tx).alloc o) := fun nm ty i u tx o => by
        have := setVar_below HV.out.2 (Nat.le_refl w.heap.size) nm ty i u tx
        exact this.alloc this.size o
      have HSV := Lib.hid hsv
      clear H5 hsv
      by_cases c4 : t = 4
      · subst c4
        have hcv := Kd.C_string (P := Tryd.prog) Tryd.underlying26 Tryd.underlying5 Tryd.underlying9 H6.out.2.2.2.1 (c := e1)
        go_wp2
        (refine ov_ret2 rfl rfl rfl HV.out.1 ?_; exact ov_some HE.out (by unfold sTold; rw [if_neg (by omega), if_pos rfl]) H6.out.2.2.2.2.2.1 (HSV.out _ _ _ _ _ _))
      by_cases c5 : t = 5 ∨ t = 128 ∨ t = 129 ∨ t = 130
      · have hT : sTold t x4 = if x4.length = 0 then some (0, 0, []) else none := by unfold sTold; rw [if_neg c2, if_neg c4, if_pos c5]
        rcases c5 with rfl | rfl | rfl | rfl
        all_goals
          by_cases h0 : x4.length = 0
          · rw [if_pos h0] at hT
            have HT := Lib.hid hT
            rw [h0]
            clear hT
            go_wp2
            (refine ov_ret2 rfl rfl rfl HV.out.1 ?_; exact ov_some HE.out HT.out H6.out.2.2.2.2.2.1 (HSV.out _ _ _ _ _ _))
          · have hd0 : ((x4.length : Int) == 0) = false := beq_eq_false_iff_ne.2 (by omega)
            rw [if_neg h0] at hT
            have HT := Lib.hid hT
            clear hT
            go_wp2
            (refine ov_ret2 rfl rfl rfl HV.out.1 ?_; exact ov_none HE.out HT.out (HSV.out _ _ _ _ _ _))
      by_cases c6 : t = 6
      · have hT : sTold t x4 = if (sOf x4).2 = true then some (0, 0, sDot (sOf x4).1) else none := by unfold sTold; rw [if_neg c2, if_neg c4, if_neg c5, if_pos c6]
        subst c6
        obtain ⟨hbx, hlx⟩ := sOf_bnd x4 H6.out.2.2.2.2.1
        have HX := Lib.hid (And.intro hbx hT)
        clear hbx hT
        go_wp2_with fail
        refine (specOfName_any E1 e1 x4 he1 H6.out.2.2.2.2.1 _ H6.out.2.2.2.1).mono ?_
        rintro e w7 ⟨v7, rfl, ho7, hb7⟩
        obtain ⟨A7, c7, rfl, hc7, hC7⟩ := Kd.R_reads ho7
        have H7 := Lib.hid (And.intro (blk_below (H6.out.2.1 _) hb7) (And.intro (below_step (H6.out.1 _) hb7) (blk_below H6.out.2.2.1 hb7)))
        clear ho7 hb7 r0 r1 r2 r3 r4 rf0 rf1 rf2 rf3 rf4
        cases hf : (sOf x4).2
        all_goals
          have HF := Lib.hid hf
          clear hf
          go_wp2_with fail
          refine (dotted_any (sOf x4).1 HX.out.1 hlx A7 c7 w7 hC7).mono ?_
          rintro e w8 ⟨rfl, hb8⟩
          have H8 := Lib.hid (And.intro (blk_below H7.out.1 hb8) (below_step H7.out.2.1 hb8))
          obtain ⟨o0, o1, o2, o3, o4, of0, of1, of2, of3, of4⟩ := var_cells (blk_below H7.out.2.2 hb8)
          obtain ⟨r0, r1, r2, r3, r4, rf0, rf1, rf2, rf3, rf4⟩ := var_cells H8.out.1
          clear hb8
          go_wp2
          have hr9 : (w8.setCell ⟨w5.heap.size, 4, none⟩ (.string (strOfNums (sDot (sOf x4).1)))).heap[w.heap.size]? = some (varO ⟨#[]⟩ 0 0 0 ⟨#[]⟩) := (Below.heap_setCell _ _ _ _ (by show w.heap.size ≠ w5.heap.size; omega)).trans H8.out.1
          have hb9 := setVar_below (below_set (j := 4) (v := .string (strOfNums (sDot (sOf x4).1))) H8.out.2 (Nat.le_of_lt hs5)) (Nat.le_refl _) dt 6 0 0 (strOfNums (sDot (sOf x4).1))
          refine ov_ret rfl rfl rfl hr9 ?_
          first
            | exact ov_some HE.out (HX.out.2.trans (if_pos HF.out)) H6.out.2.2.2.2.2.1 hb9
            | exact ov_none HE.out (HX.out.2.trans (if_neg (by rw [HF.out]; simp))) hb9
      by_cases c65 : t = 65 ∨ t = 66 ∨ t = 67 ∨ t = 70
      · have hT : sTold t x4 = if 1 ≤ (uPart x4).length ∧ (uPart x4).length ≤ 8 then some (0, beVal (uPart x4) 0, []) else none := by unfold sTold; rw [if_neg c2, if_neg c4, if_neg c5, if_neg c6, if_neg (by omega), if_pos c65]
        have HT := Lib.hid hT
        clear hT
        rcases c65 with rfl | rfl | rfl | rfl
        all_goals
          go_wp2_with fail
          refine (specOfUint_any E1 e1 x4 _ H6.out.2.2.2.1 he1 H6.out.2.2.2.2.1).mono ?_
          rintro e w7 ⟨hb7, n, ok, rfl, hn⟩
          have hout7 := blk_below H6.out.2.2.1 hb7
          have hr7 := blk_below (H6.out.2.1 _) hb7
          clear r0 r1 r2 r3 r4 rf0 rf1 rf2 rf3 rf4
          obtain ⟨o0, o1, o2, o3, o4, of0, of1, of2, of3, of4⟩ := var_cells hout7
          obtain ⟨r0, r1, r2, r3, r4, rf0, rf1, rf2, rf3, rf4⟩ := var_cells hr7
          have H7 := Lib.hid (And.intro hr7 (And.intro (below_step (H6.out.1 _) hb7) hn))
          clear hout7 hr7 hb7 hn
          go_wp2
          have hr8 : (w7.setCell ⟨w5.heap.size, 3, none⟩ (.int .u64 n)).heap[w.heap.size]? = some (varO ⟨#[]⟩ 0 0 0 ⟨#[]⟩) := (Below.heap_setCell _ _ _ _ (by show w.heap.size ≠ w5.heap.size; omega)).trans H7.out.1
          have hb8 := fun ty => setVar_below (below_set (j := 3) (v := .int .u64 n) H7.out.2.1 (Nat.le_of_lt hs5)) (Nat.le_refl _) dt ty 0 n ⟨#[]⟩
          have hn := H7.out.2.2
          by_cases h : 1 ≤ (uPart x4).length ∧ (uPart x4).length ≤ 8
          · rw [if_pos h] at hn
            obtain ⟨rfl, rfl⟩ := hn
            refine ov_ret rfl rfl rfl hr8 ?_
            exact ov_some HE.out (HT.out.trans (if_pos h)) H6.out.2.2.2.2.2.1 (hb8 _)
          · rw [if_neg h] at hn
            obtain ⟨rfl, rfl⟩ := hn
            refine ov_ret rfl rfl rfl hr8 ?_
            exact ov_none HE.out (HT.out.trans (if_neg h)) (hb8 _)
      by_cases c64 : t = 64
      · have hT : sTold t x4 = if x4.length = 4 then some (0, 0, dots x4) else none := by unfold sTold; rw [if_neg c2, if_neg c4, if_neg c5, if_neg c6, if_pos c64]
        have HT := Lib.hid hT
        subst c64
        clear hT
        go_wp2
        go_loopg [20, 21, 109] x4.length (fun k v20 v21 v109 wr => ∃ i : Nat, v109 = .int .i64 i ∧ Hid (i ≤ x4.length ∧ k = x4.length - i ∧ wr.heap[w5.heap.size]? = some (varO dt 64 0 0 (strOfNums (dots (x4.take i)))) ∧ wr.heap[w.heap.size]? = some (varO ⟨#[]⟩ 0 0 0 ⟨#[]⟩) ∧ Below w.heap.size w wr))
        case atStart => exact ⟨0, rfl, Lib.hid ⟨Nat.zero_le _, rfl, H6.out.2.2.1, H6.out.2.1 _, H6.out.1 _⟩⟩
        case round =>
          obtain ⟨i, rfl, HI⟩ := hrel
          obtain ⟨hi, hk, hout, hres, hbw⟩ := HI.out
          clear HI r0 r1 r2 r3 r4 rf0 rf1 rf2 rf3 rf4
          obtain ⟨r0, r1, r2, r3, r4, rf0, rf1, rf2, rf3, rf4⟩ := var_cells hres
          obtain ⟨o0, o1, o2, o3, o4, of0, of1, of2, of3, of4⟩ := var_cells hout
          have HW := Lib.hid (And.intro hout (And.intro hres (And.intro hbw hk)))
          clear hk hout hres
          by_cases hil : i < x4.length
          · have hx := H6.out.2.2.2.2.1 x4[i] (List.getElem_mem hil)
            obtain ⟨ad, rfl, gx⟩ := cell_at (HCC.out wr hbw) i hil
            have hrd : rd x4 i = x4[i] := by
              unfold Go.Proofs.YtangjgclpipjdaaDoorW.PrintWords.rd
              rw [Int.toNat_natCast, List.getD_eq_getElem?_getD, List.getElem?_eq_getElem hil]
              rfl
            rw [hrd] at gx
            have hst := dots_snoc (x4.take i) x4[i]
            rw [← List.take_succ_eq_append_getElem hil] at hst
            have hsl := dots_len (x4.take i) (fun y hy => H6.out.2.2.2.2.1 y (List.mem_of_mem_take hy))
            have hdl := dec_len x4[i] hx.1 (by omega)
            rw [List.length_take] at hsl
            have hsl2 : (dots (x4.take i)).length ≤ 21000000 := by omega
            have hx0 := hx.1
            have hx1 := hx.2
            clear hrd hsl hx hbw
            generalize x4[i] = x at *
            by_cases i0 : i = 0
            · subst i0
              have hst0 : dots (x4.take (0 + 1)) = dec x.toNat := by rw [hst]; rfl
              have HST := Lib.hid hst0
              rw [Addr.add_zero'] at gx
              clear hst0 hst hsl2
              go_wp2_with fail
              have hout2 : wr.heap[w5.heap.size]? = some (varO dt 64 0 0 (strOfNums [])) := HW.out.1
              have hres2 := HW.out.2.1
              have hb2 := HW.out.2.2.1
              clear o0 o1 o2 o3 o4 of0 of1 of2 of3 of4
              obtain ⟨o0, o1, o2, o3, o4, of0, of1, of2, of3, of4⟩ := var_cells hout2
              have hgs := blk_lt hout2
              have hwx : IntKind.u64.wrap x = x := wraps_u64 _ hx0 (by omega)
              have p2 := str_app ([] : List Int) (dec x.toNat)
              have q2 : (strOfNums ([])).size + (strOfNums (dec x.toNat)).size ≤ 9223372036854775807 := by simp [strOfNums, ByteArray.size]; omega
              have HW2 := Lib.hid (And.intro hout2 (And.intro hres2 hb2))
              clear hres2 hb2
              go_region_with_o (go_at_call 34; refine (figures_any x hx0 (by omega) _).mono ?_; rintro e w8 ⟨rfl, hb8⟩; have hout8 : w8.heap[w5.heap.size]? = some (varO dt 64 0 0 (strOfNums ([]))) := blk_below (w := wr.drew) hout2 hb8; have z4 : w8.cell? ⟨w5.heap.size, 4, none⟩ = some (.string (strOfNums ([]))) := (var_cells hout8).2.2.2.2.1; have zf4 : w8.frozen? ⟨w5.heap.size, 4, none⟩ = false := blk_frozen hout8 4)
              all_goals
                have H8 := Lib.hid (And.intro (show (w8.setCell ⟨w5.heap.size, 4, none⟩ (.string (strOfNums ([] ++ dec x.toNat)))).heap[w5.heap.size]? = some (varO dt 64 0 0 (strOfNums ([] ++ dec x.toNat))) from by
                  rw [Lib.heap_setCell_same (i := 4) hout8 _]; rfl) (And.intro (show (w8.setCell ⟨w5.heap.size, 4, none⟩ (.string (strOfNums ([] ++ dec x.toNat)))).heap[w.heap.size]? = some (varO ⟨#[]⟩ 0 0 0 ⟨#[]⟩) from (Below.heap_setCell _ _ _ _ (by show w.heap.size ≠ w5.heap.size; omega)).trans (blk_below (w := wr.drew) HW2.out.2.1 hb8)) (below_set (j := 4) (v := .string (strOfNums ([] ++ dec x.toNat))) (below_step (below_drew HW2.out.2.2) hb8) (Nat.le_of_lt hs5))))
                clear hout8 hb8
                go_wp2
                go_roundg (x4.length - (0 + 1))
                case measure =>
                  have := HW.out.2.2.2
                  omega
                case rel => exact ⟨0 + 1, by go_num, Lib.hid ⟨by omega, rfl, by rw [HST.out]; exact H8.out.1, H8.out.2.1, H8.out.2.2⟩⟩
            · have hne : x4.take i ≠ [] := by
                intro e
                have := congrArg List.length e
                rw [List.length_take, List.length_nil] at this
                omega
              rw [if_neg hne] at hst
              generalize hs : dots (x4.take i) = s at *
              have p1 : strOfNums s ++ ByteArray.mk #[46] = strOfNums (s ++ [46]) := str_app s [46]
              have q1 : (strOfNums s).size + (ByteArray.mk #[46]).size ≤ 9223372036854775807 := by simp [strOfNums, ByteArray.size]; omega
              have hsl3 : s.length ≤ 21000000 := by omega
              have HST := Lib.hid hst
              clear hst hs
              go_wp2_with fail
              have hout2 : (wr.setCell ⟨w5.heap.size, 4, none⟩ (.string (strOfNums (s ++ [46])))).heap[w5.heap.size]? = some (varO dt 64 0 0 (strOfNums (s ++ [46]))) := by
                rw [Lib.heap_setCell_same (i := 4) HW.out.1 _]
                rfl
              have hres2 : (wr.setCell ⟨w5.heap.size, 4, none⟩ (.string (strOfNums (s ++ [46])))).heap[w.heap.size]? = some (varO ⟨#[]⟩ 0 0 0 ⟨#[]⟩) := (Below.heap_setCell _ _ _ _ (by show w.heap.size ≠ w5.heap.size; omega)).trans HW.out.2.1
              have hb2 := below_set (j := 4) (v := .string (strOfNums (s ++ [46]))) HW.out.2.2.1 (Nat.le_of_lt hs5)
              clear o0 o1 o2 o3 o4 of0 of1 of2 of3 of4 p1 q1
              generalize (wr.setCell ⟨w5.heap.size, 4, none⟩ (.string (strOfNums (s ++ [46])))) = W2 at *
              have hs2l : (s ++ [46]).length ≤ 21000001 := by simp; omega
              generalize hs2 : s ++ [46] = s2 at *
              obtain ⟨o0, o1, o2, o3, o4, of0, of1, of2, of3, of4⟩ := var_cells hout2
              have hgs := blk_lt hout2
              have hwx : IntKind.u64.wrap x = x := wraps_u64 _ hx0 (by omega)
              have p2 := str_app s2 (dec x.toNat)
              generalize hs3 : s2 ++ dec x.toNat = s3 at *
              have q2 : (strOfNums (s2)).size + (strOfNums (dec x.toNat)).size ≤ 9223372036854775807 := by simp [strOfNums, ByteArray.size]; omega
              have HS3 := Lib.hid (And.intro hs2 hs3)
              clear hs2 hs3
              have HW2 := Lib.hid (And.intro hout2 (And.intro hres2 hb2))
              clear hres2 hb2
              go_region_with_o (go_at_call 34; refine (figures_any x hx0 (by omega) _).mono ?_; rintro e w8 ⟨rfl, hb8⟩; have hout8 : w8.heap[w5.heap.size]? = some (varO dt 64 0 0 (strOfNums (s2))) := blk_below (w := W2.drew) hout2 hb8; have z4 : w8.cell? ⟨w5.heap.size, 4, none⟩ = some (.string (strOfNums (s2))) := (var_cells hout8).2.2.2.2.1; have zf4 : w8.frozen? ⟨w5.heap.size, 4, none⟩ = false := blk_frozen hout8 4)
              all_goals
                have H8 := Lib.hid (And.intro (show (w8.setCell ⟨w5.heap.size, 4, none⟩ (.string (strOfNums (s3)))).heap[w5.heap.size]? = some (varO dt 64 0 0 (strOfNums (s3))) from by
                  rw [Lib.heap_setCell_same (i := 4) hout8 _]; rfl) (And.intro (show (w8.setCell ⟨w5.heap.size, 4, none⟩ (.string (strOfNums (s3)))).heap[w.heap.size]? = some (varO ⟨#[]⟩ 0 0 0 ⟨#[]⟩) from (Below.heap_setCell _ _ _ _ (by show w.heap.size ≠ w5.heap.size; omega)).trans (blk_below (w := W2.drew) HW2.out.2.1 hb8)) (below_set (j := 4) (v := .string (strOfNums (s3))) (below_step (below_drew HW2.out.2.2) hb8) (Nat.le_of_lt hs5))))
                clear hout8 hb8
                go_wp2
                go_roundg (x4.length - (i + 1))
                case measure =>
                  have := HW.out.2.2.2
                  omega
                case rel => exact ⟨i + 1, by go_num, Lib.hid ⟨by omega, rfl, by rw [show dots (x4.take (i + 1)) = s3 by rw [HST.out, ← HS3.out.2, ← HS3.out.1]; simp]; exact H8.out.1, H8.out.2.1, H8.out.2.2⟩⟩
          · obtain rfl : i = x4.length := by omega
            rw [List.take_length] at o4
            by_cases h4 : x4.length = 4
            · have e4 : ((x4.length : Int) == 4) = true := beq_iff_eq.2 (by omega)
              rw [e4]
              go_wp2
              refine ov_ret rfl rfl rfl HW.out.2.1 ?_
              exact ov_some HE.out (HT.out.trans (if_pos h4)) H6.out.2.2.2.2.2.1 (setVar_below HW.out.2.2.1 (Nat.le_refl _) _ _ _ _ _)
            · have e4 : ((x4.length : Int) == 4) = false := beq_eq_false_iff_ne.2 (by omega)
              rw [e4]
              go_wp2
              refine ov_ret rfl rfl rfl HW.out.2.1 ?_
              exact ov_none HE.out (HT.out.trans (if_neg h4)) (setVar_below HW.out.2.2.1 (Nat.le_refl _) _ _ _ _ _)
      · have hT : sTold t x4 = none := by unfold sTold; rw [if_neg c2, if_neg c4, if_neg c5, if_neg c6, if_neg c64, if_neg c65]
        have HT := Lib.hid hT
        have z2 : (t == 2) = false := beq_eq_false_iff_ne.2 c2
        have z4 : (t == 4) = false := beq_eq_false_iff_ne.2 c4
        have z5 : (t == 5) = false := beq_eq_false_iff_ne.2 (by omega)
        have z128 : (t == 128) = false := beq_eq_false_iff_ne.2 (by omega)
        have z129 : (t == 129) = false := beq_eq_false_iff_ne.2 (by omega)
        have z130 : (t == 130) = false := beq_eq_false_iff_ne.2 (by omega)
        have z6 : (t == 6) = false := beq_eq_false_iff_ne.2 c6
        have z64 : (t == 64) = false := beq_eq_false_iff_ne.2 c64
        have z65 : (t == 65) = false := beq_eq_false_iff_ne.2 (by omega)
        have z66 : (t == 66) = false := beq_eq_false_iff_ne.2 (by omega)
        have z67 : (t == 67) = false := beq_eq_false_iff_ne.2 (by omega)
        have z70 : (t == 70) = false := beq_eq_false_iff_ne.2 (by omega)
        clear hT c2 c4 c5 c6 c64 c65
        go_wp2
        refine ov_ret2 rfl rfl rfl HV.out.1 ?_
        exact ov_none HE.out HT.out (HSV.out _ _ _ _ _ _)
end Go.Proofs.YtangjgclpipjdaaDoor
