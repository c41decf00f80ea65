/- The reference's plain functions for a variable: the content of a value, what is told of it. No program in sight. spec.Int's printed function comes to the bytes of marshalInt32 (32 bits). spec.Uint's printed function. spec.Length's printed function, below 2^32, at most five bytes more than needed. spec.Sealed's printed function. spec.Int, spec.Uint, spec.Sealed, spec.address: contracts out of the printed functions. -/
import Derived.Test.YtangjgclpipjdaaDoorVA
import Derived.Test.YtangjgclpipjdaaDoorVC
import Derived.Test.YtangjgclpipjdaaDoorVD
import Derived.Test.YtangjgclpipjdaaDoorPFnValuex3
import Derived.Test.YtangjgclpipjdaaDoorPFnValuex4
set_option linter.unusedVariables false
namespace Go.Proofs.YtangjgclpipjdaaDoor
open Go.RowKit Go.Proofs.YtangjgclpipjdaaDoorW.PrintWords Go.Proofs.YtangjgclpipjdaaDoorW.PrintLast Go.Proofs.YtangjgclpipjdaaDoorW.PrintMore

/-- The rounds of spec.Int. -/
def intF : Nat → Int → List Int → List Int
  | 0, _, l => l
  | k + 1, n, l => if -128 ≤ n ∧ n ≤ 127 then l else intF k (n / 256) (n / 256 % 256 :: l)
def sInt (n : Int) : List Int := intF 8 n [n % 256]
theorem intF_small (k : Nat) (n : Int) (l : List Int) (h : -128 ≤ n ∧ n ≤ 127) : intF k n l = l := by
  cases k with
  | zero => rfl
  | succ k => rw [intF, if_pos h]
theorem sInt_32 (n : Int) (h0 : -2147483648 ≤ n) (h1 : n ≤ 2147483647) : sInt n = mInt32 n := by
  have d2 : n / 256 / 256 = n / 65536 := by omega
  have d3 : n / 65536 / 256 = n / 16777216 := by omega
  unfold sInt mInt32
  by_cases c1 : -128 ≤ n ∧ n ≤ 127
  · rw [intF, if_pos c1, if_pos (by omega)]
  rw [intF, if_neg c1, if_neg (by omega)]
  by_cases c2 : -32768 ≤ n ∧ n ≤ 32767
  · rw [intF, if_pos (by omega), if_pos (by omega)]
  rw [intF, if_neg (by omega), if_neg (by omega), d2]
  by_cases c3 : -8388608 ≤ n ∧ n ≤ 8388607
  · rw [intF, if_pos (by omega), if_pos (by omega)]
  rw [intF, if_neg (by omega), if_neg (by omega), d3, intF_small _ _ _ (by omega)]

/-- The content of a value, and whether it is one of those that are asked. -/
def sCont (ty i u : Int) (tx : List Int) : List Int × Bool :=
  if ty = 2 then (sInt i, decide (-2147483648 ≤ i ∧ i < 2147483648))
  else if ty = 4 then (tx, decide (tx.length ≤ 500))
  else if ty = 5 ∨ ty = 128 ∨ ty = 129 ∨ ty = 130 then ([], true)
  else if ty = 6 then (if (sArcs tx).2 = true then (sName (sArcs tx).1, true) else ([], false))
  else if ty = 64 then sAddr tx
  else if ty = 65 ∨ ty = 66 ∨ ty = 67 then (sUint u, decide (u < 4294967296))
  else if ty = 70 then (sUint u, true)
  else ([], false)
/-- A value that is asked: its type, what it holds, its content c, and what is told: number, number without a sign, text. -/
inductive Cont (ty i u : Int) (tx : List Int) : List Int → Int → Int → List Int → Prop
  | int (h : ty = 2) (h0 : -2147483648 ≤ i) (h1 : i ≤ 2147483647) : Cont ty i u tx (mInt32 i) i 0 []
  | oct (h : ty = 4) (h0 : tx.length ≤ 500) : Cont ty i u tx tx 0 0 tx
  | null (h : ty = 5 ∨ ty = 128 ∨ ty = 129 ∨ ty = 130) : Cont ty i u tx [] 0 0 []
  | oid (h : ty = 6) (arcs : List Int) (ha : sArcs tx = (arcs, true)) : Cont ty i u tx (sName arcs) 0 0 (sDot arcs)
  | addr (h : ty = 64) (out : List Int) (ha : sAddr tx = (out, true)) : Cont ty i u tx out 0 0 tx
  | u32 (h : ty = 65 ∨ ty = 66 ∨ ty = 67) (h0 : u ≤ 4294967295) : Cont ty i u tx (sUint u) 0 u []
  | u64 (h : ty = 70) : Cont ty i u tx (sUint u) 0 u []
theorem sCont_ok (ty i u : Int) (tx c : List Int) (h : sCont ty i u tx = (c, true)) : ∃ i' u' tx', Cont ty i u tx c i' u' tx' := by
  unfold sCont at h
  by_cases h2 : ty = 2
  · rw [if_pos h2] at h
    simp only [Prod.mk.injEq, decide_eq_true_eq] at h
    obtain ⟨rfl, h3⟩ := h
    rw [sInt_32 i h3.1 (by omega)]
    exact ⟨_, _, _, .int h2 h3.1 (by omega)⟩
  rw [if_neg h2] at h
  by_cases h4 : ty = 4
  · rw [if_pos h4] at h
    simp only [Prod.mk.injEq, decide_eq_true_eq] at h
    obtain ⟨rfl, h3⟩ := h
    exact ⟨_, _, _, .oct h4 h3⟩
  rw [if_neg h4] at h
  by_cases h5 : ty = 5 ∨ ty = 128 ∨ ty = 129 ∨ ty = 130
  · rw [if_pos h5] at h
    simp only [Prod.mk.injEq] at h
    obtain ⟨rfl, -⟩ := h
    exact ⟨_, _, _, .null h5⟩
  rw [if_neg h5] at h
  by_cases h6 : ty = 6
  · rw [if_pos h6] at h
    by_cases ha : (sArcs tx).2 = true
    · rw [if_pos ha] at h
      simp only [Prod.mk.injEq] at h
      obtain ⟨rfl, -⟩ := h
      exact ⟨_, _, _, .oid h6 _ (by rw [← ha])⟩
    · rw [if_neg ha] at h; simp at h
  rw [if_neg h6] at h
  by_cases h7 : ty = 64
  · rw [if_pos h7] at h
    exact ⟨_, _, _, .addr h7 _ h⟩
  rw [if_neg h7] at h
  by_cases h8 : ty = 65 ∨ ty = 66 ∨ ty = 67
  · rw [if_pos h8] at h
    simp only [Prod.mk.injEq, decide_eq_true_eq] at h
    obtain ⟨rfl, h3⟩ := h
    exact ⟨_, _, _, .u32 h8 (by omega)⟩
  rw [if_neg h8] at h
  by_cases h9 : ty = 70
  · rw [if_pos h9] at h
    simp only [Prod.mk.injEq] at h
    obtain ⟨rfl, -⟩ := h
    exact ⟨_, _, _, .u64 h9⟩
  rw [if_neg h9] at h
  simp at h
theorem Cont.of {ty i u : Int} {tx c : List Int} {i' u' : Int} {tx' : List Int} (h : Cont ty i u tx c i' u' tx') : sCont ty i u tx = (c, true) := by
  unfold sCont
  cases h with
  | int h h0 h1 => rw [if_pos h, sInt_32 i h0 h1]; simp; omega
  | oct h h0 => rw [if_neg (by omega), if_pos h]; simp; omega
  | null h => rw [if_neg (by omega), if_neg (by omega), if_pos h]
  | oid h arcs ha => rw [if_neg (by omega), if_neg (by omega), if_neg (by omega), if_pos h, ha]; rfl
  | addr h out ha => rw [if_neg (by omega), if_neg (by omega), if_neg (by omega), if_neg (by omega), if_pos h, ha]
  | u32 h h0 => rw [if_neg (by omega), if_neg (by omega), if_neg (by omega), if_neg (by omega), if_neg (by omega), if_pos h]; simp; omega
  | u64 h => rw [if_neg (by omega), if_neg (by omega), if_neg (by omega), if_neg (by omega), if_neg (by omega), if_neg (by omega), if_pos h]

theorem mInt32_len (n : Int) : 1 ≤ (mInt32 n).length ∧ (mInt32 n).length ≤ 4 := by
  unfold mInt32
  repeat' split
  all_goals simp
theorem sUint_len (n : Int) : 1 ≤ (sUint n).length ∧ (sUint n).length ≤ 9 := by
  have := uBytes_len n
  unfold sUint
  split
  · simp only [List.length_cons]; omega
  · omega
theorem Cont.len {ty i u : Int} {tx c : List Int} {i' u' : Int} {tx' : List Int} (h : Cont ty i u tx c i' u' tx') : c.length ≤ 500 := by
  cases h with
  | int h h0 h1 => have := mInt32_len i; omega
  | oct h h0 => exact h0
  | null h => simp
  | oid h arcs ha =>
    have := sName_len arcs
    have h60 := (sArcs_text _ _ ha).1.2.1
    omega
  | addr h out ha => have := (sAddr_text _ _ ha).1; omega
  | u32 h h0 => have := sUint_len u; omega
  | u64 h => have := sUint_len u; omega
/-- What is told: number, number without a sign, text. -/
def tI (ty i : Int) : Int := if ty = 2 then i else 0
def tU (ty u : Int) : Int := if ty = 65 ∨ ty = 66 ∨ ty = 67 ∨ ty = 70 then u else 0
def tT (ty : Int) (tx : List Int) : List Int := if ty = 4 ∨ ty = 64 then tx else if ty = 6 then sDot (sArcs tx).1 else []
theorem Cont.told {ty i u : Int} {tx c : List Int} {i' u' : Int} {tx' : List Int} (h : Cont ty i u tx c i' u' tx') : i' = tI ty i ∧ u' = tU ty u ∧ tx' = tT ty tx := by
  unfold tI tU tT
  cases h with
  | int h h0 h1 => rw [if_pos h, if_neg (by omega), if_neg (by omega), if_neg (by omega)]; exact ⟨rfl, rfl, rfl⟩
  | oct h h0 => rw [if_neg (by omega), if_neg (by omega), if_pos (by omega)]; exact ⟨rfl, rfl, rfl⟩
  | null h => rw [if_neg (by omega), if_neg (by omega), if_neg (by omega), if_neg (by omega)]; exact ⟨rfl, rfl, rfl⟩
  | oid h arcs ha => rw [if_neg (by omega), if_neg (by omega), if_neg (by omega), if_pos (by omega), ha]; exact ⟨rfl, rfl, rfl⟩
  | addr h out ha => rw [if_neg (by omega), if_neg (by omega), if_pos (by omega)]; exact ⟨rfl, rfl, rfl⟩
  | u32 h h0 => rw [if_neg (by omega), if_pos (by omega), if_neg (by omega), if_neg (by omega)]; exact ⟨rfl, rfl, rfl⟩
  | u64 h => rw [if_neg (by omega), if_pos (by omega), if_neg (by omega), if_neg (by omega)]; exact ⟨rfl, rfl, rfl⟩
end Go.Proofs.YtangjgclpipjdaaDoor
set_option linter.unusedVariables false
namespace Go.Proofs.YtangjgclpipjdaaDoor
open Go.RowKit Go.Proofs.YtangjgclpipjdaaDoorW.PrintWords Go.Proofs.YtangjgclpipjdaaDoorW.PrintLast Go.Proofs.YtangjgclpipjdaaDoorW.PrintMore

theorem sInt_step (k : Nat) (x : Int) (l : List Int) (hl : l.length < 1000) (h : x < -128 ∨ 127 < x) : PFnValue.spec_Int.l0 (k + 1) x l = PFnValue.spec_Int.l0 k (x / 256) ((x / 256) % 256 :: l) := by
  simp only [PFnValue.spec_Int.l0]
  by_cases h1 : x < -128
  · rw [if_pos h1]
    simp only [Option.bind_some, List.length_cons, List.length_nil, List.cons_append, List.nil_append]
    rw [if_pos (by omega)]
  · rw [if_neg h1, if_pos (by omega)]
    simp only [Option.bind_some, List.length_cons, List.length_nil, List.cons_append, List.nil_append]
    rw [if_pos (by omega)]
theorem sInt_stop (k : Nat) (x : Int) (l : List Int) (h : -128 ≤ x ∧ x ≤ 127) : PFnValue.spec_Int.l0 (k + 1) x l = some l := by
  simp only [PFnValue.spec_Int.l0]
  rw [if_neg (by omega), if_neg (by omega)]

theorem sInt_eq (n : Int) (h0 : -2147483648 ≤ n) (h1 : n ≤ 2147483647) : PFnValue.spec_Int.f 10 n = some (mInt32 n) := by
  unfold PFnValue.spec_Int.f mInt32
  have d2 : n / 256 / 256 = n / 65536 := by omega
  have d3 : n / 65536 / 256 = n / 16777216 := by omega
  split
  · exact sInt_stop _ _ _ (by omega)
  · rw [sInt_step _ _ _ (by simp) (by omega)]
    split
    · exact sInt_stop _ _ _ (by omega)
    · rw [sInt_step _ _ _ (by simp) (by omega), d2]
      split
      · exact sInt_stop _ _ _ (by omega)
      · rw [sInt_step _ _ _ (by simp) (by omega), d3]
        exact sInt_stop _ _ _ (by omega)
end Go.Proofs.YtangjgclpipjdaaDoor
set_option linter.unusedVariables false
namespace Go.Proofs.YtangjgclpipjdaaDoor
open Go.RowKit Go.Proofs.YtangjgclpipjdaaDoorW.PrintWords Go.Proofs.YtangjgclpipjdaaDoorW.PrintLast Go.Proofs.YtangjgclpipjdaaDoorW.PrintMore

theorem sUint_step (k : Nat) (x : Int) (l : List Int) (hl : l.length < 1000) (h : 255 < x) : PFnValue.spec_Uint.l0 (k + 1) x l = PFnValue.spec_Uint.l0 k (x / 256) ((x / 256) % 256 :: l) := by
  rw [PFnValue.spec_Uint.l0, if_pos (by omega)]
  simp only [Option.bind_some, List.length_cons, List.length_nil, List.cons_append, List.nil_append]
  rw [if_pos (by omega)]
theorem sUint_stop (k : Nat) (x : Int) (l : List Int) (h : x ≤ 255) (h0 : 0 < l.length) (hl : l.length < 1000) : PFnValue.spec_Uint.l0 (k + 1) x l = some (if rd l 0 > 127 then 0 :: l else l) := by
  rw [PFnValue.spec_Uint.l0, if_neg (by omega), if_pos (by omega)]
  split
  · simp only [Option.bind_some, List.length_cons, List.length_nil, List.cons_append, List.nil_append]
    rw [if_pos (by omega)]
  · rfl

theorem sUint_eq (n : Int) (h0 : 0 ≤ n) (h1 : n ≤ 18446744073709551615) : PFnValue.spec_Uint.f 10 n = some (sUint n) := by
  unfold PFnValue.spec_Uint.f sUint uBytes
  have e0 : n ≤ 255 → n % 256 = n := by omega
  have e1 : n / 256 / 256 = n / 65536 := by omega
  have e2 : n / 65536 / 256 = n / 16777216 := by omega
  have e3 : n / 16777216 / 256 = n / 4294967296 := by omega
  have e4 : n / 4294967296 / 256 = n / 1099511627776 := by omega
  have e5 : n / 1099511627776 / 256 = n / 281474976710656 := by omega
  have e6 : n / 281474976710656 / 256 = n / 72057594037927936 := by omega
  by_cases c1 : n ≤ 255
  · simp only [if_pos c1]
    rw [sUint_stop _ _ _ c1 (by simp) (by simp), e0 c1]
  simp only [if_neg c1]
  rw [sUint_step _ _ _ (by simp) (by omega)]
  by_cases c2 : n ≤ 65535
  · simp only [if_pos c2]
    rw [sUint_stop _ _ _ (by omega) (by simp) (by simp), show n / 256 % 256 = n / 256 by omega]
  simp only [if_neg c2]
  rw [sUint_step _ _ _ (by simp) (by omega), e1]
  by_cases c3 : n ≤ 16777215
  · simp only [if_pos c3]
    rw [sUint_stop _ _ _ (by omega) (by simp) (by simp), show n / 65536 % 256 = n / 65536 by omega]
  simp only [if_neg c3]
  rw [sUint_step _ _ _ (by simp) (by omega), e2]
  by_cases c4 : n ≤ 4294967295
  · simp only [if_pos c4]
    rw [sUint_stop _ _ _ (by omega) (by simp) (by simp), show n / 16777216 % 256 = n / 16777216 by omega]
  simp only [if_neg c4]
  rw [sUint_step _ _ _ (by simp) (by omega), e3]
  by_cases c5 : n ≤ 1099511627775
  · simp only [if_pos c5]
    rw [sUint_stop _ _ _ (by omega) (by simp) (by simp), show n / 4294967296 % 256 = n / 4294967296 by omega]
  simp only [if_neg c5]
  rw [sUint_step _ _ _ (by simp) (by omega), e4]
  by_cases c6 : n ≤ 281474976710655
  · simp only [if_pos c6]
    rw [sUint_stop _ _ _ (by omega) (by simp) (by simp), show n / 1099511627776 % 256 = n / 1099511627776 by omega]
  simp only [if_neg c6]
  rw [sUint_step _ _ _ (by simp) (by omega), e5]
  by_cases c7 : n ≤ 72057594037927935
  · simp only [if_pos c7]
    rw [sUint_stop _ _ _ (by omega) (by simp) (by simp), show n / 281474976710656 % 256 = n / 281474976710656 by omega]
  simp only [if_neg c7]
  rw [sUint_step _ _ _ (by simp) (by omega), e6, sUint_stop _ _ _ (by omega) (by simp) (by simp), show n / 72057594037927936 % 256 = n / 72057594037927936 by omega]
end Go.Proofs.YtangjgclpipjdaaDoor
set_option linter.unusedVariables false
namespace Go.Proofs.YtangjgclpipjdaaDoor
open Go.RowKit Go.Proofs.YtangjgclpipjdaaDoorW.PrintWords Go.Proofs.YtangjgclpipjdaaDoorW.PrintLast Go.Proofs.YtangjgclpipjdaaDoorW.PrintMore

theorem len_l1 (d : Nat) : ∀ (k : Nat) (x : List Int) (wide i : Nat), i + d = wide → wide ≤ 100 → x.length + d ≤ 100 → PFnValue.spec_Length.l1 (k + d + 1) x wide i = some (((128 + (x.length + d : Nat) : Int)) :: (List.replicate d 0 ++ x)) := by
  induction d with
  | zero =>
    intro k x wide i h hw hx
    simp only [PFnValue.spec_Length.l1]
    rw [if_neg (by omega)]
    simp only [Option.bind_some, List.length_cons, List.length_nil, List.cons_append, List.nil_append, List.replicate_zero]
    rw [if_pos (by omega)]
    have e : wrap64 (128 + (x.length : Int)) % 256 = 128 + ((x.length + 0 : Nat) : Int) := by unfold wrap64; omega
    rw [e]
  | succ d ih =>
    intro k x wide i h hw hx
    rw [show k + (d + 1) + 1 = (k + d + 1) + 1 by omega, PFnValue.spec_Length.l1]
    rw [if_pos (by omega)]
    simp only [Option.bind_some, List.length_cons, List.length_nil, List.cons_append, List.nil_append]
    rw [if_pos (by omega)]
    have e : wrap64 ((i : Int) + 1) = ((i + 1 : Nat) : Int) := by unfold wrap64; omega
    rw [e, ih k (0 :: x) wide (i + 1) (by omega) hw (by simp; omega)]
    have e2 : List.replicate d 0 ++ 0 :: x = List.replicate (d + 1) (0 : Int) ++ x := by
      rw [List.replicate_succ', List.append_assoc]; rfl
    rw [e2]
    simp only [List.length_cons]
    rw [show x.length + 1 + d = x.length + (d + 1) by omega]

theorem len_l0_stop (k : Nat) (n wide : Int) (x : List Int) (h : n ≤ 0) : PFnValue.spec_Length.l0 (k + 1) n wide x = PFnValue.spec_Length.l1 k x wide 0 := by
  simp only [PFnValue.spec_Length.l0]
  rw [if_neg (by omega)]
theorem len_l0_step (k : Nat) (n wide : Int) (x : List Int) (h : 0 < n) (hx : x.length ≤ 100) : PFnValue.spec_Length.l0 (k + 1) n wide x = PFnValue.spec_Length.l0 k (n / 256) wide (n % 256 :: x) := by
  simp only [PFnValue.spec_Length.l0]
  rw [if_pos (by omega)]
  simp only [Option.bind_some, List.length_cons, List.length_nil, List.cons_append, List.nil_append]
  rw [if_pos (by omega)]

theorem len_l0 (n : Int) (wide : Nat) (hw : wide ≤ 5) (h1 : n ≤ 4294967295) : PFnValue.spec_Length.l0 20 n wide [] = some (((128 + ((lenBytes n).length + wide : Nat) : Int)) :: (List.replicate wide 0 ++ lenBytes n)) := by
  have d2 : n / 256 / 256 = n / 65536 := by omega
  have d3 : n / 65536 / 256 = n / 16777216 := by omega
  have fin : ∀ (j : Nat) (x : List Int), x.length ≤ 4 → wide + 1 ≤ j → PFnValue.spec_Length.l1 j x wide 0 = some (((128 + (x.length + wide : Nat) : Int)) :: (List.replicate wide 0 ++ x)) := by
    intro j x hx hj
    have := len_l1 wide (j - wide - 1) x wide 0 (by omega) (by omega) (by omega)
    rw [show j - wide - 1 + wide + 1 = j by omega] at this
    exact this
  unfold lenBytes
  split
  · rw [len_l0_stop _ _ _ _ (by omega), fin _ _ (by simp) (by omega)]
  rw [len_l0_step _ _ _ _ (by omega) (by simp)]
  split
  · rw [len_l0_stop _ _ _ _ (by omega), fin _ _ (by simp) (by omega), show n % 256 = n by omega]
  rw [len_l0_step _ _ _ _ (by omega) (by simp), d2]
  split
  · rw [len_l0_stop _ _ _ _ (by omega), fin _ _ (by simp) (by omega), show n / 256 % 256 = n / 256 by omega]
  rw [len_l0_step _ _ _ _ (by omega) (by simp), d3]
  split
  · rw [len_l0_stop _ _ _ _ (by omega), fin _ _ (by simp) (by omega), show n / 65536 % 256 = n / 65536 by omega]
  rw [len_l0_step _ _ _ _ (by omega) (by simp), len_l0_stop _ _ _ _ (by omega), fin _ _ (by simp) (by omega), show n / 16777216 % 256 = n / 16777216 by omega]

theorem sLen_eq (n : Int) (wide : Nat) (hw : wide ≤ 5) (h0 : 0 ≤ n) (h1 : n ≤ 4294967295) : PFnValue.spec_Length.f 21 n wide = some (sLen n wide) := by
  unfold PFnValue.spec_Length.f sLen
  by_cases c : n < 128
  · rw [if_pos c]
    by_cases c2 : wide = 0
    · rw [if_pos ⟨c, c2⟩]
      subst c2
      simp only [PFnValue.spec_Length.j0]
      rw [if_pos (by rfl), show n % 256 = n by omega]
    · rw [if_neg (by omega)]
      simp only [PFnValue.spec_Length.j0]
      rw [if_neg (by simp; omega)]
      exact len_l0 n wide hw h1
  · rw [if_neg c, if_neg (by omega)]
    simp only [PFnValue.spec_Length.j0]
    rw [if_neg (by simp)]
    exact len_l0 n wide hw h1
end Go.Proofs.YtangjgclpipjdaaDoor
set_option linter.unusedVariables false
namespace Go.Proofs.YtangjgclpipjdaaDoor
open Go.RowKit Go.Proofs.YtangjgclpipjdaaDoorW.PrintWords Go.Proofs.YtangjgclpipjdaaDoorW.PrintLast Go.Proofs.YtangjgclpipjdaaDoorW.PrintMore

theorem sSealed_eq (tag : Int) (c : List Int) (wide : Nat) (hw : wide ≤ 5) (h : c.length ≤ 4294967295) : PFnValue.spec_Sealed.f 21 tag c wide = some (sSealed tag c wide) := by
  unfold PFnValue.spec_Sealed.f sSealed
  have hl := sLen_len c.length wide
  rw [sLen_eq c.length wide hw (by omega) (by omega)]
  simp only [Option.bind_some, List.length_cons, List.length_nil]
  rw [if_pos (by omega)]
  simp only [List.length_append, List.length_cons, List.length_nil]
  rw [if_pos (by omega)]
  simp
end Go.Proofs.YtangjgclpipjdaaDoor
set_option linter.unusedVariables false
namespace Go.Proofs.YtangjgclpipjdaaDoor
open Go.RowKit Go.Proofs.YtangjgclpipjdaaDoorW.PrintWords Go.Proofs.YtangjgclpipjdaaDoorW.PrintLast Go.Proofs.YtangjgclpipjdaaDoorW.PrintMore

/-- A call of the printed kind: bytes of the call's own. -/
def GotB (w w' : World) (xs : List Int) (e : Ending) : Prop := ∃ v, e = .returned v ∧ OwnB w' w.heap.size v xs ∧ Below w.heap.size w w'
/-- ([]byte, bool). -/
def GotD (w w' : World) (R : List Int × Bool) (e : Ending) : Prop := ∃ v, e = .returned (.tuple #[v, .bool R.2]) ∧ OwnB w' w.heap.size v R.1 ∧ Below w.heap.size w w'

theorem sInt_all (k : Nat) : ∀ (x : Int) (l : List Int), -128 * 256 ^ k ≤ x → x < 128 * 256 ^ k → l.length + k ≤ 100 → PFnValue.spec_Int.l0 (k + 1) x l = some (intF k x l) := by
  induction k with
  | zero =>
    intro x l h0 h1 hl
    simp only [Int.pow_zero] at h0 h1
    exact sInt_stop _ _ _ (by omega)
  | succ k ih =>
    intro x l h0 h1 hl
    rw [intF]
    split
    · exact sInt_stop _ _ _ (by omega)
    · rw [sInt_step _ _ _ (by omega) (by omega)]
      rw [Int.pow_succ] at h0 h1
      exact ih _ _ (by omega) (by omega) (by simp; omega)
theorem specInt_any (n : Int) (h0 : -9223372036854775808 ≤ n) (h1 : n ≤ 9223372036854775807) (w : World) : Calls Tryd.prog 42 #[.int .i64 n] w fun e w' => GotB w w' (sInt n) e :=
  PFnValue.spec_Int.calls 9 n (sInt n) w (sInt_all 8 n [n % 256] (by omega) (by omega) (by simp))
theorem specUint_any (n : Int) (h0 : 0 ≤ n) (h1 : n ≤ 18446744073709551615) (w : World) : Calls Tryd.prog 46 #[.int .u64 n] w fun e w' => GotB w w' (sUint n) e :=
  PFnValue.spec_Uint.calls 10 n (sUint n) w (sUint_eq n h0 h1)
theorem specSealed_any (tag : Int) (A : Option Addr) (c : Nat) (xs : List Int) (wide : Nat) (hw : wide ≤ 5) (hc : xs.length ≤ c) (hl : xs.length ≤ 4294967295) (w : World) (hr : Kd.C (Kd.int .u8) w A xs.length xs) :
    Calls Tryd.prog 23 #[.int .i64 tag, .slice A xs.length c, .int .i64 wide] w fun e w' => GotB w w' (sSealed tag xs wide) e :=
  PFnValue.spec_Sealed.calls 21 tag A c xs wide (sSealed tag xs wide) w hr hc (sSealed_eq tag xs wide hw hl)

theorem addr_l0 (t : ByteArray) (hz : t.size ≤ 2147483647) (m : Nat) : ∀ (i k : Nat) (out : List Int) (n : Int) (sm : Bool), i + m = t.size → 0 ≤ n → n ≤ 255 → 3 * m + 4 ≤ k → out.length ≤ i → PFnValue.spec_address.l0 k t out n sm i = some (finD (addrGo ((bs t).drop i) out n sm)) := by
  induction m with
  | zero =>
    intro i k out n sm hi n0 n1 hk ho
    obtain ⟨k, rfl⟩ : ∃ j, k = j + 3 := ⟨k - 3, by omega⟩
    have hd : (bs t).drop i = [] := List.drop_of_length_le (by rw [bs_length]; omega)
    have e1 : wrap64 ((i : Int) + 1) = ((i + 1 : Nat) : Int) := by unfold wrap64; omega
    rw [hd, PFnValue.spec_address.l0, if_pos (by omega), if_pos (by omega), PFnValue.spec_address.j1, if_pos rfl]
    simp only [addrGo]
    cases sm with
    | false => simp [finD]
    | true =>
      rw [if_pos rfl]
      by_cases h4 : out.length = 4
      · rw [if_pos (by omega), if_neg (by simp [h4])]; rfl
      · rw [if_neg (by omega), if_pos (by omega), if_pos (by simp [h4]), e1, PFnValue.spec_address.l0, if_neg (by omega), show n % 256 = n by omega]
        simp only [finD]
        congr 2
        rw [Bool.eq_iff_iff]
        simp only [beq_iff_eq, decide_eq_true_eq]
        omega
  | succ m ih =>
    intro i k out n sm hi n0 n1 hk ho
    obtain ⟨k, rfl⟩ : ∃ j, k = j + 3 := ⟨k - 3, by omega⟩
    obtain ⟨c, l, hcl⟩ : ∃ c l, (bs t).drop i = c :: l := ⟨_, _, List.drop_eq_getElem_cons (by rw [bs_length]; omega)⟩
    obtain ⟨hit, hc, hdr⟩ := char_at t i c l hcl
    have hbt : bt t (i : Int) = c := by
      unfold bt
      rw [dif_pos (by simpa using hit)]
      exact hc
    have hc0 : 0 ≤ c := by omega
    have hc1 : c ≤ 255 := by have := (t[i]'hit).toNat_lt; omega
    have e1 : wrap64 ((i : Int) + 1) = ((i + 1 : Nat) : Int) := by unfold wrap64; omega
    rw [hcl, PFnValue.spec_address.l0, if_pos (by omega), if_neg (by omega), if_pos (by omega), if_pos (by omega), hbt, PFnValue.spec_address.j1]
    simp only [addrGo]
    by_cases c46 : c = 46
    · subst c46
      rw [if_pos (by rfl), if_pos rfl]
      cases sm with
      | false => simp [finD]
      | true =>
        rw [if_pos rfl]
        by_cases h4 : out.length = 4
        · rw [if_pos (by omega), if_neg (by simp [h4])]; rfl
        · rw [if_neg (by omega), if_pos (by omega), if_pos (by simp [h4]), e1, show n % 256 = n by omega, ih (i + 1) _ _ 0 false (by omega) (by omega) (by omega) (by omega) (by simp; omega), hdr]
    · rw [if_neg (by simpa using c46), if_neg c46, if_pos (by omega), if_pos (by omega), hbt]
      by_cases c48 : c < 48
      · rw [if_pos c48, if_pos (.inl c48), PFnValue.spec_address.j2, if_pos rfl]; rfl
      rw [if_neg c48]
      by_cases c57 : c > 57
      · rw [if_pos c57, if_pos (.inr (.inl c57)), PFnValue.spec_address.j2, if_pos rfl]; rfl
      rw [if_neg c57]
      have e2 : wrap64 (wrap64 (10 * n) + (c - 48) % 256) = 10 * n + (c - 48) := by unfold wrap64; omega
      have go : ∀ b : Bool, (b = true ↔ (sm = true ∧ n = 0)) → PFnValue.spec_address.j2 (k + 1) t out n i b = some (finD (if c < 48 ∨ c > 57 ∨ sm = true ∧ n = 0 ∨ 10 * n + (c - 48) > 255 then none else addrGo l out (10 * n + (c - 48)) true)) := by
        intro b hb
        rw [PFnValue.spec_address.j2]
        by_cases hbt' : b = true
        · rw [if_pos hbt', if_pos (.inr (.inr (.inl (hb.1 hbt'))))]; rfl
        · rw [if_neg hbt', if_pos (by omega), if_pos (by omega), hbt, e2, e1]
          by_cases hbig : 10 * n + (c - 48) > 255
          · rw [if_pos hbig, if_pos (.inr (.inr (.inr hbig)))]; rfl
          · rw [if_neg hbig, if_neg (by rintro (h | h | h | h); exact c48 h; exact c57 h; exact hbt' (hb.2 h); exact hbig h), ih (i + 1) _ out _ true (by omega) (by omega) (by omega) (by omega) (by omega), hdr]
      cases sm with
      | true => rw [if_pos rfl]; exact go (n == 0) (by simp)
      | false => rw [if_neg (by simp)]; exact go false (by simp)
theorem specAddr_any (t : ByteArray) (hz : t.size ≤ 2147483647) (w : World) : Calls Tryd.prog 45 #[.string t] w fun e w' => GotD w w' (sAddr (bs t)) e :=
  PFnValue.spec_address.calls (3 * t.size + 4) t (sAddr (bs t)).1 (sAddr (bs t)).2 w (addr_l0 t hz t.size 0 _ [] 0 false (by omega) (by omega) (by omega) (by omega) (by simp))
end Go.Proofs.YtangjgclpipjdaaDoor
