/- marshalInt32: what it answers at 32 bits. encoding/binary: bigEndian.PutUint64, PutUint32 into a whole block of the call's own: what the block holds then; nothing else has turned. marshalUint64, marshalUint32: the bytes of a number without a sign. The reference's functions, as plain Lean. The length of a sealed content is read back: by parseLength's plain function. -/
import Derived.Test.YtangjgclpipjdaaDoorProg
import Derived.Test.YtangjgclpipjdaaDoorVA
import Derived.Test.YtangjgclpipjdaaDoorVB
set_option linter.unusedVariables false
namespace Go.Proofs.YtangjgclpipjdaaDoor
open Go.RowKit Go.Proofs.YtangjgclpipjdaaDoorW.PrintWords Go.Proofs.YtangjgclpipjdaaDoorW.PrintLast Go.Proofs.YtangjgclpipjdaaDoorW.PrintMore

theorem bits_mask7 (n : Int) : bits .and .u32 (n % 4294967296) 4294967168 = n % 4294967296 / 128 * 128 := by
  rw [u32_and _ _ (by omega) (by omega) (by omega) (by omega)]
  rw [and_mask _ _ 7 (by omega) (by omega) (by rfl)]
  omega
theorem bits_mask15 (n : Int) : bits .and .u32 (n % 4294967296) 4294934528 = n % 4294967296 / 32768 * 32768 := by
  rw [u32_and _ _ (by omega) (by omega) (by omega) (by omega)]
  rw [and_mask _ _ 15 (by omega) (by omega) (by rfl)]
  omega
theorem bits_mask23 (n : Int) : bits .and .u32 (n % 4294967296) 4286578688 = n % 4294967296 / 8388608 * 8388608 := by
  rw [u32_and _ _ (by omega) (by omega) (by omega) (by omega)]
  rw [and_mask _ _ 23 (by omega) (by omega) (by rfl)]
  omega

def mInt32 (n : Int) : List Int :=
  if -128 ≤ n ∧ n ≤ 127 then [n % 256] else if -32768 ≤ n ∧ n ≤ 32767 then [n / 256 % 256, n % 256]
  else if -8388608 ≤ n ∧ n ≤ 8388607 then [n / 65536 % 256, n / 256 % 256, n % 256] else [n / 16777216 % 256, n / 65536 % 256, n / 256 % 256, n % 256]

theorem mInt32_1 (n : Int) (h0 : -2147483648 ≤ n) (h1 : n ≤ 2147483647) (h : bits .and .u32 (n % 4294967296) 4294967168 = 0 ∨ bits .and .u32 (n % 4294967296) 4294967168 = 4294967168) : mInt32 n = [n % 256] := by
  rw [bits_mask7] at h
  unfold mInt32
  rw [if_pos (by omega)]
theorem mInt32_2 (n : Int) (h0 : -2147483648 ≤ n) (h1 : n ≤ 2147483647) (g : ¬ (bits .and .u32 (n % 4294967296) 4294967168 = 0 ∨ bits .and .u32 (n % 4294967296) 4294967168 = 4294967168))
    (h : bits .and .u32 (n % 4294967296) 4294934528 = 0 ∨ bits .and .u32 (n % 4294967296) 4294934528 = 4294934528) : mInt32 n = [n % 4294967296 / 256 % 256, n % 256] := by
  rw [bits_mask7] at g
  rw [bits_mask15] at h
  unfold mInt32
  rw [if_neg (by omega), if_pos (by omega)]
  congr 1
  omega
theorem mInt32_3 (n : Int) (h0 : -2147483648 ≤ n) (h1 : n ≤ 2147483647)
    (g : ¬ (bits .and .u32 (n % 4294967296) 4294934528 = 0 ∨ bits .and .u32 (n % 4294967296) 4294934528 = 4294934528))
    (h : bits .and .u32 (n % 4294967296) 4286578688 = 0 ∨ bits .and .u32 (n % 4294967296) 4286578688 = 4286578688) : mInt32 n = [n % 4294967296 / 65536 % 256, n % 4294967296 / 256 % 256, n % 256] := by
  rw [bits_mask15] at g
  rw [bits_mask23] at h
  unfold mInt32
  rw [if_neg (by omega), if_neg (by omega), if_pos (by omega)]
  congr 1
  · omega
  · congr 1
    omega
theorem mInt32_4 (n : Int) (h0 : -2147483648 ≤ n) (h1 : n ≤ 2147483647)
    (h : ¬ (bits .and .u32 (n % 4294967296) 4286578688 = 0 ∨ bits .and .u32 (n % 4294967296) 4286578688 = 4286578688)) : mInt32 n = [n % 4294967296 / 16777216, n % 4294967296 / 65536 % 256, n % 4294967296 / 256 % 256, n % 256] := by
  rw [bits_mask23] at h
  unfold mInt32
  rw [if_neg (by omega), if_neg (by omega), if_neg (by omega)]
  congr 1
  · omega
  · congr 1
    · omega
    · congr 1
      omega

set_option maxHeartbeats 400000 in
theorem marshalInt32_any (n : Int) (w : World) (h0 : -2147483648 ≤ n) (h1 : n ≤ 2147483647) :
    Calls Tryd.prog 60 #[.int .i64 n] w fun e w' => GotE w w' (mInt32 n) e := by
  have f1 := Lib.hid (mInt32_1 n h0 h1)
  have f2 := Lib.hid (mInt32_2 n h0 h1)
  have f3 := Lib.hid (mInt32_3 n h0 h1)
  have f4 := Lib.hid (mInt32_4 n h0 h1)
  go_enter Tryd.func60, Tryd.ntmps60
  go_wp2
  all_goals
    try simp only [beq_iff_eq, beq_eq_false_iff_ne] at *
    go_ret2
    first
    | exact gotE_lit w _ [_] (f1.out (by omega)) (by simp) rfl
    | exact gotE_lit w _ [_, _] (f2.out (by omega) (by omega)) (by simp) rfl
    | exact gotE_lit w _ [_, _, _] (f3.out (by omega) (by omega)) (by simp) rfl
    | exact gotE_lit w _ [_, _, _, _] (f4.out (by omega)) (by simp) rfl
end Go.Proofs.YtangjgclpipjdaaDoor
set_option linter.unusedVariables false
namespace Go.Proofs.YtangjgclpipjdaaDoor
open Go.RowKit Go.Proofs.YtangjgclpipjdaaDoorW.PrintWords Go.Proofs.YtangjgclpipjdaaDoorW.PrintLast Go.Proofs.YtangjgclpipjdaaDoorW.PrintMore

def be64 (n : Int) : List Int := [n / 72057594037927936, n / 281474976710656 % 256, n / 1099511627776 % 256, n / 4294967296 % 256, n / 16777216 % 256, n / 65536 % 256, n / 256 % 256, n % 256]
def be32 (n : Int) : List Int := [n / 16777216, n / 65536 % 256, n / 256 % 256, n % 256]

theorem cells8 {cur : Array Value} (h : cur.size = 8) : ∃ a b c d e f g i, cur = #[a, b, c, d, e, f, g, i] := by
  obtain ⟨l⟩ := cur
  match l, h with
  | [a, b, c, d, e, f, g, i], _ => exact ⟨_, _, _, _, _, _, _, _, rfl⟩
theorem cells4 {cur : Array Value} (h : cur.size = 4) : ∃ a b c d, cur = #[a, b, c, d] := by
  obtain ⟨l⟩ := cur
  match l, h with
  | [a, b, c, d], _ => exact ⟨_, _, _, _, rfl⟩

theorem grown_trans {w w1 w2 : World} {row : Option Nat} (h : w.grownBy w1 row) (k : w1.grownBy w2 row) : w.grownBy w2 row :=
  ⟨k.os.trans h.os, k.tape.trans h.tape, k.output.trans h.output, Nat.le_trans h.size k.size, fun b hb hne => (k.block b (Nat.lt_of_lt_of_le hb h.size) hne).trans (h.block b hb hne)⟩
theorem grown_set {w W : World} {g j : Nat} {u : Value} (h : w.grownBy W (some g)) : w.grownBy (W.setCell ⟨g, j, none⟩ u) (some g) :=
  ⟨h.os, h.tape, h.output, by simpa [World.setCell] using h.size, fun k hk hne => (Below.heap_setCell _ _ _ _ (by intro e; exact hne (by rw [e]))).trans (h.block k hk hne)⟩

theorem set8 {w : World} {g t : Nat} {c0 c1 c2 c3 c4 c5 c6 c7 : Value} (h : w.heap[g]? = some (.cells #[c0, c1, c2, c3, c4, c5, c6, c7] t (0, 0))) (x0 x1 x2 x3 x4 x5 x6 x7 : Value) :
    ((((((((w.setCell ⟨g, 0, none⟩ x0).setCell ⟨g, 1, none⟩ x1).setCell ⟨g, 2, none⟩ x2).setCell ⟨g, 3, none⟩ x3).setCell ⟨g, 4, none⟩ x4).setCell ⟨g, 5, none⟩ x5).setCell ⟨g, 6, none⟩ x6).setCell ⟨g, 7, none⟩ x7).heap[g]? = some (.cells #[x0, x1, x2, x3, x4, x5, x6, x7] t (0, 0)) := by
  have b := blk_set (blk_set (blk_set (blk_set (blk_set (blk_set (blk_set (blk_set h 0 x0) 1 x1) 2 x2) 3 x3) 4 x4) 5 x5) 6 x6) 7 x7
  simpa only [List.setIfInBounds_toArray, List.set_cons_zero, List.set_cons_succ] using b
theorem set4 {w : World} {g t : Nat} {c0 c1 c2 c3 : Value} (h : w.heap[g]? = some (.cells #[c0, c1, c2, c3] t (0, 0))) (x0 x1 x2 x3 : Value) :
    ((((w.setCell ⟨g, 0, none⟩ x0).setCell ⟨g, 1, none⟩ x1).setCell ⟨g, 2, none⟩ x2).setCell ⟨g, 3, none⟩ x3).heap[g]? = some (.cells #[x0, x1, x2, x3] t (0, 0)) := by
  have b := blk_set (blk_set (blk_set (blk_set h 0 x0) 1 x1) 2 x2) 3 x3
  simpa only [List.setIfInBounds_toArray, List.set_cons_zero, List.set_cons_succ] using b
set_option maxHeartbeats 800000 in
theorem PutUint64_any (n : Int) (h0 : 0 ≤ n) (h1 : n ≤ 18446744073709551615) (g t : Nat) (cur : Array Value) (w : World) (hg : w.heap[g]? = some (.cells cur t (0, 0))) (hs : cur.size = 8) :
    Calls Tryd.prog 94 #[.agg #[], .slice (some ⟨g, 0, none⟩) 8 8, .int .u64 n] w fun e w' => e = .returned (.tuple #[]) ∧ w'.heap[g]? = some (.cells ((be64 n).map (Value.int .u8)).toArray t (0, 0)) ∧ w.grownBy w' (some g) := by
  obtain ⟨c0, c1, c2, c3, c4, c5, c6, c7, rfl⟩ := cells8 hs
  have k0 := blk_cell hg 0
  have k1 := blk_cell hg 1
  have k2 := blk_cell hg 2
  have k3 := blk_cell hg 3
  have k4 := blk_cell hg 4
  have k5 := blk_cell hg 5
  have k6 := blk_cell hg 6
  have k7 := blk_cell hg 7
  have z0 := blk_frozen hg 0
  have z1 := blk_frozen hg 1
  have z2 := blk_frozen hg 2
  have z3 := blk_frozen hg 3
  have z4 := blk_frozen hg 4
  have z5 := blk_frozen hg 5
  have z6 := blk_frozen hg 6
  have z7 := blk_frozen hg 7
  simp at k0 k1 k2 k3 k4 k5 k6 k7
  have HG := Lib.hid hg
  have hlt := blk_lt hg
  clear hg
  go_enter Tryd.func94, Tryd.ntmps94
  go_wp2
  go_end0
  refine ⟨rfl, ?_, ?_⟩
  · exact blk_alloc (set8 HG.out _ _ _ _ _ _ _ _) _
  · refine grown_trans ?_ (World.grownBy_alloc _ _ _)
    exact grown_set (grown_set (grown_set (grown_set (grown_set (grown_set (grown_set (grown_set (World.grownBy.refl _ _))))))))

set_option maxHeartbeats 800000 in
theorem PutUint32_any (n : Int) (h0 : 0 ≤ n) (h1 : n ≤ 4294967295) (g t : Nat) (cur : Array Value) (w : World) (hg : w.heap[g]? = some (.cells cur t (0, 0))) (hs : cur.size = 4) :
    Calls Tryd.prog 93 #[.agg #[], .slice (some ⟨g, 0, none⟩) 4 4, .int .u32 n] w fun e w' => e = .returned (.tuple #[]) ∧ w'.heap[g]? = some (.cells ((be32 n).map (Value.int .u8)).toArray t (0, 0)) ∧ w.grownBy w' (some g) := by
  obtain ⟨c0, c1, c2, c3, rfl⟩ := cells4 hs
  have k0 := blk_cell hg 0
  have k1 := blk_cell hg 1
  have k2 := blk_cell hg 2
  have k3 := blk_cell hg 3
  have z0 := blk_frozen hg 0
  have z1 := blk_frozen hg 1
  have z2 := blk_frozen hg 2
  have z3 := blk_frozen hg 3
  simp at k0 k1 k2 k3
  have HG := Lib.hid hg
  have hlt := blk_lt hg
  clear hg
  go_enter Tryd.func93, Tryd.ntmps93
  go_wp2
  go_end0
  refine ⟨rfl, ?_, ?_⟩
  · exact blk_alloc (set4 HG.out _ _ _ _) _
  · refine grown_trans ?_ (World.grownBy_alloc _ _ _)
    exact grown_set (grown_set (grown_set (grown_set (World.grownBy.refl _ _))))
end Go.Proofs.YtangjgclpipjdaaDoor
set_option linter.unusedVariables false
namespace Go.Proofs.YtangjgclpipjdaaDoor
open Go.RowKit Go.Proofs.YtangjgclpipjdaaDoorW.PrintWords Go.Proofs.YtangjgclpipjdaaDoorW.PrintLast Go.Proofs.YtangjgclpipjdaaDoorW.PrintMore

/-- The bytes of n, as few as it takes, at least one. -/
def uBytes (n : Int) : List Int :=
  if n ≤ 255 then [n] else if n ≤ 65535 then [n / 256, n % 256] else if n ≤ 16777215 then [n / 65536, n / 256 % 256, n % 256]
  else if n ≤ 4294967295 then [n / 16777216, n / 65536 % 256, n / 256 % 256, n % 256]
  else if n ≤ 1099511627775 then [n / 4294967296, n / 16777216 % 256, n / 65536 % 256, n / 256 % 256, n % 256]
  else if n ≤ 281474976710655 then [n / 1099511627776, n / 4294967296 % 256, n / 16777216 % 256, n / 65536 % 256, n / 256 % 256, n % 256]
  else if n ≤ 72057594037927935 then [n / 281474976710656, n / 1099511627776 % 256, n / 4294967296 % 256, n / 16777216 % 256, n / 65536 % 256, n / 256 % 256, n % 256]
  else [n / 72057594037927936, n / 281474976710656 % 256, n / 1099511627776 % 256, n / 4294967296 % 256, n / 16777216 % 256, n / 65536 % 256, n / 256 % 256, n % 256]
def sUint (n : Int) : List Int := if rd (uBytes n) 0 > 127 then 0 :: uBytes n else uBytes n

/-- What is left behind zeros. -/
def trim0 : List Int → List Int
  | [] => []
  | x :: l => if x = 0 then trim0 l else x :: l

theorem trim_be64 (n : Int) (h0 : 0 ≤ n) (h1 : n ≤ 18446744073709551615) : trim0 (be64 n) = if n = 0 then [] else uBytes n := by
  unfold be64 uBytes
  by_cases c0 : n = 0
  · subst c0; rfl
  rw [if_neg c0]
  by_cases c1 : n ≤ 255
  · rw [if_pos c1]
    simp only [trim0]
    rw [if_pos (by omega), if_pos (by omega), if_pos (by omega), if_pos (by omega), if_pos (by omega), if_pos (by omega), if_pos (by omega), if_neg (by omega)]
    congr 1; omega
  rw [if_neg c1]
  by_cases c2 : n ≤ 65535
  · rw [if_pos c2]
    simp only [trim0]
    rw [if_pos (by omega), if_pos (by omega), if_pos (by omega), if_pos (by omega), if_pos (by omega), if_pos (by omega), if_neg (by omega)]
    congr 1; omega
  rw [if_neg c2]
  by_cases c3 : n ≤ 16777215
  · rw [if_pos c3]
    simp only [trim0]
    rw [if_pos (by omega), if_pos (by omega), if_pos (by omega), if_pos (by omega), if_pos (by omega), if_neg (by omega)]
    congr 1; omega
  rw [if_neg c3]
  by_cases c4 : n ≤ 4294967295
  · rw [if_pos c4]
    simp only [trim0]
    rw [if_pos (by omega), if_pos (by omega), if_pos (by omega), if_pos (by omega), if_neg (by omega)]
    congr 1; omega
  rw [if_neg c4]
  by_cases c5 : n ≤ 1099511627775
  · rw [if_pos c5]
    simp only [trim0]
    rw [if_pos (by omega), if_pos (by omega), if_pos (by omega), if_neg (by omega)]
    congr 1; omega
  rw [if_neg c5]
  by_cases c6 : n ≤ 281474976710655
  · rw [if_pos c6]
    simp only [trim0]
    rw [if_pos (by omega), if_pos (by omega), if_neg (by omega)]
    congr 1; omega
  rw [if_neg c6]
  by_cases c7 : n ≤ 72057594037927935
  · rw [if_pos c7]
    simp only [trim0]
    rw [if_pos (by omega), if_neg (by omega)]
    congr 1; omega
  rw [if_neg c7]
  simp only [trim0]
  rw [if_neg (by omega)]

theorem uBytes_len (n : Int) : 1 ≤ (uBytes n).length ∧ (uBytes n).length ≤ 8 := by
  unfold uBytes
  repeat' split
  all_goals simp

theorem uBytes_isB (n : Int) (h0 : 0 ≤ n) (h1 : n ≤ 18446744073709551615) (i : Int) : 0 ≤ rd (uBytes n) i ∧ rd (uBytes n) i ≤ 255 := by
  have h : ∀ x ∈ uBytes n, 0 ≤ x ∧ x ≤ 255 := by
    unfold uBytes
    intro x hx
    split at hx
    · simp at hx; omega
    split at hx
    · simp at hx; omega
    split at hx
    · simp at hx; omega
    split at hx
    · simp at hx; omega
    split at hx
    · simp at hx; omega
    split at hx
    · simp at hx; omega
    split at hx
    · simp at hx; omega
    · simp at hx; omega
  unfold Go.Proofs.YtangjgclpipjdaaDoorW.PrintWords.rd
  rw [List.getD_eq_getElem?_getD]
  cases e : (uBytes n)[i.toNat]? with
  | none => simp
  | some x => exact h x (List.mem_of_getElem? e)
theorem cell_at0 {w : World} {A : Option Addr} {xs : List Int} (h : Kd.C (Kd.int .u8) w A xs.length xs) (hi : 0 < xs.length) : ∃ ad, A = some ad ∧ w.cell? ad = some (.int .u8 (rd xs 0)) := by
  obtain ⟨ad, e, hx⟩ := Kd.at_int h 0 (by omega) (by omega)
  exact ⟨ad, e, by simpa [Addr.add] using hx⟩
theorem be_cell' {w : World} {g t : Nat} {xs : List Int} (h : w.heap[g]? = some (.cells (xs.map (Value.int .u8)).toArray t (0, 0))) (j : Nat) (hj : j < xs.length) : w.cell? ⟨g, j, none⟩ = some (.int .u8 (xs[j]?.getD 0)) := by
  rw [blk_cell h j]
  simp [List.getElem?_eq_getElem hj]
theorem u8_bit7 (b : Int) (h0 : 0 ≤ b) (h1 : b ≤ 255) : bits .and .u8 b 128 = if 128 ≤ b then 128 else 0 := by
  rw [u8_and b 128 h0 (by omega) (by omega) (by omega), show (128 : Int).toNat = 2 ^ 7 from rfl, nat_bit]
  split
  · have : b.toNat / 2 ^ 7 % 2 = 1 := by omega
    rw [this]; rfl
  · have : b.toNat / 2 ^ 7 % 2 = 0 := by omega
    rw [this]; rfl
end Go.Proofs.YtangjgclpipjdaaDoor
set_option linter.unusedVariables false
namespace Go.Proofs.YtangjgclpipjdaaDoor
open Go.RowKit Go.Proofs.YtangjgclpipjdaaDoorW.PrintWords Go.Proofs.YtangjgclpipjdaaDoorW.PrintLast Go.Proofs.YtangjgclpipjdaaDoorW.PrintMore

def lenBytes (n : Int) : List Int :=
  if n ≤ 0 then [] else if n ≤ 255 then [n] else if n ≤ 65535 then [n / 256, n % 256] else if n ≤ 16777215 then [n / 65536, n / 256 % 256, n % 256] else [n / 16777216, n / 65536 % 256, n / 256 % 256, n % 256]
theorem lenBytes_len (n : Int) : (lenBytes n).length ≤ 4 := by unfold lenBytes; split <;> (try split) <;> (try split) <;> (try split) <;> simp
def sLen (n : Int) (wide : Nat) : List Int :=
  if n < 128 ∧ wide = 0 then [n] else ((128 + ((lenBytes n).length + wide : Nat) : Int)) :: (List.replicate wide 0 ++ lenBytes n)

def sSealed (tag : Int) (c : List Int) (wide : Nat) : List Int := tag % 256 :: (sLen c.length wide ++ c)
theorem sLen_len (n : Int) (wide : Nat) : (sLen n wide).length ≤ 5 + wide := by
  have := lenBytes_len n
  unfold sLen
  split <;> simp <;> omega
end Go.Proofs.YtangjgclpipjdaaDoor
set_option linter.unusedVariables false
namespace Go.Proofs.YtangjgclpipjdaaDoor
open Go.RowKit Go.Proofs.YtangjgclpipjdaaDoorW.PrintWords Go.Proofs.YtangjgclpipjdaaDoorW.PrintLast Go.Proofs.YtangjgclpipjdaaDoorW.PrintMore

theorem beVal_zeros (k : Nat) (l : List Int) : beVal (List.replicate k 0 ++ l) 0 = beVal l 0 := by
  induction k with
  | zero => rfl
  | succ k ih => rw [List.replicate_succ]; exact ih
theorem beVal_lenBytes (n : Int) (h0 : 0 ≤ n) (h1 : n ≤ 4294967295) : beVal (lenBytes n) 0 = n := by
  unfold lenBytes
  split
  · simp [beVal]; omega
  split
  · simp [beVal]
  split
  · simp [beVal]; omega
  split
  · simp [beVal]; omega
  · simp [beVal]; omega
theorem lenBytes_isB (n : Int) (h1 : n ≤ 4294967295) : IsB (lenBytes n) := by
  unfold lenBytes
  intro x hx
  split at hx
  · simp at hx
  split at hx
  · simp at hx; omega
  split at hx
  · simp at hx; omega
  split at hx
  · simp at hx; omega
  · simp at hx; omega
theorem isB_append {a b : List Int} (ha : IsB a) (hb : IsB b) : IsB (a ++ b) := fun x hx => (List.mem_append.1 hx).elim (ha x) (hb x)
theorem isB_cons {x : Int} {b : List Int} (h0 : 0 ≤ x) (h1 : x ≤ 255) (hb : IsB b) : IsB (x :: b) := fun y hy => (List.mem_cons.1 hy).elim (fun e => by omega) (hb y)
theorem isB_zeros (k : Nat) : IsB (List.replicate k 0) := fun x hx => by rw [List.eq_of_mem_replicate hx]; omega
theorem sLen_isB (n : Int) (wide : Nat) (h0 : 0 ≤ n) (h1 : n ≤ 4294967295) (hw : wide ≤ 100) : IsB (sLen n wide) := by
  have := lenBytes_len n
  unfold sLen
  split
  · exact isB_cons h0 (by omega) (fun x hx => by simp at hx)
  · exact isB_cons (by omega) (by omega) (isB_append (isB_zeros _) (lenBytes_isB n h1))
theorem sSealed_isB (tag : Int) (c : List Int) (wide : Nat) (hc : IsB c) (h : c.length ≤ 4294967295) (hw : wide ≤ 100) : IsB (sSealed tag c wide) :=
  isB_cons (by omega) (by omega) (isB_append (sLen_isB _ _ (by omega) (by omega) hw) hc)

/-- What parseLength asks of bytes that begin with an element. -/
def LenOk (xs : List Int) : Prop := 2 ≤ xs.length ∧ rd xs 1 ≠ 128 ∧ rd xs 1 ≤ 135 ∧ (127 < rd xs 1 → 2 + (rd xs 1 - 128).toNat ≤ xs.length)

theorem sealed_read (tag : Int) (c rest : List Int) (wide : Nat) (hw : wide ≤ 3) (h : c.length ≤ 4294967295) :
    LenOk (sSealed tag c wide ++ rest) ∧ pLen (sSealed tag c wide ++ rest) = (((sSealed tag c wide).length : Int), ((sSealed tag c wide).length : Int) - c.length) := by
  have hb := lenBytes_len c.length
  by_cases hs : (c.length : Int) < 128 ∧ wide = 0
  · have e : sSealed tag c wide = tag % 256 :: (c.length : Int) :: c := by unfold sSealed sLen; rw [if_pos hs]; rfl
    rw [e]
    have r1 : rd (tag % 256 :: (c.length : Int) :: c ++ rest) 1 = c.length := rfl
    unfold LenOk pLen
    rw [r1, if_pos (by omega)]
    refine ⟨⟨by simp, by omega, by omega, fun h => by omega⟩, ?_⟩
    simp only [List.length_cons]
    rw [Prod.mk.injEq]
    omega
  · have e : sSealed tag c wide = tag % 256 :: (128 + ((lenBytes c.length).length + wide : Nat) : Int) :: (List.replicate wide 0 ++ lenBytes c.length ++ c) := by unfold sSealed sLen; rw [if_neg hs]; rfl
    have hpos : 1 ≤ (lenBytes c.length).length + wide := by
      by_cases h0 : wide = 0
      · have : ¬ (c.length : Int) ≤ 0 := by omega
        unfold lenBytes
        rw [if_neg this]
        split
        · simp
        split
        · simp; omega
        split <;> simp <;> omega
      · omega
    rw [e]
    generalize hm : (lenBytes (c.length : Int)).length + wide = m at *
    have r1 : rd (tag % 256 :: (128 + (m : Nat) : Int) :: (List.replicate wide 0 ++ lenBytes c.length ++ c) ++ rest) 1 = 128 + (m : Int) := rfl
    have hl : (tag % 256 :: (128 + (m : Nat) : Int) :: (List.replicate wide 0 ++ lenBytes c.length ++ c)).length = 2 + m + c.length := by simp; omega
    have ht : ((tag % 256 :: (128 + (m : Nat) : Int) :: (List.replicate wide 0 ++ lenBytes c.length ++ c) ++ rest).drop 2).take m = List.replicate wide 0 ++ lenBytes c.length := by
      simp only [List.cons_append, List.drop_succ_cons, List.drop_zero, List.append_assoc]
      rw [← List.append_assoc, List.take_append_of_le_length (by simp; omega), List.take_of_length_le (by simp; omega)]
    unfold LenOk pLen
    rw [r1, if_neg (by omega), show (128 + (m : Int) - 128).toNat = m by omega, ht, beVal_zeros, beVal_lenBytes _ (by omega) (by omega), List.length_append, hl]
    refine ⟨⟨by omega, by omega, by omega, fun _ => by omega⟩, ?_⟩
    rw [Prod.mk.injEq]
    omega
end Go.Proofs.YtangjgclpipjdaaDoor
