/- marshalInt32, ZZInt, impl.Int: what they answer at 32 bits. -/
import Derived.Test.YtacbdhklfgapkaaProg
import Derived.Test.YtacbdhklfgapkaaLib
set_option linter.unusedVariables false
namespace Go.Proofs.Ytacbdhklfgapkaa
open Go.RowKit Go.Proofs.YtacbdhklfgapkaaW.PrintWords Go.Proofs.YtacbdhklfgapkaaW.PrintLast Go.Proofs.YtacbdhklfgapkaaW.PrintMore

theorem bits_mask7 (n : Int) : bits .and .u32 (n % 4294967296) 4294967168 = n % 4294967296 / 128 * 128 := by
  rw [u32_and _ _ (by omega) (by omega) (by omega) (by omega)]
  rw [and_mask _ _ 7 (by omega) (by omega) (by rfl)]
  omega
theorem bits_mask15 (n : Int) : bits .and .u32 (n % 4294967296) 4294934528 = n % 4294967296 / 32768 * 32768 := by
  rw [u32_and _ _ (by omega) (by omega) (by omega) (by omega)]
  rw [and_mask _ _ 15 (by omega) (by omega) (by rfl)]
  omega
theorem bits_mask23 (n : Int) : bits .and .u32 (n % 4294967296) 4286578688 = n % 4294967296 / 8388608 * 8388608 := by
  rw [u32_and _ _ (by omega) (by omega) (by omega) (by omega)]
  rw [and_mask _ _ 23 (by omega) (by omega) (by rfl)]
  omega

def mInt32 (n : Int) : List Int :=
  if -128 ≤ n ∧ n ≤ 127 then [n % 256] else if -32768 ≤ n ∧ n ≤ 32767 then [n / 256 % 256, n % 256]
  else if -8388608 ≤ n ∧ n ≤ 8388607 then [n / 65536 % 256, n / 256 % 256, n % 256] else [n / 16777216 % 256, n / 65536 % 256, n / 256 % 256, n % 256]

theorem mInt32_1 (n : Int) (h0 : -2147483648 ≤ n) (h1 : n ≤ 2147483647) (h : bits .and .u32 (n % 4294967296) 4294967168 = 0 ∨ bits .and .u32 (n % 4294967296) 4294967168 = 4294967168) : mInt32 n = [n % 256] := by
  rw [bits_mask7] at h
  unfold mInt32
  rw [if_pos (by omega)]
theorem mInt32_2 (n : Int) (h0 : -2147483648 ≤ n) (h1 : n ≤ 2147483647) (g : ¬ (bits .and .u32 (n % 4294967296) 4294967168 = 0 ∨ bits .and .u32 (n % 4294967296) 4294967168 = 4294967168))
    (h : bits .and .u32 (n % 4294967296) 4294934528 = 0 ∨ bits .and .u32 (n % 4294967296) 4294934528 = 4294934528) : mInt32 n = [n % 4294967296 / 256 % 256, n % 256] := by
  rw [bits_mask7] at g
  rw [bits_mask15] at h
  unfold mInt32
  rw [if_neg (by omega), if_pos (by omega)]
  congr 1
  omega
theorem mInt32_3 (n : Int) (h0 : -2147483648 ≤ n) (h1 : n ≤ 2147483647)
    (g : ¬ (bits .and .u32 (n % 4294967296) 4294934528 = 0 ∨ bits .and .u32 (n % 4294967296) 4294934528 = 4294934528))
    (h : bits .and .u32 (n % 4294967296) 4286578688 = 0 ∨ bits .and .u32 (n % 4294967296) 4286578688 = 4286578688) : mInt32 n = [n % 4294967296 / 65536 % 256, n % 4294967296 / 256 % 256, n % 256] := by
  rw [bits_mask15] at g
  rw [bits_mask23] at h
  unfold mInt32
  rw [if_neg (by omega), if_neg (by omega), if_pos (by omega)]
  congr 1
  · omega
  · congr 1
    omega
theorem mInt32_4 (n : Int) (h0 : -2147483648 ≤ n) (h1 : n ≤ 2147483647)
    (h : ¬ (bits .and .u32 (n % 4294967296) 4286578688 = 0 ∨ bits .and .u32 (n % 4294967296) 4286578688 = 4286578688)) : mInt32 n = [n % 4294967296 / 16777216, n % 4294967296 / 65536 % 256, n % 4294967296 / 256 % 256, n % 256] := by
  rw [bits_mask23] at h
  unfold mInt32
  rw [if_neg (by omega), if_neg (by omega), if_neg (by omega)]
  congr 1
  · omega
  · congr 1
    · omega
    · congr 1
      omega

set_option maxHeartbeats 400000 in
theorem marshalInt32_any (n : Int) (w : World) (h0 : -2147483648 ≤ n) (h1 : n ≤ 2147483647) :
    Calls Try.prog 23 #[.int .i64 n] w fun e w' => GotE w w' (mInt32 n) e := by
  have f1 := Lib.hid (mInt32_1 n h0 h1)
  have f2 := Lib.hid (mInt32_2 n h0 h1)
  have f3 := Lib.hid (mInt32_3 n h0 h1)
  have f4 := Lib.hid (mInt32_4 n h0 h1)
  go_enter Try.func23, Try.ntmps23
  go_wp2
  all_goals
    try simp only [beq_iff_eq, beq_eq_false_iff_ne] at *
    go_ret2
    first
    | exact gotE_lit w _ [_] (f1.out (by omega)) (by simp) rfl
    | exact gotE_lit w _ [_, _] (f2.out (by omega) (by omega)) (by simp) rfl
    | exact gotE_lit w _ [_, _, _] (f3.out (by omega) (by omega)) (by simp) rfl
    | exact gotE_lit w _ [_, _, _, _] (f4.out (by omega)) (by simp) rfl

theorem ZZInt_any (n : Int) (w : World) (h0 : -2147483648 ≤ n) (h1 : n ≤ 2147483647) :
    Calls Try.prog 17 #[.int .i64 n] w fun e w' => GotE w w' (mInt32 n) e := by
  go_enter Try.func17, Try.ntmps17
  go_wp2_with fail
  refine (marshalInt32_any n _ h0 h1).mono ?_
  rintro e w' ⟨v, rfl, ho, hb⟩
  go_wp2
  go_ret2
  exact ⟨v, rfl, ho, hb⟩

theorem implInt_any (n : Int) (w : World) (h0 : -2147483648 ≤ n) (h1 : n ≤ 2147483647) :
    Calls Try.prog 7 #[.int .i64 n] w fun e w' => GotT w w' (mInt32 n) e := by
  go_enter Try.func7, Try.ntmps7
  go_wp2_with fail
  refine (ZZInt_any n _ h0 h1).mono ?_
  rintro e w' ⟨v, rfl, ho, hb⟩
  go_wp2
  go_quiet (fail)
  go_wp2
  go_ret2
  exact ⟨v, rfl, Kd.R_drewN ho _, pw_below_drewN hb _⟩
end Go.Proofs.Ytacbdhklfgapkaa
