/- marshalObjectIdentifier: the walk. -/
import Derived.Test.YtacbdhklfgapkaaDoorPFnReadIntx1
import Derived.Test.YtacbdhklfgapkaaDoorOid
import Derived.Test.YtacbdhklfgapkaaDoorClone
import Derived.OwnWalk
set_option linter.unusedVariables false
namespace Go.Proofs.YtacbdhklfgapkaaDoor
open Go.RowKit Go.Proofs.YtacbdhklfgapkaaDoorW.PrintWords Go.Proofs.YtacbdhklfgapkaaDoorW.PrintLast Go.Proofs.YtacbdhklfgapkaaDoorW.PrintMore

theorem app128_step (k : Nat) (l : List Int) (n x5 x6 : Int) (h : x6 > 0) : PFnReadInt.snmp_appendBase128Int.l0 (k + 1) l n x5 x6 = PFnReadInt.snmp_appendBase128Int.l0 k l n (wrap64 (x5 + 1)) (x6 / 128) := by
  rw [PFnReadInt.snmp_appendBase128Int.l0, if_pos h]
theorem app128_turn (k : Nat) (l : List Int) (n x5 x6 : Int) (h : ¬ x6 > 0) : PFnReadInt.snmp_appendBase128Int.l0 (k + 1) l n x5 x6 = PFnReadInt.snmp_appendBase128Int.l1 k l n (wrap64 (x5 - 1)) := by
  rw [PFnReadInt.snmp_appendBase128Int.l0, if_neg h]
theorem app128_end (k : Nat) (l : List Int) (n : Int) : PFnReadInt.snmp_appendBase128Int.l1 (k + 1) l n (-1) = some l := by
  rw [PFnReadInt.snmp_appendBase128Int.l1, if_neg (by omega)]
theorem and127' (x : Int) (h0 : 0 ≤ x) (h1 : x < 256) : bits .and .u8 x 127 = x % 128 := by
  have := bits_mask .u8 8 (by decide) wraps_u8 7 (by decide) x h0 (by omega)
  simpa using this
theorem or128' (x : Int) (h0 : 0 ≤ x) (h1 : x < 128) : bits .or .u8 x 128 = x + 128 := by
  rw [u8_or x 128 h0 (by omega) (by omega) (by omega)]
  have := nat_join 7 128 x.toNat (by decide) (by omega)
  rw [Nat.or_comm, show (128 : Int).toNat = 128 from rfl, this]
  omega
theorem u64_same (x : Int) (h0 : 0 ≤ x) (h1 : x ≤ 1000) : IntKind.u64.wrap x = x := by simp [IntKind.wrap, IntKind.bits, IntKind.signed]; omega
theorem w64_same (x : Int) (h0 : -1000 ≤ x) (h1 : x ≤ 1000) : wrap64 x = x := by unfold wrap64; omega
theorem app128_last (k : Nat) (l : List Int) (n : Int) (h0 : 0 ≤ n) (h1 : n ≤ 4294967295) (hl : l.length ≤ 1000) : PFnReadInt.snmp_appendBase128Int.l1 (k + 2) l n 0 = some (l ++ [n % 128]) := by
  rw [PFnReadInt.snmp_appendBase128Int.l1, if_pos (by omega)]
  have e : IntKind.u64.wrap (wrap64 ((0 : Int) * 7)) = 0 := by rw [w64_same _ (by omega) (by omega), u64_same _ (by omega) (by omega)]; rfl
  rw [e, if_pos (by omega), if_pos rfl, if_pos (by omega)]
  have e2 : shr .i64 n 0 = n := by simp [shr]
  have e3 : wrap64 ((0 : Int) - 1) = -1 := by rw [w64_same _ (by omega) (by omega)]; rfl
  rw [e2, e3, and127' _ (by omega) (by omega), app128_end]
  congr 3
  omega
theorem app128_mid (k : Nat) (l : List Int) (n : Int) (h0 : 0 ≤ n) (h1 : n ≤ 4294967295) (hl : l.length ≤ 1000) (i : Nat) (hi : 1 ≤ i) (hi4 : i ≤ 4) (q : Int) (hq : q = n / 2 ^ (i * 7)) :
    PFnReadInt.snmp_appendBase128Int.l1 (k + 1) l n i = PFnReadInt.snmp_appendBase128Int.l1 k (l ++ [q % 128 + 128]) n ((i - 1 : Nat) : Int) := by
  rw [PFnReadInt.snmp_appendBase128Int.l1, if_pos (by omega)]
  have e : IntKind.u64.wrap (wrap64 ((i : Int) * 7)) = ((i * 7 : Nat) : Int) := by
    rw [w64_same _ (by omega) (by omega), u64_same _ (by omega) (by omega)]
    omega
  rw [e, if_pos (by omega), if_neg (by omega), if_pos (by omega)]
  have e2 : shr .i64 n ((i * 7 : Nat) : Int) = q := by
    rw [hq]
    unfold shr
    rcases (by omega : i = 1 ∨ i = 2 ∨ i = 3 ∨ i = 4) with rfl | rfl | rfl | rfl <;> rfl
  have e3 : wrap64 ((i : Int) - 1) = ((i - 1 : Nat) : Int) := by unfold wrap64; omega
  rw [e2, e3, and127' _ (by omega) (by omega), or128' _ (by omega) (by omega)]
  have e4 : q % 256 % 128 = q % 128 := by omega
  rw [e4]

theorem pow7 (n : Int) : n / 2 ^ (1 * 7) = n / 128 ∧ n / 2 ^ (2 * 7) = n / 16384 ∧ n / 2 ^ (3 * 7) = n / 2097152 ∧ n / 2 ^ (4 * 7) = n / 268435456 := ⟨rfl, rfl, rfl, rfl⟩

theorem app128_eq (l : List Int) (n : Int) (h0 : 0 ≤ n) (h1 : n ≤ 4294967295) (hl : l.length ≤ 900) : PFnReadInt.snmp_appendBase128Int.f 12 l n = some (l ++ b128 n) := by
  unfold PFnReadInt.snmp_appendBase128Int.f
  have d2 : n / 128 / 128 = n / 16384 := by omega
  have d3 : n / 16384 / 128 = n / 2097152 := by omega
  have d4 : n / 2097152 / 128 = n / 268435456 := by omega
  have d5 : n / 268435456 / 128 = 0 := by omega
  have w1 : wrap64 ((0 : Int) + 1) = 1 := w64_same _ (by omega) (by omega)
  have w2 : wrap64 ((1 : Int) + 1) = 2 := w64_same _ (by omega) (by omega)
  have w3 : wrap64 ((2 : Int) + 1) = 3 := w64_same _ (by omega) (by omega)
  have w4 : wrap64 ((3 : Int) + 1) = 4 := w64_same _ (by omega) (by omega)
  have w5 : wrap64 ((4 : Int) + 1) = 5 := w64_same _ (by omega) (by omega)
  have v1 : wrap64 ((1 : Int) - 1) = 0 := w64_same _ (by omega) (by omega)
  have v2 : wrap64 ((2 : Int) - 1) = (1 : Nat) := w64_same _ (by omega) (by omega)
  have v3 : wrap64 ((3 : Int) - 1) = (2 : Nat) := w64_same _ (by omega) (by omega)
  have v4 : wrap64 ((4 : Int) - 1) = (3 : Nat) := w64_same _ (by omega) (by omega)
  have v5 : wrap64 ((5 : Int) - 1) = (4 : Nat) := w64_same _ (by omega) (by omega)
  have p7 := pow7 n
  unfold b128
  by_cases c0 : n = 0
  · subst c0
    rw [if_pos rfl, if_pos (by omega)]
    rfl
  rw [if_neg c0, app128_step _ _ _ _ _ (by omega), w1]
  by_cases c1 : n < 128
  · rw [if_pos c1, app128_turn _ _ _ _ _ (by omega), v1, app128_last _ _ _ h0 h1 (by omega)]
    congr 3; omega
  rw [if_neg c1, app128_step _ _ _ _ _ (by omega), w2, d2]
  by_cases c2 : n < 16384
  · rw [if_pos c2, app128_turn _ _ _ _ _ (by omega), v2, app128_mid _ _ _ h0 h1 (by omega) 1 (by omega) (by omega) (n / 128) p7.1.symm, show ((1 - 1 : Nat) : Int) = 0 from rfl, app128_last _ _ _ h0 h1 (by simp; omega)]
    simp; omega
  rw [if_neg c2, app128_step _ _ _ _ _ (by omega), w3, d3]
  by_cases c3 : n < 2097152
  · rw [if_pos c3, app128_turn _ _ _ _ _ (by omega), v3, app128_mid _ _ _ h0 h1 (by omega) 2 (by omega) (by omega) (n / 16384) p7.2.1.symm, app128_mid _ _ _ h0 h1 (by simp; omega) 1 (by omega) (by omega) (n / 128) p7.1.symm, show ((1 - 1 : Nat) : Int) = 0 from rfl, app128_last _ _ _ h0 h1 (by simp; omega)]
    simp; omega
  rw [if_neg c3, app128_step _ _ _ _ _ (by omega), w4, d4]
  by_cases c4 : n < 268435456
  · rw [if_pos c4, app128_turn _ _ _ _ _ (by omega), v4, app128_mid _ _ _ h0 h1 (by omega) 3 (by omega) (by omega) (n / 2097152) p7.2.2.1.symm, app128_mid _ _ _ h0 h1 (by simp; omega) 2 (by omega) (by omega) (n / 16384) p7.2.1.symm, app128_mid _ _ _ h0 h1 (by simp; omega) 1 (by omega) (by omega) (n / 128) p7.1.symm, show ((1 - 1 : Nat) : Int) = 0 from rfl, app128_last _ _ _ h0 h1 (by simp; omega)]
    simp; omega
  rw [if_neg c4, app128_step _ _ _ _ _ (by omega), w5, d5, app128_turn _ _ _ _ _ (by omega), v5, app128_mid _ _ _ h0 h1 (by omega) 4 (by omega) (by omega) (n / 268435456) p7.2.2.2.symm, app128_mid _ _ _ h0 h1 (by simp; omega) 3 (by omega) (by omega) (n / 2097152) p7.2.2.1.symm, app128_mid _ _ _ h0 h1 (by simp; omega) 2 (by omega) (by omega) (n / 16384) p7.2.1.symm, app128_mid _ _ _ h0 h1 (by simp; omega) 1 (by omega) (by omega) (n / 128) p7.1.symm, show ((1 - 1 : Nat) : Int) = 0 from rfl, app128_last _ _ _ h0 h1 (by simp; omega)]
  simp; omega
end Go.Proofs.YtacbdhklfgapkaaDoor
