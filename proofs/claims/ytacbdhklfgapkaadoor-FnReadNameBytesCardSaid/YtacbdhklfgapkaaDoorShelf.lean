/- The shelf's contract of strconv.AppendUint at base 10, laid at this program; in the words of the print. -/
import Derived.Shelf.Strconv.AppendUint10
import Derived.Test.YtacbdhklfgapkaaDoorProg
import Derived.Test.YtacbdhklfgapkaaDoorLib
set_option linter.unusedVariables false
namespace Go.Proofs
open Go.Shelf
def Tryd.laysAU_ren : Go.Shelf.Ren := ⟨fun | 288 => 38 | 283 => 39 | 284 => 40 | 285 => 41 | 286 => 42 | 129 => 44 | 317 => 43 | 318 => 45 | 319 => 46 | 320 => 47 | 337 => 48 | 338 => 49 | n => n, fun | 37 => 23 | 53 => 28 | 3 => 3 | 4 => 4 | 9 => 9 | 171 => 72 | 0 => 0 | 173 => 75 | 212 => 79 | 51 => 63 | 5 => 5 | 20 => 20 | 213 => 80 | 46 => 49 | 232 => 84 | 233 => 85 | n => n, fun | 17 => 5 | 18 => 6 | 19 => 7 | n => n⟩
theorem Tryd.laysAU : Go.Proofs.LaysM.n288 Tryd.prog Tryd.laysAU_ren := {
  mixed := by kernel_rfl
  f129 := Tryd.func44.trans (congrArg some (by kernel_rfl))
  f283 := Tryd.func39.trans (congrArg some (by kernel_rfl))
  f284 := Tryd.func40.trans (congrArg some (by kernel_rfl))
  f285 := Tryd.func41.trans (congrArg some (by kernel_rfl))
  f286 := Tryd.func42.trans (congrArg some (by kernel_rfl))
  f288 := Tryd.func38.trans (congrArg some (by kernel_rfl))
  f317 := Tryd.func43.trans (congrArg some (by kernel_rfl))
  f318 := Tryd.func45.trans (congrArg some (by kernel_rfl))
  f319 := Tryd.func46.trans (congrArg some (by kernel_rfl))
  f320 := Tryd.func47.trans (congrArg some (by kernel_rfl))
  f337 := Tryd.func48.trans (congrArg some (by kernel_rfl))
  f338 := Tryd.func49.trans (congrArg some (by kernel_rfl))
  t0 := Tryd.underlying0
  a0 := Tryd.isAgg0
  z0 := Tryd.sizeOf0
  v0 := Tryd.zeroValue0
  t3 := Tryd.underlying3
  a3 := Tryd.isAgg3
  z3 := Tryd.sizeOf3
  v3 := Tryd.zeroValue3
  t4 := Tryd.underlying4
  a4 := Tryd.isAgg4
  z4 := Tryd.sizeOf4
  v4 := Tryd.zeroValue4
  t5 := Tryd.underlying5
  a5 := Tryd.isAgg5
  z5 := Tryd.sizeOf5
  v5 := Tryd.zeroValue5
  t9 := Tryd.underlying9
  a9 := Tryd.isAgg9
  z9 := Tryd.sizeOf9
  v9 := Tryd.zeroValue9
  t20 := Tryd.underlying20
  a20 := Tryd.isAgg20
  z20 := Tryd.sizeOf20
  v20 := Tryd.zeroValue20
  t37 := Tryd.underlying23
  a37 := Tryd.isAgg23
  z37 := Tryd.sizeOf23
  v37 := Tryd.zeroValue23
  t46 := Tryd.underlying49
  a46 := Tryd.isAgg49
  z46 := Tryd.sizeOf49
  v46 := Tryd.zeroValue49
  t51 := Tryd.underlying63
  a51 := Tryd.isAgg63
  z51 := Tryd.sizeOf63
  v51 := Tryd.zeroValue63
  t53 := Tryd.underlying28
  a53 := Tryd.isAgg28
  z53 := Tryd.sizeOf28
  v53 := Tryd.zeroValue28
  t171 := Tryd.underlying72
  a171 := Tryd.isAgg72
  z171 := Tryd.sizeOf72
  v171 := Tryd.zeroValue72
  t173 := Tryd.underlying75
  a173 := Tryd.isAgg75
  z173 := Tryd.sizeOf75
  v173 := Tryd.zeroValue75
  t212 := Tryd.underlying79
  a212 := Tryd.isAgg79
  z212 := Tryd.sizeOf79
  v212 := Tryd.zeroValue79
  t213 := Tryd.underlying80
  a213 := Tryd.isAgg80
  z213 := Tryd.sizeOf80
  t232 := Tryd.underlying84
  a232 := Tryd.isAgg84
  z232 := Tryd.sizeOf84
  v232 := Tryd.zeroValue84
  t233 := Tryd.underlying85
  a233 := Tryd.isAgg85
  z233 := Tryd.sizeOf85
  v233 := Tryd.zeroValue85
  g17 := by kernel_rfl
  g18 := by kernel_rfl
  g19 := by kernel_rfl
  i0 := by kernel_rfl
  i3 := by kernel_rfl
  i4 := by kernel_rfl
  i5 := by kernel_rfl
  i9 := by kernel_rfl
  i20 := by kernel_rfl
  i37 := by kernel_rfl
  i46 := by kernel_rfl
  i51 := by kernel_rfl
  i53 := by kernel_rfl
  i171 := by kernel_rfl
  i173 := by kernel_rfl
  i212 := by kernel_rfl
  i232 := by kernel_rfl
  i233 := by kernel_rfl
  m17 := by kernel_rfl
  m18 := by kernel_rfl
  m19 := by kernel_rfl }
end Go.Proofs
namespace Go.Proofs.YtacbdhklfgapkaaDoor
open Go.RowKit Go.Proofs.YtacbdhklfgapkaaDoorW.PrintWords Go.Proofs.YtacbdhklfgapkaaDoorW.PrintLast Go.Proofs.YtacbdhklfgapkaaDoorW.PrintMore

/-- The decimal figures of a number, as bytes. -/
def dec (u : Nat) : List Int := (Lib.decDigits u).map fun b => (b.toNat : Int)
theorem dec_cells (u : Nat) : Lib.byteCells (Lib.decDigits u) = (dec u).map (Value.int .u8) := by simp [Lib.byteCells, dec]
abbrev PowTab (w : World) : Prop := Lib.TabIs Tryd.prog w "internal/strconv.uint64pow10" .u64 Lib.pow10Tab
theorem PowTab.on {w w' : World} (h : PowTab w) (hb : Below w.heap.size w w') : PowTab w' := Lib.tabBelow_of_tabIs h w' hb

theorem appendUint_in (B u : Nat) (hu : u < 18446744073709551616) (v : Value) (xs : List Int) (w : World) (ho : OwnB w B v xs) (hB : B ≤ w.heap.size) (hl : xs.length ≤ 1000000) (ht : PowTab w) :
    Calls Tryd.prog 38 #[v, .int .u64 u, .int .i64 10] w fun e w' => ∃ v', e = .returned v' ∧ OwnB w' B v' (xs ++ dec u) ∧ Below B w w' := by
  have ho2 : w.ownsRow B 5 1 v xs.length (xs.map (Value.int .u8)) := Kd.own_of_R ho
  have fin : ∀ {w' : World} {v' : Value}, w'.ownsRow B 5 1 v' (xs.length + (Lib.decDigits u).length) (xs.map (Value.int .u8) ++ Lib.byteCells (Lib.decDigits u)) → OwnB w' B v' (xs ++ dec u) := by
    intro w' v' h
    refine Kd.R_of_own (enc := Value.int .u8) ?_ (fun _ _ => trivial)
    have e : encs (Value.int .u8) (xs ++ dec u) = xs.map (Value.int .u8) ++ Lib.byteCells (Lib.decDigits u) := by rw [dec_cells]; simp [encs]
    have e2 : (xs ++ dec u).length = xs.length + (Lib.decDigits u).length := by simp [dec]
    rw [e, e2]
    exact h
  by_cases h : u < 100
  · refine (Any.internal_strconv_AppendUint_10_small Tryd.laysAU B xs.length u h v _ w ho2 hB (by omega)).mono ?_
    rintro e w' ⟨v', rfl, h1, h2, -⟩
    exact ⟨v', rfl, fin h1, h2⟩
  · refine (Any.internal_strconv_AppendUint_10_big Tryd.laysAU B xs.length u (by omega) hu v _ w ho2 hB (by omega) ht).mono ?_
    rintro e w' ⟨v', rfl, h1, h2, -⟩
    exact ⟨v', rfl, fin h1, h2⟩
theorem appendUint_any (B u : Nat) (hu : u < 18446744073709551616) (v : Value) (xs : List Int) (w : World) (ho : OwnB w B v xs) (hB : B ≤ w.heap.size) (hl : xs.length ≤ 1000000) (ht : PowTab w) :
    Calls Tryd.prog 36 #[v, .int .u64 u, .int .i64 10] w fun e w' => ∃ v', e = .returned v' ∧ OwnB w' B v' (xs ++ dec u) ∧ Below B w w' := by
  have HH := Lib.hid (And.intro ho (And.intro hB (And.intro hl ht)))
  clear ho hB hl ht
  go_enter Tryd.func36, Tryd.ntmps36
  go_wp2_with fail
  refine (appendUint_in B u hu v xs w HH.out.1 HH.out.2.1 HH.out.2.2.1 HH.out.2.2.2).mono ?_
  rintro e w' ⟨v', rfl, h1, h2⟩
  go_wp2
  go_ret
  exact ⟨v', rfl, h1, h2⟩
end Go.Proofs.YtacbdhklfgapkaaDoor
