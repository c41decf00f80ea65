/- The shelf's contract of strconv.AppendUint at base 10, laid at this program; in the words of the print. -/
import Derived.Shelf.Strconv.AppendUint10
import Derived.Shelf.Lay
import Derived.Ground.NamesProg
import Derived.Test.YtacbdhklfgapkaaDoorProg
import Derived.Test.YtacbdhklfgapkaaDoorLib
set_option linter.unusedVariables false
namespace Go.Proofs
open Go.Shelf
shelf_lay LaysM.n288 Nm 288 at Tryd as Tryd.laysAU
end Go.Proofs
namespace Go.Proofs.YtacbdhklfgapkaaDoor
open Go.RowKit Go.Proofs.YtacbdhklfgapkaaDoorW.PrintWords Go.Proofs.YtacbdhklfgapkaaDoorW.PrintLast Go.Proofs.YtacbdhklfgapkaaDoorW.PrintMore

/-- The decimal figures of a number, as bytes. -/
def dec (u : Nat) : List Int := (Lib.decDigits u).map fun b => (b.toNat : Int)
theorem dec_cells (u : Nat) : Lib.byteCells (Lib.decDigits u) = (dec u).map (Value.int .u8) := by simp [Lib.byteCells, dec]
abbrev PowTab (w : World) : Prop := Lib.TabIs Tryd.prog w "internal/strconv.uint64pow10" .u64 Lib.pow10Tab
theorem PowTab.on {w w' : World} (h : PowTab w) (hb : Below w.heap.size w w') : PowTab w' := Lib.tabBelow_of_tabIs h w' hb

theorem appendUint_in (B u : Nat) (hu : u < 18446744073709551616) (v : Value) (xs : List Int) (w : World) (ho : OwnB w B v xs) (hB : B ≤ w.heap.size) (hl : xs.length ≤ 1000000) (ht : PowTab w) :
    Calls Tryd.prog 38 #[v, .int .u64 u, .int .i64 10] w fun e w' => ∃ v', e = .returned v' ∧ OwnB w' B v' (xs ++ dec u) ∧ Below B w w' := by
  have ho2 : w.ownsRow B 5 1 v xs.length (xs.map (Value.int .u8)) := Kd.own_of_R ho
  have fin : ∀ {w' : World} {v' : Value}, w'.ownsRow B 5 1 v' (xs.length + (Lib.decDigits u).length) (xs.map (Value.int .u8) ++ Lib.byteCells (Lib.decDigits u)) → OwnB w' B v' (xs ++ dec u) := by
    intro w' v' h
    refine Kd.R_of_own (enc := Value.int .u8) ?_ (fun _ _ => trivial)
    have e : encs (Value.int .u8) (xs ++ dec u) = xs.map (Value.int .u8) ++ Lib.byteCells (Lib.decDigits u) := by rw [dec_cells]; simp [encs]
    have e2 : (xs ++ dec u).length = xs.length + (Lib.decDigits u).length := by simp [dec]
    rw [e, e2]
    exact h
  by_cases h : u < 100
  · refine (Any.internal_strconv_AppendUint_10_small Tryd.laysAU B xs.length u h v _ w ho2 hB (by omega)).mono ?_
    rintro e w' ⟨v', rfl, h1, h2, -⟩
    exact ⟨v', rfl, fin h1, h2⟩
  · refine (Any.internal_strconv_AppendUint_10_big Tryd.laysAU B xs.length u (by omega) hu v _ w ho2 hB (by omega) ht).mono ?_
    rintro e w' ⟨v', rfl, h1, h2, -⟩
    exact ⟨v', rfl, fin h1, h2⟩
theorem appendUint_any (B u : Nat) (hu : u < 18446744073709551616) (v : Value) (xs : List Int) (w : World) (ho : OwnB w B v xs) (hB : B ≤ w.heap.size) (hl : xs.length ≤ 1000000) (ht : PowTab w) :
    Calls Tryd.prog 36 #[v, .int .u64 u, .int .i64 10] w fun e w' => ∃ v', e = .returned v' ∧ OwnB w' B v' (xs ++ dec u) ∧ Below B w w' := by
  have HH := Lib.hid (And.intro ho (And.intro hB (And.intro hl ht)))
  clear ho hB hl ht
  go_enter Tryd.func36, Tryd.ntmps36
  go_wp2_with fail
  refine (appendUint_in B u hu v xs w HH.out.1 HH.out.2.1 HH.out.2.2.1 HH.out.2.2.2).mono ?_
  rintro e w' ⟨v', rfl, h1, h2⟩
  go_wp2
  go_ret
  exact ⟨v', rfl, h1, h2⟩
end Go.Proofs.YtacbdhklfgapkaaDoor
