/- Small lemmas of my own over the printed words: results that are byte rows of the call's own, frames, masks of bits. No program in sight. -/
import Derived.WalkKit
import Derived.WalkLawsBesides
import Derived.WalkSpells
import Derived.BigQuiet
import Derived.Deep.QuietTactic
import Derived.Deep.RegionHeld3
import Derived.Deep.RegionWith
import Derived.Outline
import Derived.Below
import Derived.Laws.BytesArg
import Derived.Laws.BitsAllLaws
import Derived.Lib.Hide
import Derived.Test.YtacbdhklfgapkaaWWords
import Derived.Test.YtacbdhklfgapkaaWLast
import Derived.Test.YtacbdhklfgapkaaWKept
import Derived.Test.YtacbdhklfgapkaaWMore
set_option linter.unusedVariables false
namespace Go.Proofs.Ytacbdhklfgapkaa
open Go.RowKit Go.Proofs.YtacbdhklfgapkaaW.PrintWords Go.Proofs.YtacbdhklfgapkaaW.PrintLast Go.Proofs.YtacbdhklfgapkaaW.PrintMore

/-- A row of bytes of the call's own. -/
def OwnB (w : World) (B : Nat) (v : Value) (xs : List Int) : Prop := Kd.R (Kd.int .u8) 5 w B (fun _ => True) v xs
/-- What a function answers that makes bytes and no error: ([]byte, error). -/
def GotE (w w' : World) (xs : List Int) (e : Ending) : Prop := ∃ v, e = .returned (.tuple #[v, .nilIface]) ∧ OwnB w' w.heap.size v xs ∧ Below w.heap.size w w'
/-- ([]byte, bool), true. -/
def GotT (w w' : World) (xs : List Int) (e : Ending) : Prop := ∃ v, e = .returned (.tuple #[v, .bool true]) ∧ OwnB w' w.heap.size v xs ∧ Below w.heap.size w w'

theorem OwnB.lit (w : World) (B : Nat) (xs : List Int) (hB : B ≤ w.heap.size) (h : xs.length ≤ 9223372036854775807) {cs : Array Value} (hc : cs.toList = xs.map (Value.int .u8)) :
    OwnB (w.alloc (.cells cs 5)) B (.slice (some ⟨w.heap.size, 0, none⟩) xs.length xs.length) xs := by
  obtain ⟨l⟩ := cs
  simp only at hc
  subst hc
  have := own_lit_of (enc := Value.int .u8) w B 5 xs hB h
  exact Kd.R_of_own this (fun _ _ => trivial)

theorem gotE_lit (w : World) (xs ys : List Int) (hx : xs = ys) (h : ys.length ≤ 100) {cs : Array Value} (hc : cs.toList = ys.map (Value.int .u8)) :
    GotE w (w.alloc (.cells cs 5)) xs (.returned (.tuple #[.slice (some ⟨w.heap.size, 0, none⟩) ys.length ys.length, .nilIface])) := by
  subst hx
  exact ⟨_, rfl, OwnB.lit w _ xs (Nat.le_refl _) (by omega) hc, (Below.refl _ _).alloc (Nat.le_refl _) _⟩

theorem and_mask (m : Nat) (x : Nat) (k : Nat) (hk : k ≤ 32) (hx : x < 2 ^ 32) (hm : m = 2 ^ 32 - 2 ^ k) : x &&& m = x / 2 ^ k * 2 ^ k := by
  subst hm
  apply Nat.eq_of_testBit_eq
  intro i
  rw [Nat.testBit_and, Nat.mul_comm, Nat.testBit_two_pow_mul, Nat.testBit_div_two_pow]
  have e : (2 ^ 32 - 2 ^ k).testBit i = (decide (k ≤ i) && decide (i < 32)) := by
    have : 2 ^ 32 - 2 ^ k = 2 ^ k * (2 ^ (32 - k) - 1) := by
      rw [Nat.mul_sub, ← Nat.pow_add, Nat.mul_one]; congr 2; omega
    rw [this, Nat.testBit_two_pow_mul, Nat.testBit_two_pow_sub_one]
    by_cases h1 : k ≤ i <;> simp [h1]
    omega
  rw [e]
  by_cases h1 : k ≤ i
  · by_cases h2 : i < 32
    · simp [h1, h2]
    · have : x.testBit i = false := Nat.testBit_lt_two_pow (Nat.lt_of_lt_of_le hx (Nat.pow_le_pow_right (by omega) (by omega)))
      simp [h1, this]
  · simp [h1]
end Go.Proofs.Ytacbdhklfgapkaa
namespace Go.Proofs.Ytacbdhklfgapkaa
open Go.RowKit Go.Proofs.YtacbdhklfgapkaaW.PrintWords Go.Proofs.YtacbdhklfgapkaaW.PrintLast Go.Proofs.YtacbdhklfgapkaaW.PrintMore
/-- string(b), b a row of the call's own, in whatever world it still stands. -/
theorem OwnB.string {P : Program} {w : World} {B : Nat} {v : Value} {xs : List Int} (h : OwnB w B v xs) {src dst e : TypeId} (hs : P.underlying src = some (.slice e)) (he : P.underlying e = some (.int .u8)) (hd : P.underlying dst = some .string) :
    (convert src dst v).run P w = .ok (.string (strOfNums xs)) w := by
  obtain ⟨A, c, rfl, _, hC⟩ := Kd.R_reads h
  exact Kd.C_string hs he hd hC
theorem OwnB.below {w w1 : World} {B : Nat} {v : Value} {xs : List Int} (h : OwnB w B v xs) (hb : Below w.heap.size w w1) : OwnB w1 B v xs := Kd.R_below h hb
theorem OwnB.drew {w : World} {B : Nat} {v : Value} {xs : List Int} (h : OwnB w B v xs) : OwnB w.drew B v xs := Kd.R_drew h
theorem OwnB.drewN {w : World} {B : Nat} {v : Value} {xs : List Int} (h : OwnB w B v xs) (n : Nat) : OwnB (w.drewN n) B v xs := Kd.R_drewN h n
theorem OwnB.alloc {w : World} {B : Nat} {v : Value} {xs : List Int} (h : OwnB w B v xs) (o : Obj) : OwnB (w.alloc o) B v xs := Kd.R_alloc h o
theorem OwnB.of_block {w : World} {g B : Nat} {cur : Array Value} {xs : List Int} (hg : w.heap[g]? = some (.cells cur 5 (0, 0))) (hc : cur.toList = xs.map (Value.int .u8)) (hB : B ≤ g) (hm : xs.length ≤ 9223372036854775807) :
    OwnB w B (.slice (some ⟨g, 0, none⟩) xs.length xs.length) xs := by
  have hs : cur.size = xs.length := by have := congrArg List.length hc; simpa using this
  refine Kd.R_of_own (enc := Value.int .u8) ⟨by simp [encs], .inr ⟨g, xs.length, cur, rfl, hB, hg, Nat.le_refl _, by simpa [maxLen] using hm, by simp [hs], ?_⟩⟩ (fun _ _ => trivial)
  rw [hc, Nat.mul_one, List.take_of_length_le (by simp)]
  rfl
end Go.Proofs.Ytacbdhklfgapkaa
