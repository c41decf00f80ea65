/- Small lemmas of my own over the printed words: results that are byte rows of the call's own, frames, masks of bits. No program in sight. -/
import Derived.WalkKit
import Derived.WalkLawsBesides
import Derived.WalkSpells
import Derived.BigQuiet
import Derived.Deep.QuietTactic
import Derived.Deep.RegionHeld3
import Derived.Deep.RegionWith
import Derived.Outline
import Derived.Below
import Derived.Laws.BytesArg
import Derived.Laws.BitsAllLaws
import Derived.Lib.Hide
import Derived.Test.YtacbdhklfgapkaaDoorWWords
import Derived.Test.YtacbdhklfgapkaaDoorWLast
import Derived.Test.YtacbdhklfgapkaaDoorWKept
import Derived.Test.YtacbdhklfgapkaaDoorWMore
import Derived.Test.YtacbdhklfgapkaaDoorWShare
import Derived.Test.YtacbdhklfgapkaaDoorWFoot
set_option linter.unusedVariables false
namespace Go.Proofs.YtacbdhklfgapkaaDoor
open Go.RowKit Go.Proofs.YtacbdhklfgapkaaDoorW.PrintWords Go.Proofs.YtacbdhklfgapkaaDoorW.PrintLast Go.Proofs.YtacbdhklfgapkaaDoorW.PrintMore

/-- A row of bytes of the call's own. -/
def OwnB (w : World) (B : Nat) (v : Value) (xs : List Int) : Prop := Kd.R (Kd.int .u8) 5 w B (fun _ => True) v xs
/-- What a function answers that makes bytes and no error: ([]byte, error). -/
def GotE (w w' : World) (xs : List Int) (e : Ending) : Prop := ∃ v, e = .returned (.tuple #[v, .nilIface]) ∧ OwnB w' w.heap.size v xs ∧ Below w.heap.size w w'
/-- ([]byte, bool), true. -/
def GotT (w w' : World) (xs : List Int) (e : Ending) : Prop := ∃ v, e = .returned (.tuple #[v, .bool true]) ∧ OwnB w' w.heap.size v xs ∧ Below w.heap.size w w'

theorem OwnB.lit (w : World) (B : Nat) (xs : List Int) (hB : B ≤ w.heap.size) (h : xs.length ≤ 9223372036854775807) {cs : Array Value} (hc : cs.toList = xs.map (Value.int .u8)) :
    OwnB (w.alloc (.cells cs 5)) B (.slice (some ⟨w.heap.size, 0, none⟩) xs.length xs.length) xs := by
  obtain ⟨l⟩ := cs
  simp only at hc
  subst hc
  have := own_lit_of (enc := Value.int .u8) w B 5 xs hB h
  exact Kd.R_of_own this (fun _ _ => trivial)

theorem gotE_lit (w : World) (xs ys : List Int) (hx : xs = ys) (h : ys.length ≤ 100) {cs : Array Value} (hc : cs.toList = ys.map (Value.int .u8)) :
    GotE w (w.alloc (.cells cs 5)) xs (.returned (.tuple #[.slice (some ⟨w.heap.size, 0, none⟩) ys.length ys.length, .nilIface])) := by
  subst hx
  exact ⟨_, rfl, OwnB.lit w _ xs (Nat.le_refl _) (by omega) hc, (Below.refl _ _).alloc (Nat.le_refl _) _⟩

theorem and_mask (m : Nat) (x : Nat) (k : Nat) (hk : k ≤ 32) (hx : x < 2 ^ 32) (hm : m = 2 ^ 32 - 2 ^ k) : x &&& m = x / 2 ^ k * 2 ^ k := by
  subst hm
  apply Nat.eq_of_testBit_eq
  intro i
  rw [Nat.testBit_and, Nat.mul_comm, Nat.testBit_two_pow_mul, Nat.testBit_div_two_pow]
  have e : (2 ^ 32 - 2 ^ k).testBit i = (decide (k ≤ i) && decide (i < 32)) := by
    have : 2 ^ 32 - 2 ^ k = 2 ^ k * (2 ^ (32 - k) - 1) := by
      rw [Nat.mul_sub, ← Nat.pow_add, Nat.mul_one]; congr 2; omega
    rw [this, Nat.testBit_two_pow_mul, Nat.testBit_two_pow_sub_one]
    by_cases h1 : k ≤ i <;> simp [h1]
    omega
  rw [e]
  by_cases h1 : k ≤ i
  · by_cases h2 : i < 32
    · simp [h1, h2]
    · have : x.testBit i = false := Nat.testBit_lt_two_pow (Nat.lt_of_lt_of_le hx (Nat.pow_le_pow_right (by omega) (by omega)))
      simp [h1, this]
  · simp [h1]
end Go.Proofs.YtacbdhklfgapkaaDoor
namespace Go.Proofs.YtacbdhklfgapkaaDoor
open Go.RowKit Go.Proofs.YtacbdhklfgapkaaDoorW.PrintWords Go.Proofs.YtacbdhklfgapkaaDoorW.PrintLast Go.Proofs.YtacbdhklfgapkaaDoorW.PrintMore
/-- string(b), b a row of the call's own, in whatever world it still stands. -/
theorem OwnB.string {P : Program} {w : World} {B : Nat} {v : Value} {xs : List Int} (h : OwnB w B v xs) {src dst e : TypeId} (hs : P.underlying src = some (.slice e)) (he : P.underlying e = some (.int .u8)) (hd : P.underlying dst = some .string) :
    (convert src dst v).run P w = .ok (.string (strOfNums xs)) w := by
  obtain ⟨A, c, rfl, _, hC⟩ := Kd.R_reads h
  exact Kd.C_string hs he hd hC
theorem OwnB.below {w w1 : World} {B : Nat} {v : Value} {xs : List Int} (h : OwnB w B v xs) (hb : Below w.heap.size w w1) : OwnB w1 B v xs := Kd.R_below h hb
theorem OwnB.drew {w : World} {B : Nat} {v : Value} {xs : List Int} (h : OwnB w B v xs) : OwnB w.drew B v xs := Kd.R_drew h
theorem OwnB.drewN {w : World} {B : Nat} {v : Value} {xs : List Int} (h : OwnB w B v xs) (n : Nat) : OwnB (w.drewN n) B v xs := Kd.R_drewN h n
theorem OwnB.alloc {w : World} {B : Nat} {v : Value} {xs : List Int} (h : OwnB w B v xs) (o : Obj) : OwnB (w.alloc o) B v xs := Kd.R_alloc h o
theorem OwnB.of_block {w : World} {g B : Nat} {cur : Array Value} {xs : List Int} (hg : w.heap[g]? = some (.cells cur 5 (0, 0))) (hc : cur.toList = xs.map (Value.int .u8)) (hB : B ≤ g) (hm : xs.length ≤ 9223372036854775807) :
    OwnB w B (.slice (some ⟨g, 0, none⟩) xs.length xs.length) xs := by
  have hs : cur.size = xs.length := by have := congrArg List.length hc; simpa using this
  refine Kd.R_of_own (enc := Value.int .u8) ⟨by simp [encs], .inr ⟨g, xs.length, cur, rfl, hB, hg, Nat.le_refl _, by simpa [maxLen] using hm, by simp [hs], ?_⟩⟩ (fun _ _ => trivial)
  rw [hc, Nat.mul_one, List.take_of_length_le (by simp)]
  rfl
/-- 'make([]byte, n)'. -/
theorem make_bytes {P : Program} {W : World} {ops : Array Oper} {rest : List Oper} {o : Oper} {a : Act} {Q : Exit → Act → World → Prop} (hgd : o.guard = none) {N : Tmp} (hd : o.dst = some N) (t : TypeId) (x y : Operand) (ho : o.op = .makeSlice t x y)
    (n : Nat) (hx : a.eval x = .int .i64 (n : Int)) (hy : a.eval y = .int .i64 (n : Int)) (ht : P.underlying t = some (.slice 5)) (hinfo : (P.info? 5).map (fun i => (i.zero, i.size, i.bytes)) = some (some (.int .u8 0), 1, 1)) (hl : n ≤ 140737488355328)
    (h : ∀ v1 w1, OwnB w1 W.heap.size v1 (List.replicate n 0) → Below W.heap.size W w1 → wpList P ops Q rest (a.put o.dst v1) w1) : wpList P ops Q (o :: rest) a W := by
  refine Kd.R_make (Kd.int .u8) (w0 := W) W.heap.size 5 hgd hd t x y ho n hx hy ht (.int .u8 0) 1 hinfo rfl (by decide) (by omega) (0 : Int) (ok := fun _ => True) (okp := fun _ => False) rfl (fun _ _ => trivial) trivial (by omega) (by simp; omega) (Below.refl _ _) (Nat.le_refl _) ?_
  intro v1 w1 ho1 hb1 _ _
  exact h v1 w1 (by rw [Int.toNat_natCast] at ho1; exact ho1) hb1
/-- 'append(s, x...)' of bytes, s a row of the call's own. -/
theorem app_bytes {P : Program} {W : World} {ops : Array Oper} {rest : List Oper} {o : Oper} {a : Act} {Q : Exit → Act → World → Prop} (hgd : o.guard = none) (s x : Operand) (t : TypeId)
    (ho : o.op = .call { callee := .builtin .append, args := #[s, x], argTypes := #[t, t] }) (ht : P.underlying t = some (.slice 5)) (hinfo : (P.info? 5).map (fun i => (i.zero, i.size, i.bytes)) = some (some (.int .u8 0), 1, 1))
    (B : Nat) (v : Value) (xs ys : List Int) (A : Option Addr) (m c : Nat) (hs : a.eval s = v) (hx : a.eval x = .slice A m c) (HO : OwnB W B v xs) (HR : Kd.C (Kd.int .u8) W A m ys) (hB : B ≤ W.heap.size) (hl : xs.length + m ≤ 140737488355328)
    (h : ∀ v1 w1, OwnB w1 B v1 (xs ++ ys) → W.grownBy w1 v.ownBlock → (v1.ownBlock = v.ownBlock ∨ ∃ b, v1.ownBlock = some b ∧ W.heap.size ≤ b) → wpList P ops Q rest (a.put o.dst v1) w1) : wpList P ops Q (o :: rest) a W := by
  refine Kd.R_append_rows (Kd.int .u8) (w0 := W) B hgd s x t 5 (.int .u8 0) 1 ho ht hinfo rfl (by decide) (by omega) v xs ys A m c (fun _ => True) (fun _ => False) hs hx HO HR ?_ (fun _ hk => hk.elim) (fun _ _ => trivial) (Below.refl _ _) hB (by omega) ?_
  · intro x cs h; exact h
  · intro v1 w1 h1 _ hg hat
    exact h v1 w1 h1 hg hat

/-- Bytes that can be read, all of whose memory meets 'ok'. -/
def ReadB (w : World) (ok : Nat → Prop) (v : Value) (xs : List Int) : Prop := Kd.V (Kd.int .u8) 5 w 0 ok v xs
/-- Bytes in memory that is new since w. -/
def NewB (w w' : World) (v : Value) (xs : List Int) : Prop := ReadB w' (fun k => w.heap.size ≤ k) v xs
/-- ([]byte, error): bytes, no error. -/
def GotV (w w' : World) (xs : List Int) (e : Ending) : Prop := ∃ v, e = .returned (.tuple #[v, .nilIface]) ∧ NewB w w' v xs ∧ Below w.heap.size w w'
def GotVT (w w' : World) (xs : List Int) (e : Ending) : Prop := ∃ v, e = .returned (.tuple #[v, .bool true]) ∧ NewB w w' v xs ∧ Below w.heap.size w w'
theorem OwnB.new {w w' : World} {v : Value} {xs : List Int} (h : OwnB w' w.heap.size v xs) : NewB w w' v xs := Kd.R_V (base' := 0) (Kd.R_mono (Kd.R_bound h) (fun _ hk => hk.2.1))
theorem OwnB.newAt {w w' : World} {B : Nat} {v : Value} {xs : List Int} (h : OwnB w' B v xs) (hB : w.heap.size ≤ B) : NewB w w' v xs := Kd.R_V (base' := 0) (Kd.R_mono (Kd.R_bound h) (fun _ hk => Nat.le_trans hB hk.2.1))
theorem GotE.v {w w' : World} {xs : List Int} {e : Ending} (h : GotE w w' xs e) : GotV w w' xs e := by
  obtain ⟨v, he, ho, hb⟩ := h
  exact ⟨v, he, ho.new, hb⟩
theorem ReadB.reads {w : World} {ok : Nat → Prop} {v : Value} {xs : List Int} (h : ReadB w ok v xs) : ∃ A c, v = .slice A xs.length c ∧ xs.length ≤ c ∧ Kd.C (Kd.int .u8) w A xs.length xs := by
  obtain ⟨A, c, rfl⟩ := Kd.V_slice h
  exact ⟨A, c, rfl, (Kd.V_reads' h).2⟩
theorem ReadB.string {P : Program} {w : World} {ok : Nat → Prop} {v : Value} {xs : List Int} (h : ReadB w ok v xs) {src dst e : TypeId} (hs : P.underlying src = some (.slice e)) (he : P.underlying e = some (.int .u8)) (hd : P.underlying dst = some .string) :
    (convert src dst v).run P w = .ok (.string (strOfNums xs)) w := by
  obtain ⟨A, c, rfl, _, hC⟩ := h.reads
  exact Kd.C_string hs he hd hC
theorem NewB.string {P : Program} {w0 w : World} {v : Value} {xs : List Int} (h : NewB w0 w v xs) {src dst e : TypeId} (hs : P.underlying src = some (.slice e)) (he : P.underlying e = some (.int .u8)) (hd : P.underlying dst = some .string) :
    (convert src dst v).run P w = .ok (.string (strOfNums xs)) w := ReadB.string h hs he hd
theorem ReadB.below {w w1 : World} {ok : Nat → Prop} {v : Value} {xs : List Int} (h : ReadB w ok v xs) (hb : Below w.heap.size w w1) : ReadB w1 ok v xs := Kd.V_below h hb
theorem ReadB.mono {w : World} {ok ok' : Nat → Prop} {v : Value} {xs : List Int} (h : ReadB w ok v xs) (hk : ∀ k, ok k → ok' k) : ReadB w ok' v xs := Kd.V_mono h hk
theorem ReadB.grown {w w1 : World} {ok : Nat → Prop} {v : Value} {xs : List Int} (h : ReadB w ok v xs) {row : Option Nat} (hg : w.grownBy w1 row) (hok : ∀ k, ok k → some k ≠ row) : ReadB w1 ok v xs := Kd.V_grown h hg hok
theorem NewB.below {w0 w w1 : World} {v : Value} {xs : List Int} (h : NewB w0 w v xs) (hb : Below w.heap.size w w1) : NewB w0 w1 v xs := Kd.V_below (e := 5) (base := 0) h hb
theorem NewB.drew {w0 w : World} {v : Value} {xs : List Int} (h : NewB w0 w v xs) : NewB w0 w.drew v xs := Kd.V_drew (e := 5) (base := 0) h
theorem NewB.drewN {w0 w : World} {v : Value} {xs : List Int} (h : NewB w0 w v xs) (n : Nat) : NewB w0 (w.drewN n) v xs := Kd.V_drewN (e := 5) (base := 0) h n
theorem NewB.since {w0 w1 w : World} {v : Value} {xs : List Int} (h : NewB w1 w v xs) (hle : w0.heap.size ≤ w1.heap.size) : NewB w0 w v xs := Kd.V_mono (e := 5) (base := 0) h (fun _ hk => Nat.le_trans hle hk)
theorem NewB.reads {w0 w : World} {v : Value} {xs : List Int} (h : NewB w0 w v xs) : ∃ A c, v = .slice A xs.length c ∧ xs.length ≤ c ∧ Kd.C (Kd.int .u8) w A xs.length xs := ReadB.reads h
theorem NewB.nil (w0 w : World) : NewB w0 w (.slice none 0 0) [] := Kd.V_nil (Kd.int .u8) 5 _ 0 _
/-- A slice of bytes that came in. -/
theorem readB_of {w : World} {A : Option Addr} {c : Nat} {xs : List Int} (hl : xs.length ≤ c) (h : Kd.C (Kd.int .u8) w A xs.length xs) : ReadB w (fun k => k < w.heap.size) (.slice A xs.length c) xs := ⟨A, c, rfl, hl, Kd.C_F (Kd.heap_int .u8) h⟩
/-- A cut of a block of bytes known whole. -/
theorem readB_block {w : World} {g t s n : Nat} {ok : Nat → Prop} {xs ys : List Int} (h : w.heap[g]? = some (.cells (xs.map (Value.int .u8)).toArray t (0, 0))) (hx : xs.drop s = ys) (hn : ys.length = n) (hm : n ≤ 9223372036854775807) (hok : ok g) :
    ReadB w ok (.slice (some ⟨g, s, none⟩) n n) ys := by
  subst hn
  refine ⟨some ⟨g, s, none⟩, ys.length, rfl, Nat.le_refl _, fun W' hW => ?_⟩
  have h' : W'.heap[g]? = some (.cells (xs.map (Value.int .u8)).toArray t (0, 0)) := (hW g hok (blk_lt h)).trans h
  refine Kd.C_of_reads (enc := Value.int .u8) (d := (0 : Int)) ⟨rfl, hm, fun _ => ⟨_, rfl, fun j hj => ?_⟩⟩
  have e : (⟨g, s, none⟩ : Addr).add j = ⟨g, s + j, none⟩ := by unfold Addr.add; split <;> simp_all
  rw [e, blk_cell h' (s + j)]
  subst hx
  rw [List.length_drop] at hj
  simp [List.getElem?_drop, List.getElem?_eq_getElem (show s + j < xs.length by omega)]
theorem ReadB.C {w : World} {ok : Nat → Prop} {A : Option Addr} {m c : Nat} {xs : List Int} (h : ReadB w ok (.slice A m c) xs) : Kd.C (Kd.int .u8) w A m xs := by
  obtain ⟨h1, _, h3⟩ := Kd.V_reads' h
  rw [h1]
  exact h3
end Go.Proofs.YtacbdhklfgapkaaDoor
