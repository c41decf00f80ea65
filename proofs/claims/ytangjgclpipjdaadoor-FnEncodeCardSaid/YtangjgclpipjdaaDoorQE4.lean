/- The lemmas and walks that FnEncode rests on, part 4: VarArg Lib Spec PLen SpecLen SOpen Clone Num Open Oid Int Bin Uint Shelf POid WDot Addr SVal WName. -/
import Derived.ProofKit
import Derived.OpenShut
import Derived.ChangeVars
import Derived.Lib.SmallJoins
import Derived.Test.YtangjgclpipjdaaDoorProg
import Derived.WalkKit
import Derived.WalkLawsBesides
import Derived.WalkSpells
import Derived.BigQuiet
import Derived.Deep.QuietTactic
import Derived.Deep.RegionHeld3
import Derived.Deep.RegionWith
import Derived.Outline
import Derived.Below
import Derived.Laws.BytesArg
import Derived.Laws.BitsAllLaws
import Derived.Lib.Hide
import Derived.OwnWalk
import Derived.Shelf.Strconv.AppendUint10
import Derived.Lib.EndianBits
import Derived.Test.YtangjgclpipjdaaDoorQE1
set_option linter.unusedVariables false
namespace Go.Proofs.YtangjgclpipjdaaDoor
open Go.ChangeShapes Go.WideShapes Go.ChangeAt Go.RowKit Go.Joins
theorem cellsVar : Tryd.prog.cellsOf 24 = 5 := by kernel_rfl
theorem cellsVar5 : Tryd.prog.cellsOf 9 = 1 ∧ Tryd.prog.cellsOf 3 = 1 ∧ Tryd.prog.cellsOf 2 = 1 ∧ Tryd.prog.cellsOf 22 = 1 := ⟨by kernel_rfl, by kernel_rfl, by kernel_rfl, by kernel_rfl⟩
/-- impl.Var as a value. -/
abbrev varV (nm : ByteArray) (ty i u : Int) (tx : ByteArray) : Value := .agg #[.string nm, .int .i64 ty, .int .i64 i, .int .u64 u, .string tx]
end Go.Proofs.YtangjgclpipjdaaDoor
set_option linter.unusedVariables false
namespace Go.Proofs.YtangjgclpipjdaaDoor
open Go.RowKit Go.Proofs.YtangjgclpipjdaaDoorW.PrintWords Go.Proofs.YtangjgclpipjdaaDoorW.PrintLast Go.Proofs.YtangjgclpipjdaaDoorW.PrintMore
/-- A row of bytes of the call's own. -/
def OwnB (w : World) (B : Nat) (v : Value) (xs : List Int) : Prop := Kd.R (Kd.int .u8) 5 w B (fun _ => True) v xs
/-- What a function answers that makes bytes and no error: ([]byte, error). -/
def GotE (w w' : World) (xs : List Int) (e : Ending) : Prop := ∃ v, e = .returned (.tuple #[v, .nilIface]) ∧ OwnB w' w.heap.size v xs ∧ Below w.heap.size w w'
/-- ([]byte, bool), true. -/
def GotT (w w' : World) (xs : List Int) (e : Ending) : Prop := ∃ v, e = .returned (.tuple #[v, .bool true]) ∧ OwnB w' w.heap.size v xs ∧ Below w.heap.size w w'
theorem OwnB.lit (w : World) (B : Nat) (xs : List Int) (hB : B ≤ w.heap.size) (h : xs.length ≤ 9223372036854775807) {cs : Array Value} (hc : cs.toList = xs.map (Value.int .u8)) :
    OwnB (w.alloc (.cells cs 5)) B (.slice (some ⟨w.heap.size, 0, none⟩) xs.length xs.length) xs := by
  obtain ⟨l⟩ := cs
  simp only at hc
  subst hc
  have := own_lit_of (enc := Value.int .u8) w B 5 xs hB h
  exact Kd.R_of_own this (fun _ _ => trivial)
theorem gotE_lit (w : World) (xs ys : List Int) (hx : xs = ys) (h : ys.length ≤ 100) {cs : Array Value} (hc : cs.toList = ys.map (Value.int .u8)) :
    GotE w (w.alloc (.cells cs 5)) xs (.returned (.tuple #[.slice (some ⟨w.heap.size, 0, none⟩) ys.length ys.length, .nilIface])) := by
  subst hx
  exact ⟨_, rfl, OwnB.lit w _ xs (Nat.le_refl _) (by omega) hc, (Below.refl _ _).alloc (Nat.le_refl _) _⟩
theorem and_mask (m : Nat) (x : Nat) (k : Nat) (hk : k ≤ 32) (hx : x < 2 ^ 32) (hm : m = 2 ^ 32 - 2 ^ k) : x &&& m = x / 2 ^ k * 2 ^ k := by
  subst hm
  apply Nat.eq_of_testBit_eq
  intro i
  rw [Nat.testBit_and, Nat.mul_comm, Nat.testBit_two_pow_mul, Nat.testBit_div_two_pow]
  have e : (2 ^ 32 - 2 ^ k).testBit i = (decide (k ≤ i) && decide (i < 32)) := by
    have : 2 ^ 32 - 2 ^ k = 2 ^ k * (2 ^ (32 - k) - 1) := by
      rw [Nat.mul_sub, ← Nat.pow_add, Nat.mul_one]; congr 2; omega
    rw [this, Nat.testBit_two_pow_mul, Nat.testBit_two_pow_sub_one]
    by_cases h1 : k ≤ i <;> simp [h1]
    omega
  rw [e]
  by_cases h1 : k ≤ i
  · by_cases h2 : i < 32
    · simp [h1, h2]
    · have : x.testBit i = false := Nat.testBit_lt_two_pow (Nat.lt_of_lt_of_le hx (Nat.pow_le_pow_right (by omega) (by omega)))
      simp [h1, this]
  · simp [h1]
end Go.Proofs.YtangjgclpipjdaaDoor
namespace Go.Proofs.YtangjgclpipjdaaDoor
open Go.RowKit Go.Proofs.YtangjgclpipjdaaDoorW.PrintWords Go.Proofs.YtangjgclpipjdaaDoorW.PrintLast Go.Proofs.YtangjgclpipjdaaDoorW.PrintMore
/-- string(b), b a row of the call's own, in whatever world it still stands. -/
theorem OwnB.string {P : Program} {w : World} {B : Nat} {v : Value} {xs : List Int} (h : OwnB w B v xs) {src dst e : TypeId} (hs : P.underlying src = some (.slice e)) (he : P.underlying e = some (.int .u8)) (hd : P.underlying dst = some .string) :
    (convert src dst v).run P w = .ok (.string (strOfNums xs)) w := by
  obtain ⟨A, c, rfl, _, hC⟩ := Kd.R_reads h
  exact Kd.C_string hs he hd hC
theorem OwnB.below {w w1 : World} {B : Nat} {v : Value} {xs : List Int} (h : OwnB w B v xs) (hb : Below w.heap.size w w1) : OwnB w1 B v xs := Kd.R_below h hb
theorem OwnB.drew {w : World} {B : Nat} {v : Value} {xs : List Int} (h : OwnB w B v xs) : OwnB w.drew B v xs := Kd.R_drew h
theorem OwnB.drewN {w : World} {B : Nat} {v : Value} {xs : List Int} (h : OwnB w B v xs) (n : Nat) : OwnB (w.drewN n) B v xs := Kd.R_drewN h n
theorem OwnB.alloc {w : World} {B : Nat} {v : Value} {xs : List Int} (h : OwnB w B v xs) (o : Obj) : OwnB (w.alloc o) B v xs := Kd.R_alloc h o
theorem OwnB.of_block {w : World} {g B : Nat} {cur : Array Value} {xs : List Int} (hg : w.heap[g]? = some (.cells cur 5 (0, 0))) (hc : cur.toList = xs.map (Value.int .u8)) (hB : B ≤ g) (hm : xs.length ≤ 9223372036854775807) :
    OwnB w B (.slice (some ⟨g, 0, none⟩) xs.length xs.length) xs := by
  have hs : cur.size = xs.length := by have := congrArg List.length hc; simpa using this
  refine Kd.R_of_own (enc := Value.int .u8) ⟨by simp [encs], .inr ⟨g, xs.length, cur, rfl, hB, hg, Nat.le_refl _, by simpa [maxLen] using hm, by simp [hs], ?_⟩⟩ (fun _ _ => trivial)
  rw [hc, Nat.mul_one, List.take_of_length_le (by simp)]
  rfl
/-- 'append(s, x...)' of bytes, s a row of the call's own. -/
theorem app_bytes {P : Program} {W : World} {ops : Array Oper} {rest : List Oper} {o : Oper} {a : Act} {Q : Exit → Act → World → Prop} (hgd : o.guard = none) (s x : Operand) (t : TypeId)
    (ho : o.op = .call { callee := .builtin .append, args := #[s, x], argTypes := #[t, t] }) (ht : P.underlying t = some (.slice 5)) (hinfo : (P.info? 5).map (fun i => (i.zero, i.size, i.bytes)) = some (some (.int .u8 0), 1, 1))
    (B : Nat) (v : Value) (xs ys : List Int) (A : Option Addr) (m c : Nat) (hs : a.eval s = v) (hx : a.eval x = .slice A m c) (HO : OwnB W B v xs) (HR : Kd.C (Kd.int .u8) W A m ys) (hB : B ≤ W.heap.size) (hl : xs.length + m ≤ 140737488355328)
    (h : ∀ v1 w1, OwnB w1 B v1 (xs ++ ys) → W.grownBy w1 v.ownBlock → (v1.ownBlock = v.ownBlock ∨ ∃ b, v1.ownBlock = some b ∧ W.heap.size ≤ b) → wpList P ops Q rest (a.put o.dst v1) w1) : wpList P ops Q (o :: rest) a W := by
  refine Kd.R_append_rows (Kd.int .u8) (w0 := W) B hgd s x t 5 (.int .u8 0) 1 ho ht hinfo rfl (by decide) (by omega) v xs ys A m c (fun _ => True) (fun _ => False) hs hx HO HR ?_ (fun _ hk => hk.elim) (fun _ _ => trivial) (Below.refl _ _) hB (by omega) ?_
  · intro x cs h; exact h
  · intro v1 w1 h1 _ hg hat
    exact h v1 w1 h1 hg hat
/-- Bytes that can be read, all of whose memory meets 'ok'. -/
def ReadB (w : World) (ok : Nat → Prop) (v : Value) (xs : List Int) : Prop := Kd.V (Kd.int .u8) 5 w 0 ok v xs
/-- Bytes in memory that is new since w. -/
def NewB (w w' : World) (v : Value) (xs : List Int) : Prop := ReadB w' (fun k => w.heap.size ≤ k) v xs
/-- ([]byte, error): bytes, no error. -/
def GotV (w w' : World) (xs : List Int) (e : Ending) : Prop := ∃ v, e = .returned (.tuple #[v, .nilIface]) ∧ NewB w w' v xs ∧ Below w.heap.size w w'
theorem OwnB.new {w w' : World} {v : Value} {xs : List Int} (h : OwnB w' w.heap.size v xs) : NewB w w' v xs := Kd.R_V (base' := 0) (Kd.R_mono (Kd.R_bound h) (fun _ hk => hk.2.1))
theorem OwnB.newAt {w w' : World} {B : Nat} {v : Value} {xs : List Int} (h : OwnB w' B v xs) (hB : w.heap.size ≤ B) : NewB w w' v xs := Kd.R_V (base' := 0) (Kd.R_mono (Kd.R_bound h) (fun _ hk => Nat.le_trans hB hk.2.1))
theorem GotE.v {w w' : World} {xs : List Int} {e : Ending} (h : GotE w w' xs e) : GotV w w' xs e := by
  obtain ⟨v, he, ho, hb⟩ := h
  exact ⟨v, he, ho.new, hb⟩
theorem ReadB.reads {w : World} {ok : Nat → Prop} {v : Value} {xs : List Int} (h : ReadB w ok v xs) : ∃ A c, v = .slice A xs.length c ∧ xs.length ≤ c ∧ Kd.C (Kd.int .u8) w A xs.length xs := by
  obtain ⟨A, c, rfl⟩ := Kd.V_slice h
  exact ⟨A, c, rfl, (Kd.V_reads' h).2⟩
theorem ReadB.string {P : Program} {w : World} {ok : Nat → Prop} {v : Value} {xs : List Int} (h : ReadB w ok v xs) {src dst e : TypeId} (hs : P.underlying src = some (.slice e)) (he : P.underlying e = some (.int .u8)) (hd : P.underlying dst = some .string) :
    (convert src dst v).run P w = .ok (.string (strOfNums xs)) w := by
  obtain ⟨A, c, rfl, _, hC⟩ := h.reads
  exact Kd.C_string hs he hd hC
theorem NewB.string {P : Program} {w0 w : World} {v : Value} {xs : List Int} (h : NewB w0 w v xs) {src dst e : TypeId} (hs : P.underlying src = some (.slice e)) (he : P.underlying e = some (.int .u8)) (hd : P.underlying dst = some .string) :
    (convert src dst v).run P w = .ok (.string (strOfNums xs)) w := ReadB.string h hs he hd
theorem ReadB.below {w w1 : World} {ok : Nat → Prop} {v : Value} {xs : List Int} (h : ReadB w ok v xs) (hb : Below w.heap.size w w1) : ReadB w1 ok v xs := Kd.V_below h hb
theorem ReadB.mono {w : World} {ok ok' : Nat → Prop} {v : Value} {xs : List Int} (h : ReadB w ok v xs) (hk : ∀ k, ok k → ok' k) : ReadB w ok' v xs := Kd.V_mono h hk
theorem ReadB.grown {w w1 : World} {ok : Nat → Prop} {v : Value} {xs : List Int} (h : ReadB w ok v xs) {row : Option Nat} (hg : w.grownBy w1 row) (hok : ∀ k, ok k → some k ≠ row) : ReadB w1 ok v xs := Kd.V_grown h hg hok
theorem NewB.below {w0 w w1 : World} {v : Value} {xs : List Int} (h : NewB w0 w v xs) (hb : Below w.heap.size w w1) : NewB w0 w1 v xs := Kd.V_below (e := 5) (base := 0) h hb
theorem NewB.drew {w0 w : World} {v : Value} {xs : List Int} (h : NewB w0 w v xs) : NewB w0 w.drew v xs := Kd.V_drew (e := 5) (base := 0) h
theorem NewB.drewN {w0 w : World} {v : Value} {xs : List Int} (h : NewB w0 w v xs) (n : Nat) : NewB w0 (w.drewN n) v xs := Kd.V_drewN (e := 5) (base := 0) h n
theorem NewB.since {w0 w1 w : World} {v : Value} {xs : List Int} (h : NewB w1 w v xs) (hle : w0.heap.size ≤ w1.heap.size) : NewB w0 w v xs := Kd.V_mono (e := 5) (base := 0) h (fun _ hk => Nat.le_trans hle hk)
theorem NewB.reads {w0 w : World} {v : Value} {xs : List Int} (h : NewB w0 w v xs) : ∃ A c, v = .slice A xs.length c ∧ xs.length ≤ c ∧ Kd.C (Kd.int .u8) w A xs.length xs := ReadB.reads h
theorem NewB.nil (w0 w : World) : NewB w0 w (.slice none 0 0) [] := Kd.V_nil (Kd.int .u8) 5 _ 0 _
/-- A slice of bytes that came in. -/
theorem readB_of {w : World} {A : Option Addr} {c : Nat} {xs : List Int} (hl : xs.length ≤ c) (h : Kd.C (Kd.int .u8) w A xs.length xs) : ReadB w (fun k => k < w.heap.size) (.slice A xs.length c) xs := ⟨A, c, rfl, hl, Kd.C_F (Kd.heap_int .u8) h⟩
/-- A cut of a block of bytes known whole. -/
theorem readB_block {w : World} {g t s n : Nat} {ok : Nat → Prop} {xs ys : List Int} (h : w.heap[g]? = some (.cells (xs.map (Value.int .u8)).toArray t (0, 0))) (hx : xs.drop s = ys) (hn : ys.length = n) (hm : n ≤ 9223372036854775807) (hok : ok g) :
    ReadB w ok (.slice (some ⟨g, s, none⟩) n n) ys := by
  subst hn
  refine ⟨some ⟨g, s, none⟩, ys.length, rfl, Nat.le_refl _, fun W' hW => ?_⟩
  have h' : W'.heap[g]? = some (.cells (xs.map (Value.int .u8)).toArray t (0, 0)) := (hW g hok (blk_lt h)).trans h
  refine Kd.C_of_reads (enc := Value.int .u8) (d := (0 : Int)) ⟨rfl, hm, fun _ => ⟨_, rfl, fun j hj => ?_⟩⟩
  have e : (⟨g, s, none⟩ : Addr).add j = ⟨g, s + j, none⟩ := by unfold Addr.add; split <;> simp_all
  rw [e, blk_cell h' (s + j)]
  subst hx
  rw [List.length_drop] at hj
  simp [List.getElem?_drop, List.getElem?_eq_getElem (show s + j < xs.length by omega)]
theorem ReadB.C {w : World} {ok : Nat → Prop} {A : Option Addr} {m c : Nat} {xs : List Int} (h : ReadB w ok (.slice A m c) xs) : Kd.C (Kd.int .u8) w A m xs := by
  obtain ⟨h1, _, h3⟩ := Kd.V_reads' h
  rw [h1]
  exact h3
end Go.Proofs.YtangjgclpipjdaaDoor
set_option linter.unusedVariables false
namespace Go.Proofs.YtangjgclpipjdaaDoor
open Go.RowKit Go.Proofs.YtangjgclpipjdaaDoorW.PrintWords Go.Proofs.YtangjgclpipjdaaDoorW.PrintLast Go.Proofs.YtangjgclpipjdaaDoorW.PrintMore
def lenBytes (n : Int) : List Int :=
  if n ≤ 0 then [] else if n ≤ 255 then [n] else if n ≤ 65535 then [n / 256, n % 256] else if n ≤ 16777215 then [n / 65536, n / 256 % 256, n % 256] else [n / 16777216, n / 65536 % 256, n / 256 % 256, n % 256]
theorem lenBytes_len (n : Int) : (lenBytes n).length ≤ 4 := by unfold lenBytes; split <;> (try split) <;> (try split) <;> (try split) <;> simp
def sLen (n : Int) (wide : Nat) : List Int :=
  if n < 128 ∧ wide = 0 then [n] else ((128 + ((lenBytes n).length + wide : Nat) : Int)) :: (List.replicate wide 0 ++ lenBytes n)
def sSealed (tag : Int) (c : List Int) (wide : Nat) : List Int := tag % 256 :: (sLen c.length wide ++ c)
theorem sLen_len (n : Int) (wide : Nat) : (sLen n wide).length ≤ 5 + wide := by
  have := lenBytes_len n
  unfold sLen
  split <;> simp <;> omega
end Go.Proofs.YtangjgclpipjdaaDoor
set_option linter.unusedVariables false
namespace Go.Proofs.YtangjgclpipjdaaDoor
open Go.RowKit Go.Proofs.YtangjgclpipjdaaDoorW.PrintWords Go.Proofs.YtangjgclpipjdaaDoorW.PrintLast Go.Proofs.YtangjgclpipjdaaDoorW.PrintMore
/-- Bytes to the base 256. -/
def beVal : List Int → Int → Int
  | [], a => a
  | x :: l, a => beVal l (a * 256 + x)
theorem beVal_snoc (l : List Int) (x : Int) : ∀ a, beVal (l ++ [x]) a = beVal l a * 256 + x := by
  induction l with
  | nil => intro a; rfl
  | cons y l ih => intro a; exact ih _
/-- Bytes: each is one. -/
def IsB (xs : List Int) : Prop := ∀ x ∈ xs, 0 ≤ x ∧ x ≤ 255
theorem IsB.rd {xs : List Int} (h : IsB xs) (i : Int) : 0 ≤ rd xs i ∧ rd xs i ≤ 255 := by
  unfold Go.Proofs.YtangjgclpipjdaaDoorW.PrintWords.rd
  rw [List.getD_eq_getElem?_getD]
  cases e : xs[i.toNat]? with
  | none => simp
  | some x => exact h x (List.mem_of_getElem? e)
theorem beVal_bound (l : List Int) (h : IsB l) : ∀ a : Int, 0 ≤ a → 0 ≤ beVal l a ∧ beVal l a < (a + 1) * 256 ^ l.length := by
  induction l with
  | nil => intro a ha; simp [beVal]; omega
  | cons x l ih =>
    intro a ha
    have hx := h x (by simp)
    have := ih (fun y hy => h y (by simp [hy])) (a * 256 + x) (by omega)
    refine ⟨this.1, Int.lt_of_lt_of_le this.2 ?_⟩
    simp only [List.length_cons, Int.pow_succ]
    have h2 : a * 256 + x + 1 ≤ (a + 1) * 256 := by omega
    have h3 : (0 : Int) ≤ 256 ^ l.length := Int.pow_nonneg (by omega)
    calc (a * 256 + x + 1) * 256 ^ l.length ≤ ((a + 1) * 256) * 256 ^ l.length := Int.mul_le_mul_of_nonneg_right h2 h3
      _ = (a + 1) * (256 ^ l.length * 256) := by rw [Int.mul_assoc, Int.mul_comm 256]
theorem cell_at {w : World} {A : Option Addr} {xs : List Int} (h : Kd.C (Kd.int .u8) w A xs.length xs) (i : Nat) (hi : i < xs.length) : ∃ ad, A = some ad ∧ w.cell? (ad.add i) = some (.int .u8 (rd xs i)) := by
  obtain ⟨ad, e, hx⟩ := Kd.at_int h i (by omega) (by omega)
  exact ⟨ad, e, by simpa using hx⟩
theorem isB_take {xs : List Int} (h : IsB xs) (k : Nat) : IsB (xs.take k) := fun x hx => h x (List.mem_of_mem_take hx)
theorem isB_drop {xs : List Int} (h : IsB xs) (k : Nat) : IsB (xs.drop k) := fun x hx => h x (List.mem_of_mem_drop hx)
/-- The length of all and where the content begins. -/
def pLen (xs : List Int) : Int × Int := if rd xs 1 ≤ 127 then (rd xs 1 + 2, 2) else (beVal ((xs.drop 2).take (rd xs 1 - 128).toNat) 0 + 2 + (rd xs 1 - 128), 2 + (rd xs 1 - 128))
end Go.Proofs.YtangjgclpipjdaaDoor
set_option linter.unusedVariables false
namespace Go.Proofs.YtangjgclpipjdaaDoor
open Go.RowKit Go.Proofs.YtangjgclpipjdaaDoorW.PrintWords Go.Proofs.YtangjgclpipjdaaDoorW.PrintLast Go.Proofs.YtangjgclpipjdaaDoorW.PrintMore
theorem beVal_zeros (k : Nat) (l : List Int) : beVal (List.replicate k 0 ++ l) 0 = beVal l 0 := by
  induction k with
  | zero => rfl
  | succ k ih => rw [List.replicate_succ]; exact ih
theorem beVal_lenBytes (n : Int) (h0 : 0 ≤ n) (h1 : n ≤ 4294967295) : beVal (lenBytes n) 0 = n := by
  unfold lenBytes
  split
  · simp [beVal]; omega
  split
  · simp [beVal]
  split
  · simp [beVal]; omega
  split
  · simp [beVal]; omega
  · simp [beVal]; omega
theorem lenBytes_isB (n : Int) (h1 : n ≤ 4294967295) : IsB (lenBytes n) := by
  unfold lenBytes
  intro x hx
  split at hx
  · simp at hx
  split at hx
  · simp at hx; omega
  split at hx
  · simp at hx; omega
  split at hx
  · simp at hx; omega
  · simp at hx; omega
theorem isB_append {a b : List Int} (ha : IsB a) (hb : IsB b) : IsB (a ++ b) := fun x hx => (List.mem_append.1 hx).elim (ha x) (hb x)
theorem isB_cons {x : Int} {b : List Int} (h0 : 0 ≤ x) (h1 : x ≤ 255) (hb : IsB b) : IsB (x :: b) := fun y hy => (List.mem_cons.1 hy).elim (fun e => by omega) (hb y)
theorem isB_zeros (k : Nat) : IsB (List.replicate k 0) := fun x hx => by rw [List.eq_of_mem_replicate hx]; omega
theorem sLen_isB (n : Int) (wide : Nat) (h0 : 0 ≤ n) (h1 : n ≤ 4294967295) (hw : wide ≤ 100) : IsB (sLen n wide) := by
  have := lenBytes_len n
  unfold sLen
  split
  · exact isB_cons h0 (by omega) (fun x hx => by simp at hx)
  · exact isB_cons (by omega) (by omega) (isB_append (isB_zeros _) (lenBytes_isB n h1))
theorem sSealed_isB (tag : Int) (c : List Int) (wide : Nat) (hc : IsB c) (h : c.length ≤ 4294967295) (hw : wide ≤ 100) : IsB (sSealed tag c wide) :=
  isB_cons (by omega) (by omega) (isB_append (sLen_isB _ _ (by omega) (by omega) hw) hc)
/-- What parseLength asks of bytes that begin with an element. -/
def LenOk (xs : List Int) : Prop := 2 ≤ xs.length ∧ rd xs 1 ≠ 128 ∧ rd xs 1 ≤ 135 ∧ (127 < rd xs 1 → 2 + (rd xs 1 - 128).toNat ≤ xs.length)
theorem sealed_read (tag : Int) (c rest : List Int) (wide : Nat) (hw : wide ≤ 3) (h : c.length ≤ 4294967295) :
    LenOk (sSealed tag c wide ++ rest) ∧ pLen (sSealed tag c wide ++ rest) = (((sSealed tag c wide).length : Int), ((sSealed tag c wide).length : Int) - c.length) := by
  have hb := lenBytes_len c.length
  by_cases hs : (c.length : Int) < 128 ∧ wide = 0
  · have e : sSealed tag c wide = tag % 256 :: (c.length : Int) :: c := by unfold sSealed sLen; rw [if_pos hs]; rfl
    rw [e]
    have r1 : rd (tag % 256 :: (c.length : Int) :: c ++ rest) 1 = c.length := rfl
    unfold LenOk pLen
    rw [r1, if_pos (by omega)]
    refine ⟨⟨by simp, by omega, by omega, fun h => by omega⟩, ?_⟩
    simp only [List.length_cons]
    rw [Prod.mk.injEq]
    omega
  · have e : sSealed tag c wide = tag % 256 :: (128 + ((lenBytes c.length).length + wide : Nat) : Int) :: (List.replicate wide 0 ++ lenBytes c.length ++ c) := by unfold sSealed sLen; rw [if_neg hs]; rfl
    have hpos : 1 ≤ (lenBytes c.length).length + wide := by
      by_cases h0 : wide = 0
      · have : ¬ (c.length : Int) ≤ 0 := by omega
        unfold lenBytes
        rw [if_neg this]
        split
        · simp
        split
        · simp; omega
        split <;> simp <;> omega
      · omega
    rw [e]
    generalize hm : (lenBytes (c.length : Int)).length + wide = m at *
    have r1 : rd (tag % 256 :: (128 + (m : Nat) : Int) :: (List.replicate wide 0 ++ lenBytes c.length ++ c) ++ rest) 1 = 128 + (m : Int) := rfl
    have hl : (tag % 256 :: (128 + (m : Nat) : Int) :: (List.replicate wide 0 ++ lenBytes c.length ++ c)).length = 2 + m + c.length := by simp; omega
    have ht : ((tag % 256 :: (128 + (m : Nat) : Int) :: (List.replicate wide 0 ++ lenBytes c.length ++ c) ++ rest).drop 2).take m = List.replicate wide 0 ++ lenBytes c.length := by
      simp only [List.cons_append, List.drop_succ_cons, List.drop_zero, List.append_assoc]
      rw [← List.append_assoc, List.take_append_of_le_length (by simp; omega), List.take_of_length_le (by simp; omega)]
    unfold LenOk pLen
    rw [r1, if_neg (by omega), show (128 + (m : Int) - 128).toNat = m by omega, ht, beVal_zeros, beVal_lenBytes _ (by omega) (by omega), List.length_append, hl]
    refine ⟨⟨by omega, by omega, by omega, fun _ => by omega⟩, ?_⟩
    rw [Prod.mk.injEq]
    omega
end Go.Proofs.YtangjgclpipjdaaDoor
set_option linter.unusedVariables false
namespace Go.Proofs.YtangjgclpipjdaaDoor
open Go.RowKit Go.Proofs.YtangjgclpipjdaaDoorW.PrintWords Go.Proofs.YtangjgclpipjdaaDoorW.PrintLast Go.Proofs.YtangjgclpipjdaaDoorW.PrintMore
/-- Bytes that begin with a whole element. -/
def OpenOk (b : List Int) : Prop := 2 ≤ b.length ∧ rd b 1 ≠ 128 ∧ rd b 1 ≤ 132 ∧ (127 < rd b 1 → 2 + (rd b 1 - 128).toNat ≤ b.length) ∧ (pLen b).1 ≤ b.length
instance (b : List Int) : Decidable (OpenOk b) := by unfold OpenOk; infer_instance
/-- Tag, content, what is behind. -/
def sOpen (b : List Int) : Option (Int × List Int × List Int) :=
  if OpenOk b then some (rd b 0, (b.take (pLen b).1.toNat).drop (pLen b).2.toNat, b.drop (pLen b).1.toNat) else none
theorem pLen_ge (b : List Int) (hb : IsB b) (h : OpenOk b) : 2 ≤ (pLen b).2 ∧ (pLen b).2 ≤ (pLen b).1 ∧ (pLen b).1 ≤ b.length := by
  refine ⟨?_, ?_, h.2.2.2.2⟩
  · unfold pLen
    split <;> simp only <;> omega
  · have h1 := hb.rd 1
    unfold pLen
    split
    · simp only; omega
    · have := (beVal_bound ((b.drop 2).take (rd b 1 - 128).toNat) (isB_take (isB_drop hb 2) _) 0 (Int.le_refl 0)).1
      simp only
      omega
theorem sOpen_sealed (tag : Int) (c rest : List Int) (wide : Nat) (t0 : 0 ≤ tag) (t1 : tag ≤ 255) (hc : c.length ≤ 4294967295) (hw : wide ≤ 3) (h4 : (lenBytes c.length).length + wide ≤ 4) : sOpen (sSealed tag c wide ++ rest) = some (tag, c, rest) := by
  obtain ⟨⟨a1, a2, a3, a4⟩, hp⟩ := sealed_read tag c rest wide hw hc
  have hs : sSealed tag c wide = (tag % 256 :: sLen c.length wide) ++ c := by unfold sSealed; simp
  have h132 : rd (sSealed tag c wide ++ rest) 1 ≤ 132 := by
    have hlb := lenBytes_len c.length
    unfold sSealed sLen
    split
    · show ((c.length : Nat) : Int) ≤ 132; omega
    · show (128 + ((lenBytes (c.length : Int)).length + wide : Nat) : Int) ≤ 132; omega
  have hle : (sSealed tag c wide).length = (tag % 256 :: sLen c.length wide).length + c.length := by rw [hs]; simp; omega
  generalize hh : (tag % 256 :: sLen c.length wide) = hd at *
  have hok : OpenOk (sSealed tag c wide ++ rest) := ⟨a1, a2, h132, a4, by rw [hp]; simp; omega⟩
  unfold sOpen
  rw [if_pos hok, hp]
  simp only [Int.toNat_natCast]
  rw [show ((sSealed tag c wide).length : Int) - c.length = (hd.length : Nat) by omega, Int.toNat_natCast, List.take_left', List.drop_left' rfl, hs, List.drop_left' rfl]
  · have h0 : rd (hd ++ c ++ rest) 0 = tag := by
      rw [← hh]
      show tag % 256 = tag
      omega
    rw [h0]
  · rfl
theorem sOpen_len {b c rest : List Int} {t : Int} (hb : IsB b) (h : sOpen b = some (t, c, rest)) : c.length + rest.length + 2 ≤ b.length := by
  unfold sOpen at h
  split at h
  · rename_i hok
    simp only [Option.some.injEq, Prod.mk.injEq] at h
    obtain ⟨-, rfl, rfl⟩ := h
    have := pLen_ge b hb hok
    simp
    omega
  · simp at h
theorem sOpen_isB {b c rest : List Int} {t : Int} (hb : IsB b) (h : sOpen b = some (t, c, rest)) : IsB c ∧ IsB rest ∧ 0 ≤ t ∧ t ≤ 255 := by
  unfold sOpen at h
  split at h
  · simp only [Option.some.injEq, Prod.mk.injEq] at h
    obtain ⟨rfl, rfl, rfl⟩ := h
    have := hb.rd 0
    exact ⟨isB_drop (isB_take hb _) _, isB_drop hb _, this.1, this.2⟩
  · simp at h
def sNext (b : List Int) (tag : Int) : Option (List Int × List Int) := match sOpen b with
  | some (t, c, rest) => if t = tag then some (c, rest) else none
  | none => none
theorem sNext_sealed (tag : Int) (c rest : List Int) (wide : Nat) (t0 : 0 ≤ tag) (t1 : tag ≤ 255) (hc : c.length ≤ 4294967295) (hw : wide ≤ 3) (h4 : (lenBytes c.length).length + wide ≤ 4) : sNext (sSealed tag c wide ++ rest) tag = some (c, rest) := by
  unfold sNext
  rw [sOpen_sealed tag c rest wide t0 t1 hc hw h4]
  simp
end Go.Proofs.YtangjgclpipjdaaDoor
set_option linter.unusedVariables false
namespace Go.Proofs.YtangjgclpipjdaaDoor
open Go.RowKit Go.Proofs.YtangjgclpipjdaaDoorW.PrintWords Go.Proofs.YtangjgclpipjdaaDoorW.PrintLast Go.Proofs.YtangjgclpipjdaaDoorW.PrintMore
theorem infoB : (Tryd.prog.info? 5).map (fun i => (i.zero, i.size, i.bytes)) = some (some (.int .u8 0), 1, 1) := by kernel_rfl
theorem Clone_any (v : Value) (xs : List Int) (ok : Nat → Prop) (w : World) (h : ReadB w ok v xs) (hl : xs.length ≤ 140737488355328) :
    Calls Tryd.prog 28 #[v] w fun e w' => ∃ v', e = .returned v' ∧ OwnB w' w.heap.size v' xs ∧ Below w.heap.size w w' := by
  obtain ⟨A, c, rfl, hc, hC⟩ := h.reads
  have hn := fun w => Lib.run_eql_slice_nil (P := Tryd.prog) w 26 5 A xs.length c 0 0 Tryd.underlying26
  have hm := Kd.C_max hC
  have HC := Lib.hid hC
  clear hC h
  cases A with
  | none =>
    have h0 : xs = [] := by
      rcases Nat.eq_zero_or_pos xs.length with h | h
      · exact List.eq_nil_of_length_eq_zero h
      · obtain ⟨ad, e, _⟩ := Kd.at_int HC.out 0 (by omega) (by omega)
        cases e
    subst h0
    simp only [List.length_nil] at hn ⊢
    go_enter Tryd.func28, Tryd.ntmps28
    go_wp2
    go_ret
    exact ⟨_, rfl, Kd.R_nil _ _ _ _ _, Below.refl _ _⟩
  | some ad =>
    simp only [Option.isNone_some] at hn
    go_enter Tryd.func28, Tryd.ntmps28
    go_wp2_with (at_builtin; refine app_bytes rfl (.tmp 5) (.tmp 6) 26 rfl Tryd.underlying26 infoB w.heap.size (.slice (some ⟨w.heap.size, 0, none⟩) 0 0) [] xs (some ad) xs.length c rfl rfl (OwnB.lit w _ [] (Nat.le_refl _) (by simp) (by rfl)) (Kd.C_alloc HC.out _) (by simp) (by simpa using hl) ?_; intro v1 w1 ho hg hat)
    go_ret
    refine ⟨_, rfl, ho, ?_⟩
    exact ((Below.refl _ _).alloc (Nat.le_refl _) _).grown hg (by simp) (fun k hk => by simp [Value.ownBlock] at hk; omega)
end Go.Proofs.YtangjgclpipjdaaDoor
set_option linter.unusedVariables false
namespace Go.Proofs.YtangjgclpipjdaaDoor
open Go.RowKit Go.Proofs.YtangjgclpipjdaaDoorW.PrintWords Go.Proofs.YtangjgclpipjdaaDoorW.PrintLast Go.Proofs.YtangjgclpipjdaaDoorW.PrintMore
theorem i64_or_low (x b : Int) (hx : x % 256 = 0) (h0 : 0 ≤ b) (h1 : b < 256) : bits .or .i64 x b = wrap64 (x + b) := by
  show IntKind.i64.wrap ((BitVec.ofInt 64 x ||| BitVec.ofInt 64 b).toNat : Int) = _
  rw [BitVec.toNat_or, BitVec.toNat_ofInt, BitVec.toNat_ofInt, nat_join 8 _ _ (by omega) (by omega)]
  rw [IntKind.wrap_i64]
  unfold wrap64
  omega
theorem u64_or_low (x b : Int) (hx : x % 256 = 0) (h0 : 0 ≤ b) (h1 : b < 256) (h2 : 0 ≤ x) (h3 : x < 18446744073709551616) : bits .or .u64 x b = x + b := by
  rw [u64_or x b h2 h3 h0 (by omega), nat_join 8 _ _ (by omega) (by omega)]
  omega
theorem w64_mul (x : Int) : wrap64 (x * 256) % 256 = 0 := by unfold wrap64; omega
theorem w64_step (x b : Int) (h0 : 0 ≤ b) (h1 : b < 256) : bits .or .i64 (wrap64 (wrap64 x * 256)) b = wrap64 (x * 256 + b) := by
  rw [i64_or_low _ _ (w64_mul _) h0 h1]
  unfold wrap64
  omega
/-- The number with a sign. -/
def sVal (xs : List Int) : Int := wrap64 (beVal xs (if rd xs 0 > 127 then -1 else 0))
theorem beVal_start (xs : List Int) : ∀ a : Int, beVal xs a = a * 256 ^ xs.length + beVal xs 0 := by
  induction xs with
  | nil => intro a; simp [beVal]
  | cons x l ih =>
    intro a
    simp only [beVal, List.length_cons]
    rw [ih (a * 256 + x), ih (0 * 256 + x), Int.pow_succ, Int.add_mul, Int.add_mul]
    rw [Int.mul_assoc, Int.mul_comm 256]
    omega
end Go.Proofs.YtangjgclpipjdaaDoor
set_option linter.unusedVariables false
namespace Go.Proofs.YtangjgclpipjdaaDoor
open Go.RowKit Go.Proofs.YtangjgclpipjdaaDoorW.PrintWords Go.Proofs.YtangjgclpipjdaaDoorW.PrintLast Go.Proofs.YtangjgclpipjdaaDoorW.PrintMore
/-- A cut of a slice: wherever the slice reads as xs, the cut reads as x. -/
def Cut (A : Option Addr) (xs : List Int) (A1 : Option Addr) (c1 : Nat) (x : List Int) : Prop := x.length ≤ c1 ∧ ∀ W, Kd.C (Kd.int .u8) W A xs.length xs → Kd.C (Kd.int .u8) W A1 x.length x
def GotO (A : Option Addr) (xs : List Int) (w w' : World) (e : Ending) : Prop := Below w.heap.size w w' ∧
  ((sOpen xs = none ∧ e = .returned (.tuple #[.int .i64 0, .slice none 0 0, .slice none 0 0, .bool false])) ∨
   ∃ t x y A1 c1 A2 c2, sOpen xs = some (t, x, y) ∧ e = .returned (.tuple #[.int .i64 t, .slice A1 x.length c1, .slice A2 y.length c2, .bool true]) ∧ Cut A xs A1 c1 x ∧ Cut A xs A2 c2 y)
theorem infoSz : ∃ i, Tryd.prog.info? 5 = some i ∧ i.size = 1 := by
  have h := infoB
  cases hi : Tryd.prog.info? 5 with
  | none => rw [hi] at h; simp at h
  | some i => rw [hi] at h; simp at h; exact ⟨i, rfl, h.2.1⟩
theorem results_tmp4 {fn : Func} {t u v x : Tmp} (h : fn.results = #[.tmp t, .tmp u, .tmp v, .tmp x]) (tmps : Array Value) (P : Program) (w : World) :
    (results fn tmps).run P w = .ok (.tuple #[tmps.getD t undef, tmps.getD u undef, tmps.getD v undef, tmps.getD x undef]) w := by
  simp [results, h]
set_option maxRecDepth 100000 in
/-- The two cuts at a place and behind it, as the program makes them. -/
theorem open_cuts (A : Option Addr) (c : Nat) (xs : List Int) (hc : xs.length ≤ c) (at_ tot : Nat) (h1 : at_ ≤ tot) (h2 : tot ≤ xs.length) (ai ti : Int) (ha : ai = at_) (ht : ti = tot) :
    ∃ A1 A2, (∀ W : World, (Instr.slice 26 (.slice A xs.length c) (some (.int .i64 ai)) (some (.int .i64 ti)) none).run Tryd.prog W = .ok (.slice A1 ((xs.take tot).drop at_).length (c - at_)) W) ∧
      (∀ W : World, (Instr.slice 26 (.slice A xs.length c) (some (.int .i64 ti)) none none).run Tryd.prog W = .ok (.slice A2 (xs.drop tot).length (c - tot)) W) ∧
      Cut A xs A1 (c - at_) ((xs.take tot).drop at_) ∧ Cut A xs A2 (c - tot) (xs.drop tot) := by
  subst ha
  subst ht
  obtain ⟨i, hi, hsz⟩ := infoSz
  refine ⟨_, _, fun W => ?_, fun W => ?_, ⟨?_, fun W hC => Kd.C_mid hC h1 h2 hc⟩, ⟨?_, fun W hC => Kd.C_drop hC h2 hc⟩⟩
  · have := cut_mid 26 5 .i64 .i64 Tryd.underlying26 hi 1 hsz A xs.length c (at_ : Int) (tot : Int) (by omega) (by omega) (by omega) hc W
    simp only [Int.toNat_natCast] at this
    rw [this]
    congr 2
    simp
    omega
  · have := cut_from 26 5 .i64 Tryd.underlying26 hi 1 hsz A xs.length c (tot : Int) (by omega) (by omega) W
    simp only [Int.toNat_natCast] at this
    rw [this]
    congr 2
    simp
  · simp; omega
  · simp; omega
set_option maxRecDepth 100000 in
set_option maxHeartbeats 4000000 in
theorem open_few (A : Option Addr) (c : Nat) (xs : List Int) (w : World) (hr : Kd.C (Kd.int .u8) w A xs.length xs) (hc : xs.length ≤ c) (hb : IsB xs) (h2 : xs.length < 2) :
    Calls Tryd.prog 31 #[.slice A xs.length c] w fun e w' => GotO A xs w w' e := by
  have hn : sOpen xs = none := if_neg (fun h => by have := h.1; omega)
  have HN := Lib.hid hn
  clear hn hr hb
  go_enter Tryd.func31, Tryd.ntmps31
  go_wp2
  exact bodyPost_ret (results_tmp4 rfl _ _ _) rfl ⟨Below.refl _ _, .inl ⟨HN.out, rfl⟩⟩
set_option maxRecDepth 100000 in
set_option maxHeartbeats 4000000 in
theorem open_short (A : Option Addr) (c : Nat) (xs : List Int) (w : World) (hr : Kd.C (Kd.int .u8) w A xs.length xs) (hc : xs.length ≤ c) (hb : IsB xs) (h2 : 2 ≤ xs.length) (h : rd xs 1 ≤ 127) :
    Calls Tryd.prog 31 #[.slice A xs.length c] w fun e w' => GotO A xs w w' e := by
  obtain ⟨ad, rfl, hx1⟩ := cell_at hr 1 (by omega)
  obtain ⟨ad0, e0, hx0⟩ := cell_at hr 0 (by omega)
  obtain rfl : ad = ad0 := by injection e0
  simp [Addr.add] at hx0 hx1
  have hb0 := hb.rd 0
  have hb1 := hb.rd 1
  have hp : pLen xs = (rd xs 1 + 2, 2) := if_pos h
  have hmax := Kd.C_max hr
  have hw : wrap64 ((xs.length : Int) - 2) = (xs.length : Int) - 2 := by unfold wrap64; omega
  have HR := Lib.hid hr
  clear e0 hr
  by_cases hle : rd xs 1 + 2 ≤ xs.length
  · obtain ⟨n, hn⟩ : ∃ n : Nat, rd xs 1 = n := ⟨(rd xs 1).toNat, by omega⟩
    have ho : sOpen xs = some (rd xs 0, (xs.take (n + 2)).drop 2, xs.drop (n + 2)) := by
      have hok : OpenOk xs := ⟨h2, by omega, by omega, fun h => by omega, by rw [hp]; exact hle⟩
      unfold sOpen
      rw [if_pos hok, hp, hn]
      simp only [show ((n : Int) + 2).toNat = n + 2 by omega, show (2 : Int).toNat = 2 from rfl]
    obtain ⟨A1, A2, hc1, hc2, k1, k2⟩ := open_cuts (some ad) c xs hc 2 (n + 2) (by omega) (by omega) 2 (2 + n) rfl (by omega)
    generalize (xs.take (n + 2)).drop 2 = x at ho hc1 k1
    generalize xs.drop (n + 2) = y at ho hc2 k2
    have HO := Lib.hid (And.intro ho (And.intro k1 k2))
    rw [hn] at hx1 h hle
    clear ho k1 k2 hp hn
    go_enter Tryd.func31, Tryd.ntmps31
    go_wp2_with fail
    go_quiet (fail)
    go_wp2_with fail
    go_quiet (fail)
    go_wp2
    exact bodyPost_ret (results_tmp4 rfl _ _ _) rfl ⟨pw_below_drewN (pw_below_drewN (Below.refl _ _) _) _, .inr ⟨_, x, y, A1, _, A2, _, HO.out.1, rfl, HO.out.2.1, HO.out.2.2⟩⟩
  · have hn : sOpen xs = none := if_neg (fun h => by have := h.2.2.2.2; rw [hp] at this; simp only at this; omega)
    have HN := Lib.hid hn
    clear hn hp hb
    generalize rd xs 1 = n at *
    go_enter Tryd.func31, Tryd.ntmps31
    go_wp2_with fail
    go_quiet (fail)
    go_wp2
    exact bodyPost_ret (results_tmp4 rfl _ _ _) rfl ⟨pw_below_drewN (Below.refl _ _) _, .inl ⟨HN.out, rfl⟩⟩
theorem i64_join8 (v y : Int) (h0 : 0 ≤ v) (h1 : v < 281474976710656) (y0 : 0 ≤ y) (y1 : y ≤ 255) : bits .or .i64 (v * 256) y = v * 256 + y := by
  rw [i64_or_low _ _ (by omega) y0 (by omega)]
  unfold wrap64
  omega
theorem beVal_takeO (ys : List Int) (i : Nat) (h : i < ys.length) : beVal (ys.take (i + 1)) 0 = beVal (ys.take i) 0 * 256 + rd ys i := by
  rw [List.take_add_one, List.getElem?_eq_getElem h, Option.toList_some, beVal_snoc]
  simp [Go.Proofs.YtangjgclpipjdaaDoorW.PrintWords.rd, List.getD_eq_getElem?_getD, h]
theorem pow_le4O (k : Nat) (hk : k ≤ 4) : (256 : Int) ^ k ≤ 4294967296 := by
  have : k = 0 ∨ k = 1 ∨ k = 2 ∨ k = 3 ∨ k = 4 := by omega
  rcases this with rfl | rfl | rfl | rfl | rfl <;> decide
set_option maxRecDepth 100000 in
set_option maxHeartbeats 4000000 in
theorem open_long (A : Option Addr) (c : Nat) (xs : List Int) (w : World) (hr : Kd.C (Kd.int .u8) w A xs.length xs) (hc : xs.length ≤ c) (hb : IsB xs) (h2 : 2 ≤ xs.length) (h : 128 ≤ rd xs 1) :
    Calls Tryd.prog 31 #[.slice A xs.length c] w fun e w' => GotO A xs w w' e := by
  obtain ⟨ad, rfl, hx1⟩ := cell_at hr 1 (by omega)
  obtain ⟨ad0, e0, hx0⟩ := cell_at hr 0 (by omega)
  obtain rfl : ad = ad0 := by injection e0
  simp [Addr.add] at hx0 hx1
  have hb0 := hb.rd 0
  have hb1 := hb.rd 1
  have hp : pLen xs = (beVal ((xs.drop 2).take (rd xs 1 - 128).toNat) 0 + 2 + (rd xs 1 - 128), 2 + (rd xs 1 - 128)) := if_neg (by omega)
  have hmax := Kd.C_max hr
  have hw : ∀ k : Int, 0 ≤ k → k ≤ 255 → wrap64 ((xs.length : Int) - (2 + k)) = (xs.length : Int) - (2 + k) := fun k _ _ => by unfold wrap64; omega
  obtain ⟨k, hk⟩ : ∃ k : Nat, rd xs 1 = 128 + k := ⟨(rd xs 1 - 128).toNat, by omega⟩
  have hk2 : rd xs 1 - 128 = k := by omega
  rw [hk2] at hp
  simp only [Int.toNat_natCast] at hp
  have HR := Lib.hid (And.intro hr hb)
  by_cases hbad : k = 0 ∨ 4 < k ∨ xs.length < 2 + k
  · have hn : sOpen xs = none := if_neg (fun h => by
      obtain ⟨-, a1, a2, a3, -⟩ := h
      have := a3 (by omega)
      omega)
    have HN := Lib.hid hn
    rw [hk] at hx1 h hb1
    clear hn hp hr hb hk hk2 e0
    have e1 : (128 : Int) + k - 128 = k := by omega
    rcases hbad with rfl | hbad | hbad
    · go_enter Tryd.func31, Tryd.ntmps31
      go_wp2_with fail
      go_quiet (fail)
      go_wp2
      all_goals exact bodyPost_ret (results_tmp4 rfl _ _ _) rfl ⟨pw_below_drewN (Below.refl _ _) _, .inl ⟨HN.out, rfl⟩⟩
    · have d0 : ((k : Int) == 0) = false := beq_eq_false_iff_ne.2 (by omega)
      go_enter Tryd.func31, Tryd.ntmps31
      go_wp2_with fail
      go_quiet (fail)
      go_wp2
      all_goals exact bodyPost_ret (results_tmp4 rfl _ _ _) rfl ⟨pw_below_drewN (Below.refl _ _) _, .inl ⟨HN.out, rfl⟩⟩
    · by_cases k0 : k = 0
      · subst k0
        omega
      · have d0 : ((k : Int) == 0) = false := beq_eq_false_iff_ne.2 (by omega)
        go_enter Tryd.func31, Tryd.ntmps31
        go_wp2_with fail
        go_quiet (fail)
        go_wp2
        all_goals exact bodyPost_ret (results_tmp4 rfl _ _ _) rfl ⟨pw_below_drewN (Below.refl _ _) _, .inl ⟨HN.out, rfl⟩⟩
  · have k1 : 1 ≤ k := by omega
    have k4 : k ≤ 4 := by omega
    have kl : 2 + k ≤ xs.length := by omega
    obtain ⟨B1, B2, hcb, -, kb, -⟩ := open_cuts (some ad) c xs hc 2 (2 + k) (by omega) (by omega) 2 (2 + k) rfl (by omega)
    have hyl : ((xs.take (2 + k)).drop 2).length = k := by simp; omega
    have hye : (xs.take (2 + k)).drop 2 = (xs.drop 2).take k := by rw [List.drop_take]; congr 1; omega
    rw [hyl] at hcb
    rw [hye] at kb hyl
    have hkC := kb.2 w hr
    rw [hyl] at hkC
    have hyb : IsB ((xs.drop 2).take k) := isB_take (isB_drop hb 2) k
    obtain ⟨ys, hys⟩ : ∃ ys, ys = (xs.drop 2).take k := ⟨_, rfl⟩
    rw [← hys] at hkC hyl hyb hp
    have HY := Lib.hid (And.intro hys (And.intro hkC hyb))
    have HP := Lib.hid hp
    rw [hk] at hx1 h hb1
    have HK := Lib.hid hk
    have d0 : ((k : Int) == 0) = false := beq_eq_false_iff_ne.2 (by omega)
    have e1 : (128 : Int) + k - 128 = k := by omega
    clear hp hr hb hk hk2 e0 hys hkC hyb kb hye hbad
    go_enter Tryd.func31, Tryd.ntmps31
    go_wp2_with fail
    go_quiet (fail)
    go_wp2
    go_loop [7, 11, 45] (fun v _ j => ∃ i : Nat, i ≤ k ∧ j = .int .i64 i ∧ v = .int .i64 (beVal (ys.take i) 0)) (fun _ _ j => k - (intOf j).toNat)
    case atStart => exact ⟨0, Nat.zero_le _, rfl, rfl⟩
    case round =>
      obtain ⟨i, hi, rfl, rfl⟩ := hrel
      by_cases hlt : i < k
      · obtain ⟨hys, hkC, hyb⟩ := HY.out
        rw [← hyl] at hkC
        obtain ⟨ad1, rfl, hcl⟩ := cell_at hkC i (by omega)
        have hst := beVal_takeO ys i (by omega)
        have hbd := beVal_bound (ys.take i) (isB_take hyb i) 0 (Int.le_refl 0)
        have hp := pow_le4O i (by omega)
        have hr2 := hyb.rd i
        have hlen : (ys.take i).length = i := by simp; omega
        rw [hlen] at hbd
        have HS := Lib.hid hst
        have b0 := hbd.1
        have b1 : beVal (ys.take i) 0 < 281474976710656 := by omega
        have r0 := hr2.1
        have r1 := hr2.2
        clear hst hbd hp hlen hr2 hys hkC hyb
        generalize beVal (ys.take i) 0 = v at *
        generalize rd ys i = y at *
        have hor := i64_join8 v y b0 b1 r0 r1
        go_wp2
        go_round
        case rel => exact ⟨i + 1, by omega, by go_num, by rw [HS.out]⟩
        case measure => simp [intOf]; omega
      · obtain rfl : i = k := by omega
        obtain ⟨hys, hkC, hyb⟩ := HY.out
        have hbd := beVal_bound ys hyb 0 (Int.le_refl 0)
        have hp4 := pow_le4O i k4
        rw [hyl] at hbd
        rw [List.take_of_length_le (by omega)]
        have hp := HP.out
        obtain ⟨N, hN⟩ : ∃ N : Nat, beVal ys 0 = N := ⟨(beVal ys 0).toNat, by omega⟩
        have hN4 : N ≤ 4294967296 := by omega
        rw [hN] at hp
        have hok : OpenOk xs ↔ (N : Int) + 2 + i ≤ xs.length := by
          have hk := HK.out
          unfold OpenOk
          rw [hp, hk]
          simp only
          omega
        have hwl := hw i (by omega) (by omega)
        by_cases hle : (N : Int) + 2 + i ≤ xs.length
        · have ho : sOpen xs = some (rd xs 0, (xs.take (N + 2 + i)).drop (2 + i), xs.drop (N + 2 + i)) := by
            unfold sOpen
            rw [if_pos (hok.2 hle), hp]
            simp only [show ((N : Int) + 2 + i).toNat = N + 2 + i by omega, show (2 + (i : Int)).toNat = 2 + i by omega]
          obtain ⟨A1, A2, hc1, hc2, c1, c2⟩ := open_cuts (some ad) c xs hc (2 + i) (N + 2 + i) (by omega) (by omega) (2 + i) (2 + i + N) (by omega) (by omega)
          generalize (xs.take (N + 2 + i)).drop (2 + i) = x at ho hc1 c1
          generalize xs.drop (N + 2 + i) = y at ho hc2 c2
          have HO := Lib.hid (And.intro ho (And.intro c1 c2))
          clear ho c1 c2 hok hp hbd hp4 hys hkC hyb HY HP HK hcb
          rw [hN]
          clear hN
          go_wp2_with fail
          go_quiet (fail)
          go_wp2
          exact bodyPost_ret (results_tmp4 rfl _ _ _) rfl ⟨pw_below_drewN (pw_below_drewN (Below.refl _ _) _) _, .inr ⟨_, x, y, A1, _, A2, _, HO.out.1, rfl, HO.out.2.1, HO.out.2.2⟩⟩
        · have HN := Lib.hid (show sOpen xs = none from if_neg (fun h => hle (hok.1 h)))
          clear hok hp hbd hp4 hys hkC hyb HY HP HK hcb
          rw [hN]
          clear hN
          go_wp2
          exact bodyPost_ret (results_tmp4 rfl _ _ _) rfl ⟨pw_below_drewN (Below.refl _ _) _, .inl ⟨HN.out, rfl⟩⟩
theorem open_any (A : Option Addr) (c : Nat) (xs : List Int) (w : World) (hr : Kd.C (Kd.int .u8) w A xs.length xs) (hc : xs.length ≤ c) (hb : IsB xs) :
    Calls Tryd.prog 31 #[.slice A xs.length c] w fun e w' => GotO A xs w w' e := by
  by_cases h2 : xs.length < 2
  · exact open_few A c xs w hr hc hb h2
  by_cases h : rd xs 1 ≤ 127
  · exact open_short A c xs w hr hc hb (by omega) h
  · exact open_long A c xs w hr hc hb (by omega) (by omega)
end Go.Proofs.YtangjgclpipjdaaDoor
set_option linter.unusedVariables false
namespace Go.Proofs.YtangjgclpipjdaaDoor
open Go.RowKit Go.Proofs.YtangjgclpipjdaaDoorW.PrintWords Go.Proofs.YtangjgclpipjdaaDoorW.PrintLast Go.Proofs.YtangjgclpipjdaaDoorW.PrintMore
/-- A string's bytes as numbers. -/
def bs (s : ByteArray) : List Int := s.data.toList.map fun b => (b.toNat : Int)
theorem bs_length (s : ByteArray) : (bs s).length = s.size := by simp [bs]
theorem strOfNums_bs (s : ByteArray) : strOfNums (bs s) = s := by
  obtain ⟨⟨l⟩⟩ := s
  unfold strOfNums bs
  simp [Function.comp_def]
theorem char_at (s : ByteArray) (j : Nat) (c : Int) (l' : List Int) (h : (bs s).drop j = c :: l') : ∃ hj : j < s.size, ((s[j]'hj).toNat : Int) = c ∧ (bs s).drop (j + 1) = l' := by
  have hj : j < s.size := by
    have := congrArg List.length h
    simp [bs] at this
    omega
  refine ⟨hj, ?_, ?_⟩
  · have := congrArg (fun l => l[0]?) h
    simp [bs] at this
    obtain ⟨a, ha, hc⟩ := this
    rw [Array.getElem?_eq_getElem (by simpa using hj)] at ha
    injection ha with ha
    rw [← hc, ← ha]
    rfl
  · have := congrArg (List.drop 1) h
    simpa using this
/-- The numbers between the points; none where the text is no such. -/
def arcsGo : List Int → List Int → Int → Bool → Option (List Int)
  | [], out, n, some_ => if some_ = true then some (out ++ [n]) else none
  | c :: l, out, n, some_ =>
    if c = 46 then (if some_ = true then arcsGo l (out ++ [n]) 0 false else none)
    else if c < 48 ∨ c > 57 ∨ (some_ = true ∧ n = 0) ∨ 10 * n + (c - 48) ≥ 4294967296 then none
    else arcsGo l out (10 * n + (c - 48)) true
/-- n to the base 128. -/
def b128 (n : Int) : List Int :=
  if n < 128 then [n] else if n < 16384 then [n / 128 + 128, n % 128] else if n < 2097152 then [n / 16384 + 128, n / 128 % 128 + 128, n % 128]
  else if n < 268435456 then [n / 2097152 + 128, n / 16384 % 128 + 128, n / 128 % 128 + 128, n % 128]
  else [n / 268435456 + 128, n / 2097152 % 128 + 128, n / 16384 % 128 + 128, n / 128 % 128 + 128, n % 128]
theorem b128_len (n : Int) : (b128 n).length ≤ 5 := by unfold b128; repeat' split
                                                       all_goals simp
def b128s (l : List Int) : List Int := (l.map b128).flatten
theorem b128s_cons (a : Int) (l : List Int) : b128s (a :: l) = b128 a ++ b128s l := by simp [b128s]
theorem b128s_snoc (a : Int) (l : List Int) : b128s (l ++ [a]) = b128s l ++ b128 a := by simp [b128s]
theorem b128s_len (l : List Int) : (b128s l).length ≤ 5 * l.length := by
  induction l with
  | nil => simp [b128s]
  | cons a l ih =>
    rw [b128s_cons, List.length_append, List.length_cons]
    have := b128_len a
    omega
/-- The content of a name. -/
def sName (arcs : List Int) : List Int := ((40 * rd arcs 0 + rd arcs 1) % 256) :: b128s (arcs.drop 2)
theorem sName_len (arcs : List Int) : (sName arcs).length ≤ 1 + 5 * (arcs.length - 2) := by
  unfold sName
  have := b128s_len (arcs.drop 2)
  simp only [List.length_cons, List.length_drop] at this ⊢
  omega
/-- Without the point ahead. -/
def strip : List Int → List Int
  | 46 :: l => l
  | l => l
def arcsOk (out : List Int) : Prop := 2 ≤ out.length ∧ out.length ≤ 60 ∧ rd out 0 ≤ 2 ∧ rd out 1 < 40
instance (out : List Int) : Decidable (arcsOk out) := by unfold arcsOk; infer_instance
def sArcs (s : List Int) : List Int × Bool :=
  match arcsGo (strip s) [] 0 false with
  | none => ([], false)
  | some out => if arcsOk out then (out, decide ((sName out).length ≤ 100)) else (out, false)
/-- Figures with the value a, read on from v. -/
def figs : List Int → Int → Int
  | [], v => v
  | c :: l, v => figs l (10 * v + (c - 48))
mutual
/-- What is left of the text where a number has just ended. -/
def Rem : List Int → List Int → Prop
  | [], l => l = []
  | a :: post, l => ∃ l', l = 46 :: l' ∧ Num a post l'
termination_by p _ => (p.length, 0)
/-- What is left where a number begins. -/
def Num : Int → List Int → List Int → Prop
  | a, post, l => ∃ ds l2, l = ds ++ l2 ∧ ds ≠ [] ∧ (∀ d ∈ ds, 48 ≤ d ∧ d ≤ 57) ∧ figs ds 0 = a ∧ a ≤ 4294967295 ∧ Rem post l2
termination_by a p _ => (p.length, 1)
end
theorem figs_mono (l : List Int) (h : ∀ d ∈ l, 48 ≤ d ∧ d ≤ 57) : ∀ v, 0 ≤ v → v ≤ figs l v := by
  induction l with
  | nil => intro v hv; exact Int.le_refl _
  | cons c l ih =>
    intro v hv
    have hc := h c (by simp)
    have := ih (fun d hd => h d (by simp [hd])) (10 * v + (c - 48)) (by omega)
    simp only [figs]
    omega
theorem figs_snoc (l : List Int) (c : Int) : ∀ v, figs (l ++ [c]) v = 10 * figs l v + (c - 48) := by
  induction l with
  | nil => intro v; rfl
  | cons d l ih => intro v; exact ih _
/-- The arcs that are told are those of the text. -/
theorem arcsGo_rem (l : List Int) : ∀ (out : List Int) (n : Int) (sm : Bool) (r : List Int), arcsGo l out n sm = some r → 0 ≤ n → n ≤ 4294967295 → (sm = false → n = 0) →
    ∃ a post, r = out ++ a :: post ∧ (∃ ds l2, l = ds ++ l2 ∧ (sm = false → ds ≠ []) ∧ (∀ d ∈ ds, 48 ≤ d ∧ d ≤ 57) ∧ figs ds n = a ∧ a ≤ 4294967295 ∧ Rem post l2) := by
  induction l with
  | nil =>
    intro out n sm r h h0 h1 hs
    simp only [arcsGo] at h
    cases sm with
    | false => simp at h
    | true =>
      simp at h
      subst h
      exact ⟨n, [], by simp, [], [], rfl, by simp, by simp, rfl, h1, by simp [Rem]⟩
  | cons c l ih =>
    intro out n sm r h h0 h1 hs
    simp only [arcsGo] at h
    by_cases hc : c = 46
    · rw [if_pos hc] at h
      cases sm with
      | false => simp at h
      | true =>
        simp only [if_true] at h
        obtain ⟨a, post, hr, ds, l2, e, hne, hd, hf, ha, hrem⟩ := ih _ _ _ _ h (Int.le_refl _) (by omega) (fun _ => rfl)
        refine ⟨n, a :: post, by rw [hr]; simp, [], c :: l, rfl, by simp, by simp, rfl, h1, ?_⟩
        rw [Rem]
        refine ⟨l, by rw [hc], ?_⟩
        rw [Num]
        exact ⟨ds, l2, e, hne rfl, hd, hf, ha, hrem⟩
    · rw [if_neg hc] at h
      by_cases hg : c < 48 ∨ c > 57 ∨ (sm = true ∧ n = 0) ∨ 10 * n + (c - 48) ≥ 4294967296
      · rw [if_pos hg] at h; cases h
      · rw [if_neg hg] at h
        obtain ⟨a, post, hr, ds, l2, e, hne, hd, hf, ha, hrem⟩ := ih _ _ _ _ h (by omega) (by omega) (by simp)
        refine ⟨a, post, hr, c :: ds, l2, by rw [e]; rfl, by simp, ?_, hf, ha, hrem⟩
        intro d hdd
        rcases List.mem_cons.1 hdd with rfl | h'
        · omega
        · exact hd d h'
/-- A text whose arcs are told: behind a point or none. -/
theorem sArcs_text (s : List Int) (arcs : List Int) (h : sArcs s = (arcs, true)) : arcsOk arcs ∧ (sName arcs).length ≤ 100 ∧ ∃ a post, arcs = a :: post ∧ (Num a post s ∨ Rem arcs s) := by
  unfold sArcs at h
  cases e : arcsGo (strip s) [] 0 false with
  | none => rw [e] at h; simp at h
  | some out =>
    rw [e] at h
    simp only at h
    by_cases ho : arcsOk out
    · rw [if_pos ho] at h
      simp at h
      obtain ⟨rfl, hl⟩ := h
      obtain ⟨a, post, hr, ds, l2, e2, hne, hd, hf, ha, hrem⟩ := arcsGo_rem _ _ _ _ _ e (Int.le_refl _) (by omega) (fun _ => rfl)
      simp only [List.nil_append] at hr
      refine ⟨ho, hl, a, post, hr, ?_⟩
      have hN : Num a post (strip s) := by rw [Num]; exact ⟨ds, l2, e2, hne rfl, hd, hf, ha, hrem⟩
      unfold strip at hN
      split at hN
      · right
        rw [hr, Rem]
        exact ⟨_, rfl, hN⟩
      · left; exact hN
    · rw [if_neg ho] at h; simp at h
end Go.Proofs.YtangjgclpipjdaaDoor
set_option linter.unusedVariables false
namespace Go.Proofs.YtangjgclpipjdaaDoor
open Go.RowKit Go.Proofs.YtangjgclpipjdaaDoorW.PrintWords Go.Proofs.YtangjgclpipjdaaDoorW.PrintLast Go.Proofs.YtangjgclpipjdaaDoorW.PrintMore
theorem bits_mask7 (n : Int) : bits .and .u32 (n % 4294967296) 4294967168 = n % 4294967296 / 128 * 128 := by
  rw [u32_and _ _ (by omega) (by omega) (by omega) (by omega)]
  rw [and_mask _ _ 7 (by omega) (by omega) (by rfl)]
  omega
theorem bits_mask15 (n : Int) : bits .and .u32 (n % 4294967296) 4294934528 = n % 4294967296 / 32768 * 32768 := by
  rw [u32_and _ _ (by omega) (by omega) (by omega) (by omega)]
  rw [and_mask _ _ 15 (by omega) (by omega) (by rfl)]
  omega
theorem bits_mask23 (n : Int) : bits .and .u32 (n % 4294967296) 4286578688 = n % 4294967296 / 8388608 * 8388608 := by
  rw [u32_and _ _ (by omega) (by omega) (by omega) (by omega)]
  rw [and_mask _ _ 23 (by omega) (by omega) (by rfl)]
  omega
def mInt32 (n : Int) : List Int :=
  if -128 ≤ n ∧ n ≤ 127 then [n % 256] else if -32768 ≤ n ∧ n ≤ 32767 then [n / 256 % 256, n % 256]
  else if -8388608 ≤ n ∧ n ≤ 8388607 then [n / 65536 % 256, n / 256 % 256, n % 256] else [n / 16777216 % 256, n / 65536 % 256, n / 256 % 256, n % 256]
theorem mInt32_1 (n : Int) (h0 : -2147483648 ≤ n) (h1 : n ≤ 2147483647) (h : bits .and .u32 (n % 4294967296) 4294967168 = 0 ∨ bits .and .u32 (n % 4294967296) 4294967168 = 4294967168) : mInt32 n = [n % 256] := by
  rw [bits_mask7] at h
  unfold mInt32
  rw [if_pos (by omega)]
theorem mInt32_2 (n : Int) (h0 : -2147483648 ≤ n) (h1 : n ≤ 2147483647) (g : ¬ (bits .and .u32 (n % 4294967296) 4294967168 = 0 ∨ bits .and .u32 (n % 4294967296) 4294967168 = 4294967168))
    (h : bits .and .u32 (n % 4294967296) 4294934528 = 0 ∨ bits .and .u32 (n % 4294967296) 4294934528 = 4294934528) : mInt32 n = [n % 4294967296 / 256 % 256, n % 256] := by
  rw [bits_mask7] at g
  rw [bits_mask15] at h
  unfold mInt32
  rw [if_neg (by omega), if_pos (by omega)]
  congr 1
  omega
theorem mInt32_3 (n : Int) (h0 : -2147483648 ≤ n) (h1 : n ≤ 2147483647)
    (g : ¬ (bits .and .u32 (n % 4294967296) 4294934528 = 0 ∨ bits .and .u32 (n % 4294967296) 4294934528 = 4294934528))
    (h : bits .and .u32 (n % 4294967296) 4286578688 = 0 ∨ bits .and .u32 (n % 4294967296) 4286578688 = 4286578688) : mInt32 n = [n % 4294967296 / 65536 % 256, n % 4294967296 / 256 % 256, n % 256] := by
  rw [bits_mask15] at g
  rw [bits_mask23] at h
  unfold mInt32
  rw [if_neg (by omega), if_neg (by omega), if_pos (by omega)]
  congr 1
  · omega
  · congr 1
    omega
theorem mInt32_4 (n : Int) (h0 : -2147483648 ≤ n) (h1 : n ≤ 2147483647)
    (h : ¬ (bits .and .u32 (n % 4294967296) 4286578688 = 0 ∨ bits .and .u32 (n % 4294967296) 4286578688 = 4286578688)) : mInt32 n = [n % 4294967296 / 16777216, n % 4294967296 / 65536 % 256, n % 4294967296 / 256 % 256, n % 256] := by
  rw [bits_mask23] at h
  unfold mInt32
  rw [if_neg (by omega), if_neg (by omega), if_neg (by omega)]
  congr 1
  · omega
  · congr 1
    · omega
    · congr 1
      omega
set_option maxHeartbeats 400000 in
theorem marshalInt32_any (n : Int) (w : World) (h0 : -2147483648 ≤ n) (h1 : n ≤ 2147483647) :
    Calls Tryd.prog 60 #[.int .i64 n] w fun e w' => GotE w w' (mInt32 n) e := by
  have f1 := Lib.hid (mInt32_1 n h0 h1)
  have f2 := Lib.hid (mInt32_2 n h0 h1)
  have f3 := Lib.hid (mInt32_3 n h0 h1)
  have f4 := Lib.hid (mInt32_4 n h0 h1)
  go_enter Tryd.func60, Tryd.ntmps60
  go_wp2
  all_goals
    try simp only [beq_iff_eq, beq_eq_false_iff_ne] at *
    go_ret2
    first
    | exact gotE_lit w _ [_] (f1.out (by omega)) (by simp) rfl
    | exact gotE_lit w _ [_, _] (f2.out (by omega) (by omega)) (by simp) rfl
    | exact gotE_lit w _ [_, _, _] (f3.out (by omega) (by omega)) (by simp) rfl
    | exact gotE_lit w _ [_, _, _, _] (f4.out (by omega)) (by simp) rfl
end Go.Proofs.YtangjgclpipjdaaDoor
set_option linter.unusedVariables false
namespace Go.Proofs.YtangjgclpipjdaaDoor
open Go.RowKit Go.Proofs.YtangjgclpipjdaaDoorW.PrintWords Go.Proofs.YtangjgclpipjdaaDoorW.PrintLast Go.Proofs.YtangjgclpipjdaaDoorW.PrintMore
def be64 (n : Int) : List Int := [n / 72057594037927936, n / 281474976710656 % 256, n / 1099511627776 % 256, n / 4294967296 % 256, n / 16777216 % 256, n / 65536 % 256, n / 256 % 256, n % 256]
def be32 (n : Int) : List Int := [n / 16777216, n / 65536 % 256, n / 256 % 256, n % 256]
theorem cells8 {cur : Array Value} (h : cur.size = 8) : ∃ a b c d e f g i, cur = #[a, b, c, d, e, f, g, i] := by
  obtain ⟨l⟩ := cur
  match l, h with
  | [a, b, c, d, e, f, g, i], _ => exact ⟨_, _, _, _, _, _, _, _, rfl⟩
theorem cells4 {cur : Array Value} (h : cur.size = 4) : ∃ a b c d, cur = #[a, b, c, d] := by
  obtain ⟨l⟩ := cur
  match l, h with
  | [a, b, c, d], _ => exact ⟨_, _, _, _, rfl⟩
theorem grown_trans {w w1 w2 : World} {row : Option Nat} (h : w.grownBy w1 row) (k : w1.grownBy w2 row) : w.grownBy w2 row :=
  ⟨k.os.trans h.os, k.tape.trans h.tape, k.output.trans h.output, Nat.le_trans h.size k.size, fun b hb hne => (k.block b (Nat.lt_of_lt_of_le hb h.size) hne).trans (h.block b hb hne)⟩
theorem grown_set {w W : World} {g j : Nat} {u : Value} (h : w.grownBy W (some g)) : w.grownBy (W.setCell ⟨g, j, none⟩ u) (some g) :=
  ⟨h.os, h.tape, h.output, by simpa [World.setCell] using h.size, fun k hk hne => (Below.heap_setCell _ _ _ _ (by intro e; exact hne (by rw [e]))).trans (h.block k hk hne)⟩
theorem set8 {w : World} {g t : Nat} {c0 c1 c2 c3 c4 c5 c6 c7 : Value} (h : w.heap[g]? = some (.cells #[c0, c1, c2, c3, c4, c5, c6, c7] t (0, 0))) (x0 x1 x2 x3 x4 x5 x6 x7 : Value) :
    ((((((((w.setCell ⟨g, 0, none⟩ x0).setCell ⟨g, 1, none⟩ x1).setCell ⟨g, 2, none⟩ x2).setCell ⟨g, 3, none⟩ x3).setCell ⟨g, 4, none⟩ x4).setCell ⟨g, 5, none⟩ x5).setCell ⟨g, 6, none⟩ x6).setCell ⟨g, 7, none⟩ x7).heap[g]? = some (.cells #[x0, x1, x2, x3, x4, x5, x6, x7] t (0, 0)) := by
  have b := blk_set (blk_set (blk_set (blk_set (blk_set (blk_set (blk_set (blk_set h 0 x0) 1 x1) 2 x2) 3 x3) 4 x4) 5 x5) 6 x6) 7 x7
  simpa only [List.setIfInBounds_toArray, List.set_cons_zero, List.set_cons_succ] using b
theorem set4 {w : World} {g t : Nat} {c0 c1 c2 c3 : Value} (h : w.heap[g]? = some (.cells #[c0, c1, c2, c3] t (0, 0))) (x0 x1 x2 x3 : Value) :
    ((((w.setCell ⟨g, 0, none⟩ x0).setCell ⟨g, 1, none⟩ x1).setCell ⟨g, 2, none⟩ x2).setCell ⟨g, 3, none⟩ x3).heap[g]? = some (.cells #[x0, x1, x2, x3] t (0, 0)) := by
  have b := blk_set (blk_set (blk_set (blk_set h 0 x0) 1 x1) 2 x2) 3 x3
  simpa only [List.setIfInBounds_toArray, List.set_cons_zero, List.set_cons_succ] using b
set_option maxHeartbeats 800000 in
theorem PutUint64_any (n : Int) (h0 : 0 ≤ n) (h1 : n ≤ 18446744073709551615) (g t : Nat) (cur : Array Value) (w : World) (hg : w.heap[g]? = some (.cells cur t (0, 0))) (hs : cur.size = 8) :
    Calls Tryd.prog 94 #[.agg #[], .slice (some ⟨g, 0, none⟩) 8 8, .int .u64 n] w fun e w' => e = .returned (.tuple #[]) ∧ w'.heap[g]? = some (.cells ((be64 n).map (Value.int .u8)).toArray t (0, 0)) ∧ w.grownBy w' (some g) := by
  obtain ⟨c0, c1, c2, c3, c4, c5, c6, c7, rfl⟩ := cells8 hs
  have k0 := blk_cell hg 0
  have k1 := blk_cell hg 1
  have k2 := blk_cell hg 2
  have k3 := blk_cell hg 3
  have k4 := blk_cell hg 4
  have k5 := blk_cell hg 5
  have k6 := blk_cell hg 6
  have k7 := blk_cell hg 7
  have z0 := blk_frozen hg 0
  have z1 := blk_frozen hg 1
  have z2 := blk_frozen hg 2
  have z3 := blk_frozen hg 3
  have z4 := blk_frozen hg 4
  have z5 := blk_frozen hg 5
  have z6 := blk_frozen hg 6
  have z7 := blk_frozen hg 7
  simp at k0 k1 k2 k3 k4 k5 k6 k7
  have HG := Lib.hid hg
  have hlt := blk_lt hg
  clear hg
  go_enter Tryd.func94, Tryd.ntmps94
  go_wp2
  go_end0
  refine ⟨rfl, ?_, ?_⟩
  · exact blk_alloc (set8 HG.out _ _ _ _ _ _ _ _) _
  · refine grown_trans ?_ (World.grownBy_alloc _ _ _)
    exact grown_set (grown_set (grown_set (grown_set (grown_set (grown_set (grown_set (grown_set (World.grownBy.refl _ _))))))))
set_option maxHeartbeats 800000 in
theorem PutUint32_any (n : Int) (h0 : 0 ≤ n) (h1 : n ≤ 4294967295) (g t : Nat) (cur : Array Value) (w : World) (hg : w.heap[g]? = some (.cells cur t (0, 0))) (hs : cur.size = 4) :
    Calls Tryd.prog 93 #[.agg #[], .slice (some ⟨g, 0, none⟩) 4 4, .int .u32 n] w fun e w' => e = .returned (.tuple #[]) ∧ w'.heap[g]? = some (.cells ((be32 n).map (Value.int .u8)).toArray t (0, 0)) ∧ w.grownBy w' (some g) := by
  obtain ⟨c0, c1, c2, c3, rfl⟩ := cells4 hs
  have k0 := blk_cell hg 0
  have k1 := blk_cell hg 1
  have k2 := blk_cell hg 2
  have k3 := blk_cell hg 3
  have z0 := blk_frozen hg 0
  have z1 := blk_frozen hg 1
  have z2 := blk_frozen hg 2
  have z3 := blk_frozen hg 3
  simp at k0 k1 k2 k3
  have HG := Lib.hid hg
  have hlt := blk_lt hg
  clear hg
  go_enter Tryd.func93, Tryd.ntmps93
  go_wp2
  go_end0
  refine ⟨rfl, ?_, ?_⟩
  · exact blk_alloc (set4 HG.out _ _ _ _) _
  · refine grown_trans ?_ (World.grownBy_alloc _ _ _)
    exact grown_set (grown_set (grown_set (grown_set (World.grownBy.refl _ _))))
end Go.Proofs.YtangjgclpipjdaaDoor
set_option linter.unusedVariables false
namespace Go.Proofs.YtangjgclpipjdaaDoor
open Go.RowKit Go.Proofs.YtangjgclpipjdaaDoorW.PrintWords Go.Proofs.YtangjgclpipjdaaDoorW.PrintLast Go.Proofs.YtangjgclpipjdaaDoorW.PrintMore
/-- The bytes of n, as few as it takes, at least one. -/
def uBytes (n : Int) : List Int :=
  if n ≤ 255 then [n] else if n ≤ 65535 then [n / 256, n % 256] else if n ≤ 16777215 then [n / 65536, n / 256 % 256, n % 256]
  else if n ≤ 4294967295 then [n / 16777216, n / 65536 % 256, n / 256 % 256, n % 256]
  else if n ≤ 1099511627775 then [n / 4294967296, n / 16777216 % 256, n / 65536 % 256, n / 256 % 256, n % 256]
  else if n ≤ 281474976710655 then [n / 1099511627776, n / 4294967296 % 256, n / 16777216 % 256, n / 65536 % 256, n / 256 % 256, n % 256]
  else if n ≤ 72057594037927935 then [n / 281474976710656, n / 1099511627776 % 256, n / 4294967296 % 256, n / 16777216 % 256, n / 65536 % 256, n / 256 % 256, n % 256]
  else [n / 72057594037927936, n / 281474976710656 % 256, n / 1099511627776 % 256, n / 4294967296 % 256, n / 16777216 % 256, n / 65536 % 256, n / 256 % 256, n % 256]
def sUint (n : Int) : List Int := if rd (uBytes n) 0 > 127 then 0 :: uBytes n else uBytes n
/-- What is left behind zeros. -/
def trim0 : List Int → List Int
  | [] => []
  | x :: l => if x = 0 then trim0 l else x :: l
theorem trim_be64 (n : Int) (h0 : 0 ≤ n) (h1 : n ≤ 18446744073709551615) : trim0 (be64 n) = if n = 0 then [] else uBytes n := by
  unfold be64 uBytes
  by_cases c0 : n = 0
  · subst c0; rfl
  rw [if_neg c0]
  by_cases c1 : n ≤ 255
  · rw [if_pos c1]
    simp only [trim0]
    rw [if_pos (by omega), if_pos (by omega), if_pos (by omega), if_pos (by omega), if_pos (by omega), if_pos (by omega), if_pos (by omega), if_neg (by omega)]
    congr 1; omega
  rw [if_neg c1]
  by_cases c2 : n ≤ 65535
  · rw [if_pos c2]
    simp only [trim0]
    rw [if_pos (by omega), if_pos (by omega), if_pos (by omega), if_pos (by omega), if_pos (by omega), if_pos (by omega), if_neg (by omega)]
    congr 1; omega
  rw [if_neg c2]
  by_cases c3 : n ≤ 16777215
  · rw [if_pos c3]
    simp only [trim0]
    rw [if_pos (by omega), if_pos (by omega), if_pos (by omega), if_pos (by omega), if_pos (by omega), if_neg (by omega)]
    congr 1; omega
  rw [if_neg c3]
  by_cases c4 : n ≤ 4294967295
  · rw [if_pos c4]
    simp only [trim0]
    rw [if_pos (by omega), if_pos (by omega), if_pos (by omega), if_pos (by omega), if_neg (by omega)]
    congr 1; omega
  rw [if_neg c4]
  by_cases c5 : n ≤ 1099511627775
  · rw [if_pos c5]
    simp only [trim0]
    rw [if_pos (by omega), if_pos (by omega), if_pos (by omega), if_neg (by omega)]
    congr 1; omega
  rw [if_neg c5]
  by_cases c6 : n ≤ 281474976710655
  · rw [if_pos c6]
    simp only [trim0]
    rw [if_pos (by omega), if_pos (by omega), if_neg (by omega)]
    congr 1; omega
  rw [if_neg c6]
  by_cases c7 : n ≤ 72057594037927935
  · rw [if_pos c7]
    simp only [trim0]
    rw [if_pos (by omega), if_neg (by omega)]
    congr 1; omega
  rw [if_neg c7]
  simp only [trim0]
  rw [if_neg (by omega)]
theorem uBytes_len (n : Int) : 1 ≤ (uBytes n).length ∧ (uBytes n).length ≤ 8 := by
  unfold uBytes
  repeat' split
  all_goals simp
theorem uBytes_isB (n : Int) (h0 : 0 ≤ n) (h1 : n ≤ 18446744073709551615) (i : Int) : 0 ≤ rd (uBytes n) i ∧ rd (uBytes n) i ≤ 255 := by
  have h : ∀ x ∈ uBytes n, 0 ≤ x ∧ x ≤ 255 := by
    unfold uBytes
    intro x hx
    split at hx
    · simp at hx; omega
    split at hx
    · simp at hx; omega
    split at hx
    · simp at hx; omega
    split at hx
    · simp at hx; omega
    split at hx
    · simp at hx; omega
    split at hx
    · simp at hx; omega
    split at hx
    · simp at hx; omega
    · simp at hx; omega
  unfold Go.Proofs.YtangjgclpipjdaaDoorW.PrintWords.rd
  rw [List.getD_eq_getElem?_getD]
  cases e : (uBytes n)[i.toNat]? with
  | none => simp
  | some x => exact h x (List.mem_of_getElem? e)
theorem cell_at0 {w : World} {A : Option Addr} {xs : List Int} (h : Kd.C (Kd.int .u8) w A xs.length xs) (hi : 0 < xs.length) : ∃ ad, A = some ad ∧ w.cell? ad = some (.int .u8 (rd xs 0)) := by
  obtain ⟨ad, e, hx⟩ := Kd.at_int h 0 (by omega) (by omega)
  exact ⟨ad, e, by simpa [Addr.add] using hx⟩
theorem be_cell' {w : World} {g t : Nat} {xs : List Int} (h : w.heap[g]? = some (.cells (xs.map (Value.int .u8)).toArray t (0, 0))) (j : Nat) (hj : j < xs.length) : w.cell? ⟨g, j, none⟩ = some (.int .u8 (xs[j]?.getD 0)) := by
  rw [blk_cell h j]
  simp [List.getElem?_eq_getElem hj]
theorem u8_bit7 (b : Int) (h0 : 0 ≤ b) (h1 : b ≤ 255) : bits .and .u8 b 128 = if 128 ≤ b then 128 else 0 := by
  rw [u8_and b 128 h0 (by omega) (by omega) (by omega), show (128 : Int).toNat = 2 ^ 7 from rfl, nat_bit]
  split
  · have : b.toNat / 2 ^ 7 % 2 = 1 := by omega
    rw [this]; rfl
  · have : b.toNat / 2 ^ 7 % 2 = 0 := by omega
    rw [this]; rfl
end Go.Proofs.YtangjgclpipjdaaDoor
set_option linter.unusedVariables false
namespace Go.Proofs
open Go.Shelf
def Tryd.laysAU_ren : Go.Shelf.Ren := ⟨fun | 288 => 138 | 283 => 134 | 284 => 135 | 285 => 136 | 286 => 137 | 129 => 147 | 317 => 146 | 318 => 148 | 319 => 149 | 320 => 150 | 337 => 152 | 338 => 153 | n => n, fun | 37 => 26 | 53 => 22 | 3 => 3 | 4 => 4 | 9 => 9 | 171 => 222 | 0 => 0 | 173 => 224 | 212 => 232 | 51 => 36 | 5 => 5 | 20 => 20 | 213 => 233 | 46 => 38 | 232 => 241 | 233 => 242 | n => n, fun | 17 => 20 | 18 => 21 | 19 => 22 | n => n⟩
theorem Tryd.laysAU : Go.Proofs.LaysM.n288 Tryd.prog Tryd.laysAU_ren := {
  mixed := by kernel_rfl
  f129 := Tryd.func147.trans (congrArg some (by kernel_rfl))
  f283 := Tryd.func134.trans (congrArg some (by kernel_rfl))
  f284 := Tryd.func135.trans (congrArg some (by kernel_rfl))
  f285 := Tryd.func136.trans (congrArg some (by kernel_rfl))
  f286 := Tryd.func137.trans (congrArg some (by kernel_rfl))
  f288 := Tryd.func138.trans (congrArg some (by kernel_rfl))
  f317 := Tryd.func146.trans (congrArg some (by kernel_rfl))
  f318 := Tryd.func148.trans (congrArg some (by kernel_rfl))
  f319 := Tryd.func149.trans (congrArg some (by kernel_rfl))
  f320 := Tryd.func150.trans (congrArg some (by kernel_rfl))
  f337 := Tryd.func152.trans (congrArg some (by kernel_rfl))
  f338 := Tryd.func153.trans (congrArg some (by kernel_rfl))
  t0 := Tryd.underlying0
  a0 := Tryd.isAgg0
  z0 := Tryd.sizeOf0
  v0 := Tryd.zeroValue0
  t3 := Tryd.underlying3
  a3 := Tryd.isAgg3
  z3 := Tryd.sizeOf3
  v3 := Tryd.zeroValue3
  t4 := Tryd.underlying4
  a4 := Tryd.isAgg4
  z4 := Tryd.sizeOf4
  v4 := Tryd.zeroValue4
  t5 := Tryd.underlying5
  a5 := Tryd.isAgg5
  z5 := Tryd.sizeOf5
  v5 := Tryd.zeroValue5
  t9 := Tryd.underlying9
  a9 := Tryd.isAgg9
  z9 := Tryd.sizeOf9
  v9 := Tryd.zeroValue9
  t20 := Tryd.underlying20
  a20 := Tryd.isAgg20
  z20 := Tryd.sizeOf20
  v20 := Tryd.zeroValue20
  t37 := Tryd.underlying26
  a37 := Tryd.isAgg26
  z37 := Tryd.sizeOf26
  v37 := Tryd.zeroValue26
  t46 := Tryd.underlying38
  a46 := Tryd.isAgg38
  z46 := Tryd.sizeOf38
  v46 := Tryd.zeroValue38
  t51 := Tryd.underlying36
  a51 := Tryd.isAgg36
  z51 := Tryd.sizeOf36
  v51 := Tryd.zeroValue36
  t53 := Tryd.underlying22
  a53 := Tryd.isAgg22
  z53 := Tryd.sizeOf22
  v53 := Tryd.zeroValue22
  t171 := Tryd.underlying222
  a171 := Tryd.isAgg222
  z171 := Tryd.sizeOf222
  v171 := Tryd.zeroValue222
  t173 := Tryd.underlying224
  a173 := Tryd.isAgg224
  z173 := Tryd.sizeOf224
  v173 := Tryd.zeroValue224
  t212 := Tryd.underlying232
  a212 := Tryd.isAgg232
  z212 := Tryd.sizeOf232
  v212 := Tryd.zeroValue232
  t213 := Tryd.underlying233
  a213 := Tryd.isAgg233
  z213 := Tryd.sizeOf233
  t232 := Tryd.underlying241
  a232 := Tryd.isAgg241
  z232 := Tryd.sizeOf241
  v232 := Tryd.zeroValue241
  t233 := Tryd.underlying242
  a233 := Tryd.isAgg242
  z233 := Tryd.sizeOf242
  v233 := Tryd.zeroValue242
  g17 := by kernel_rfl
  g18 := by kernel_rfl
  g19 := by kernel_rfl
  i0 := by kernel_rfl
  i3 := by kernel_rfl
  i4 := by kernel_rfl
  i5 := by kernel_rfl
  i9 := by kernel_rfl
  i20 := by kernel_rfl
  i37 := by kernel_rfl
  i46 := by kernel_rfl
  i51 := by kernel_rfl
  i53 := by kernel_rfl
  i171 := by kernel_rfl
  i173 := by kernel_rfl
  i212 := by kernel_rfl
  i232 := by kernel_rfl
  i233 := by kernel_rfl
  m17 := by kernel_rfl
  m18 := by kernel_rfl
  m19 := by kernel_rfl }
end Go.Proofs
namespace Go.Proofs.YtangjgclpipjdaaDoor
open Go.RowKit Go.Proofs.YtangjgclpipjdaaDoorW.PrintWords Go.Proofs.YtangjgclpipjdaaDoorW.PrintLast Go.Proofs.YtangjgclpipjdaaDoorW.PrintMore
/-- The decimal figures of a number, as bytes. -/
def dec (u : Nat) : List Int := (Lib.decDigits u).map fun b => (b.toNat : Int)
end Go.Proofs.YtangjgclpipjdaaDoor
set_option linter.unusedVariables false
namespace Go.Proofs.YtangjgclpipjdaaDoor
open Go.RowKit Go.Proofs.YtangjgclpipjdaaDoorW.PrintWords Go.Proofs.YtangjgclpipjdaaDoorW.PrintLast Go.Proofs.YtangjgclpipjdaaDoorW.PrintMore
/-- A name in dotted figures. -/
def sDot (arcs : List Int) : List Int := (arcs.map fun n => 46 :: dec n.toNat).flatten
theorem sDot_snoc (l : List Int) (a : Int) : sDot (l ++ [a]) = sDot l ++ [46] ++ dec a.toNat := by simp [sDot]
theorem dec_len (n : Int) (h0 : 0 ≤ n) (h1 : n ≤ 4294967295) : (dec n.toNat).length ≤ 20 := by
  unfold dec
  rw [List.length_map, Lib.decDigits_length]
  by_cases h : n.toNat = 0
  · rw [h, Lib.nDigits_small (by omega)]; omega
  · have := Lib.numDigits_eq n.toNat (by omega) (by omega)
    split at this <;> omega
theorem sDot_len (l : List Int) (h : ∀ x ∈ l, 0 ≤ x ∧ x ≤ 4294967295) : (sDot l).length ≤ 21 * l.length := by
  induction l with
  | nil => simp [sDot]
  | cons a l ih =>
    have ih := ih (fun x hx => h x (by simp [hx]))
    have := dec_len a (h a (by simp)).1 (h a (by simp)).2
    unfold sDot at ih ⊢
    simp only [List.map_cons, List.flatten_cons, List.length_append, List.length_cons]
    omega
end Go.Proofs.YtangjgclpipjdaaDoor
set_option linter.unusedVariables false
namespace Go.Proofs.YtangjgclpipjdaaDoor
open Go.RowKit Go.Proofs.YtangjgclpipjdaaDoorW.PrintWords Go.Proofs.YtangjgclpipjdaaDoorW.PrintLast Go.Proofs.YtangjgclpipjdaaDoorW.PrintMore
theorem str_app (l m : List Int) : strOfNums l ++ strOfNums m = strOfNums (l ++ m) := by
  unfold strOfNums
  apply ByteArray.ext
  simp [ByteArray.data_append]
theorem dec_step (m : Nat) : dec m = (if m / 10 = 0 then [] else dec (m / 10)) ++ [((48 + m % 10 : Nat) : Int)] := by
  have hd : ((UInt8.ofNat (48 + m % 10)).toNat : Int) = ((48 + m % 10 : Nat) : Int) := by
    rw [UInt8.toNat_ofNat']
    omega
  unfold dec
  rw [Lib.decDigits]
  by_cases h : m < 10
  · rw [dif_pos h, if_pos (by omega)]
    have e : m % 10 = m := by omega
    rw [e] at hd ⊢
    simpa using hd
  · rw [dif_neg h, if_neg (by omega), List.map_append]
    simp only [List.map_cons, List.map_nil]
    rw [hd]
set_option maxRecDepth 100000 in
theorem figures_any (n : Int) (h0 : 0 ≤ n) (h1 : n ≤ 4294967295) (w : World) :
    Calls Tryd.prog 34 #[.int .u64 n] w fun e w' => e = .returned (.string (strOfNums (dec n.toNat))) ∧ Below w.heap.size w w' := by
  have HN := Lib.hid (And.intro h0 h1)
  clear h0 h1
  go_enter Tryd.func34, Tryd.ntmps34
  go_wp2
  go_loopg [0, 3] n.toNat (fun k v0 v3 wr => ∃ (m : Nat) (l : List Int), v0 = .int .u64 m ∧ v3 = .string (strOfNums l) ∧ Hid (k = m ∧ (m : Int) ≤ n ∧ dec n.toNat = dec m ++ l ∧ l.length + m ≤ 5000000000 ∧ Below w.heap.size w wr))
  case atStart =>
    have := HN.out
    exact ⟨n.toNat, [], by rw [Int.toNat_of_nonneg this.1], rfl, Lib.hid ⟨rfl, by omega, by simp, by simp; omega, Below.refl _ _⟩⟩
  case round =>
    obtain ⟨m, l, rfl, rfl, HR⟩ := hrel
    have hm : (m : Int) ≤ 4294967295 := by have := HN.out; have := HR.out.2.1; omega
    have e1 : IntKind.u64.wrap (48 + (m : Int) % 10) = 48 + (m : Int) % 10 := wraps_u64 _ (by omega) (by omega)
    have e2 : (48 + (m : Int) % 10) % 256 = 48 + (m : Int) % 10 := by omega
    have e3 : ((48 + m % 10 : Nat) : Int) = 48 + (m : Int) % 10 := by omega
    have hds := dec_step m
    rw [e3] at hds
    have HD := Lib.hid hds
    have hcv := (OwnB.lit wr wr.heap.size [48 + (m : Int) % 10] (Nat.le_refl _) (by simp) (cs := #[Value.int .u8 (48 + (m : Int) % 10)]) (by rfl)).string (P := Tryd.prog) Tryd.underlying26 Tryd.underlying5 Tryd.underlying9
    simp only [List.length_cons, List.length_nil, Nat.zero_add] at hcv
    have hap := str_app [48 + (m : Int) % 10] l
    have hsz : (strOfNums [48 + (m : Int) % 10]).size + (strOfNums l).size ≤ 9223372036854775807 := by
      have := HR.out.2.2.2.1
      simp [strOfNums, ByteArray.size]
      omega
    clear hds e3
    by_cases hz : m < 10
    · have hz2 : (m : Int) / 10 = 0 := by omega
      go_wp2
      go_ret
      have hd := HD.out
      rw [if_pos (by omega)] at hd
      refine ⟨?_, HR.out.2.2.2.2.alloc (HR.out.2.2.2.2).size _⟩
      rw [HR.out.2.2.1, hd]
      rfl
    · go_wp2
      go_roundg (m / 10)
      case measure =>
        have := HR.out.1
        omega
      case rel =>
        have hd := HD.out
        rw [if_neg (by omega)] at hd
        refine ⟨m / 10, (48 + (m : Int) % 10) :: l, by rw [show ((m / 10 : Nat) : Int) = (m : Int) / 10 by omega], rfl, Lib.hid ⟨rfl, by have := HR.out.2.1; omega, ?_, by have := HR.out.2.2.2.1; simp; omega, HR.out.2.2.2.2.alloc (HR.out.2.2.2.2).size _⟩⟩
        rw [HR.out.2.2.1, hd]
        simp
set_option maxRecDepth 100000 in
theorem dotted_any (arcs : List Int) (hx : ∀ x ∈ arcs, 0 ≤ x ∧ x ≤ 4294967295) (hl : arcs.length ≤ 1000) (A : Option Addr) (c : Nat) (w : World) (hC : Kd.C (Kd.int .u64) w A arcs.length arcs) :
    Calls Tryd.prog 32 #[.slice A arcs.length c] w fun e w' => e = .returned (.string (strOfNums (sDot arcs))) ∧ Below w.heap.size w w' := by
  have HH := Lib.hid (And.intro hx hC)
  clear hx hC
  go_enter Tryd.func32, Tryd.ntmps32
  go_wp2
  go_loopg [3, 8] arcs.length (fun k v3 v8 wr => ∃ i : Nat, v8 = .int .i64 i ∧ v3 = .string (strOfNums (sDot (arcs.take i))) ∧ Hid (i ≤ arcs.length ∧ k = arcs.length - i ∧ Below w.heap.size w wr))
  case atStart => exact ⟨0, rfl, rfl, Lib.hid ⟨Nat.zero_le _, rfl, Below.refl _ _⟩⟩
  case round =>
    obtain ⟨i, rfl, rfl, HR⟩ := hrel
    by_cases hi : (i : Int) < arcs.length
    · have hil : i < arcs.length := by omega
      obtain ⟨x0, x1⟩ := HH.out.1 arcs[i] (List.getElem_mem hil)
      obtain ⟨ad, rfl, g⟩ := Kd.at_int (Kd.C_below HH.out.2 HR.out.2.2) i (by omega) hi
      have hrd : rd arcs i = arcs[i] := by
        unfold Go.Proofs.YtangjgclpipjdaaDoorW.PrintWords.rd
        rw [Int.toNat_natCast, List.getD_eq_getElem?_getD, List.getElem?_eq_getElem hil]
        rfl
      rw [hrd, Int.toNat_natCast] at g
      have hst : sDot (arcs.take (i + 1)) = sDot (arcs.take i) ++ (46 :: dec (arcs[i]).toNat) := by
        rw [List.take_succ_eq_append_getElem hil, sDot_snoc]
        simp
      have hsl := sDot_len (arcs.take i) (fun x hx => HH.out.1 x (List.mem_of_mem_take hx))
      have hdl := dec_len arcs[i] x0 x1
      have hil' : (i < arcs.length) = True := eq_true hil
      rw [List.length_take] at hsl
      have hsl2 : (sDot (arcs.take i)).length ≤ 21000 := by omega
      clear hrd hsl
      generalize arcs[i] = x at *
      clear hil
      generalize hs : sDot (arcs.take i) = s at *
      generalize hs2 : sDot (arcs.take (i + 1)) = s2 at *
      subst hst
      have p1 : (ByteArray.mk #[46]) ++ strOfNums (dec x.toNat) = strOfNums (46 :: dec x.toNat) := str_app [46] _
      have p2 := str_app s (46 :: dec x.toNat)
      have q1 : (ByteArray.mk #[46]).size + (strOfNums (dec x.toNat)).size ≤ 9223372036854775807 := by simp [strOfNums, ByteArray.size]; omega
      have q2 : (strOfNums s).size + (strOfNums (46 :: dec x.toNat)).size ≤ 9223372036854775807 := by simp [strOfNums, ByteArray.size]; omega
      have HS := Lib.hid (And.intro hs hs2)
      clear hs hs2 hdl hsl2
      go_wp2_with fail
      refine (figures_any x x0 x1 wr).mono ?_
      rintro e w2 ⟨rfl, hb2⟩
      have HB := Lib.hid (below_step HR.out.2.2 hb2)
      clear hb2
      go_wp2
      go_roundg (arcs.length - (i + 1))
      case measure =>
        have := HR.out.2.1
        omega
      case rel => exact ⟨i + 1, by go_num, by rw [HS.out.2], Lib.hid ⟨by omega, rfl, HB.out⟩⟩
    · have HE := HR.out
      have hie : i = arcs.length := by omega
      rw [hie, List.take_length]
      clear hi HE
      go_wp2
      go_ret
      exact ⟨rfl, HR.out.2.2⟩
end Go.Proofs.YtangjgclpipjdaaDoor
set_option linter.unusedVariables false
namespace Go.Proofs.YtangjgclpipjdaaDoor
open Go.RowKit Go.Proofs.YtangjgclpipjdaaDoorW.PrintWords Go.Proofs.YtangjgclpipjdaaDoorW.PrintLast Go.Proofs.YtangjgclpipjdaaDoorW.PrintMore
/-- The numbers between the points; none where the text is no such. -/
def addrGo : List Int → List Int → Int → Bool → Option (List Int)
  | [], out, n, some_ => if some_ = true ∧ out.length ≠ 4 then some (out ++ [n]) else none
  | c :: l, out, n, some_ =>
    if c = 46 then (if some_ = true ∧ out.length ≠ 4 then addrGo l (out ++ [n]) 0 false else none)
    else if c < 48 ∨ c > 57 ∨ (some_ = true ∧ n = 0) ∨ 10 * n + (c - 48) > 255 then none
    else addrGo l out (10 * n + (c - 48)) true
def finD : Option (List Int) → List Int × Bool
  | none => ([], false)
  | some out => (out, decide (out.length = 4))
def sAddr (s : List Int) : List Int × Bool := finD (addrGo s [] 0 false)
/-- Figures without noughts ahead are those of their number. -/
theorem figs_dec (m : Nat) : ∀ (ds : List Int), ds.length ≤ m → ds ≠ [] → (∀ d ∈ ds, 48 ≤ d ∧ d ≤ 57) → (ds.head? = some 48 → ds.length = 1) → ds = dec (figs ds 0).toNat := by
  induction m with
  | zero => intro ds h hn; cases ds; exact absurd rfl hn; simp at h
  | succ m ih =>
    intro ds hm hn hd h0
    rcases List.eq_nil_or_concat ds with rfl | ⟨l, c, rfl⟩
    · exact absurd rfl hn
    rw [List.concat_eq_append] at *
    have hc := hd c (by simp)
    rw [figs_snoc]
    have hl : ∀ d ∈ l, 48 ≤ d ∧ d ≤ 57 := fun d h => hd d (by simp [h])
    by_cases hnil : l = []
    · subst hnil
      simp only [figs, List.nil_append]
      rw [dec_step, if_pos (by omega)]
      simp only [List.nil_append]
      congr 1
      omega
    · have h1 : l.head? = some 48 → l.length = 1 := by
        intro h
        cases l with
        | nil => simp at h
        | cons a t =>
          simp at h
          subst h
          have := h0 (by simp)
          simp at this
      have h2 : l.head? ≠ some 48 := by
        intro h
        cases l with
        | nil => simp at h
        | cons a t =>
          simp at h
          subst h
          have := h0 (by simp)
          simp at this
      have hi := ih l (by simp at hm; omega) hnil hl h1
      have hpos : 1 ≤ figs l 0 := by
        cases l with
        | nil => exact absurd rfl hnil
        | cons a t =>
          have ha := hl a (by simp)
          have hne : a ≠ 48 := by intro h; apply h2; simp [h]
          simp only [figs]
          have := figs_mono t (fun d h => hl d (by simp [h])) (10 * 0 + (a - 48)) (by omega)
          omega
      rw [dec_step, if_neg (by omega)]
      rw [show (10 * figs l 0 + (c - 48)).toNat / 10 = (figs l 0).toNat by omega, ← hi]
      congr 2
      omega
/-- d0.d1.d2.. -/
def dots : List Int → List Int
  | [] => []
  | [a] => dec a.toNat
  | a :: b :: l => dec a.toNat ++ 46 :: dots (b :: l)
theorem addrGo_dots (l : List Int) : ∀ (out : List Int) (n : Int) (sm : Bool) (pre r : List Int), addrGo l out n sm = some r → (∀ d ∈ pre, 48 ≤ d ∧ d ≤ 57) → figs pre 0 = n → (sm = true ↔ pre ≠ []) → (pre.head? = some 48 → pre.length = 1) → n ≤ 255 →
    ∃ post, r = out ++ post ∧ post ≠ [] ∧ pre ++ l = dots post ∧ (∀ x ∈ post, 0 ≤ x ∧ x ≤ 255) := by
  have hdec : ∀ (pre : List Int), (∀ d ∈ pre, 48 ≤ d ∧ d ≤ 57) → pre ≠ [] → (pre.head? = some 48 → pre.length = 1) → pre = dec (figs pre 0).toNat := fun pre h1 h2 h3 => figs_dec pre.length pre (Nat.le_refl _) h2 h1 h3
  induction l with
  | nil =>
    intro out n sm pre r h hd hf hs h0 hn
    simp only [addrGo] at h
    by_cases hc : sm = true ∧ out.length ≠ 4
    · rw [if_pos hc] at h
      injection h with h
      refine ⟨[n], h.symm, by simp, ?_, ?_⟩
      · simp only [dots, List.append_nil]
        rw [← hf]
        exact hdec pre hd (hs.1 hc.1) h0
      · intro x hx
        simp at hx
        subst hx
        have := figs_mono pre hd 0 (by omega)
        omega
    · rw [if_neg hc] at h; cases h
  | cons c l ih =>
    intro out n sm pre r h hd hf hs h0 hn
    have hn0 : 0 ≤ n := by have := figs_mono pre hd 0 (by omega); omega
    simp only [addrGo] at h
    by_cases h46 : c = 46
    · rw [if_pos h46] at h
      by_cases hc : sm = true ∧ out.length ≠ 4
      · rw [if_pos hc] at h
        obtain ⟨post, h1, h2, h3, h4⟩ := ih _ _ _ [] r h (by simp) rfl (by simp) (by simp) (by omega)
        refine ⟨n :: post, by rw [h1]; simp, by simp, ?_, ?_⟩
        · obtain ⟨b, t, rfl⟩ : ∃ b t, post = b :: t := by
            cases post with
            | nil => exact absurd rfl h2
            | cons b t => exact ⟨b, t, rfl⟩
          simp only [dots]
          rw [← hf, ← hdec pre hd (hs.1 hc.1) h0, h46]
          simp only [List.nil_append] at h3
          rw [h3]
        · intro x hx
          rcases List.mem_cons.1 hx with rfl | h'
          · omega
          · exact h4 x h'
      · rw [if_neg hc] at h; cases h
    · rw [if_neg h46] at h
      by_cases hg : c < 48 ∨ c > 57 ∨ (sm = true ∧ n = 0) ∨ 10 * n + (c - 48) > 255
      · rw [if_pos hg] at h; cases h
      · rw [if_neg hg] at h
        obtain ⟨post, h1, h2, h3, h4⟩ := ih out (10 * n + (c - 48)) true (pre ++ [c]) r h (by
          intro d hx
          rcases List.mem_append.1 hx with h' | h'
          · exact hd d h'
          · simp at h'; omega) (by rw [figs_snoc, hf]) (by simp) (by
          intro hh
          cases pre with
          | nil => rfl
          | cons a t =>
            exfalso
            simp at hh
            subst hh
            have := h0 (by simp)
            simp at this
            subst this
            simp [figs] at hf
            have hst := hs.2 (by simp)
            exact hg (.inr (.inr (.inl ⟨hst, hf.symm⟩)))) (by omega)
        exact ⟨post, h1, h2, by rw [← h3]; simp, h4⟩
/-- A text that is an address is its four numbers' figures. -/
theorem sAddr_text (s out : List Int) (h : sAddr s = (out, true)) : out.length = 4 ∧ s = dots out ∧ ∀ x ∈ out, 0 ≤ x ∧ x ≤ 255 := by
  unfold sAddr at h
  cases e : addrGo s [] 0 false with
  | none => rw [e] at h; simp [finD] at h
  | some r =>
    rw [e] at h
    simp only [finD, Prod.mk.injEq, decide_eq_true_eq] at h
    obtain ⟨rfl, h4⟩ := h
    obtain ⟨post, h1, h2, h3, h5⟩ := addrGo_dots s [] 0 false [] _ e (by simp) rfl (by simp) (by simp) (by omega)
    simp only [List.nil_append] at h1 h3
    subst h1
    exact ⟨h4, h3, h5⟩
end Go.Proofs.YtangjgclpipjdaaDoor
set_option linter.unusedVariables false
namespace Go.Proofs.YtangjgclpipjdaaDoor
open Go.RowKit Go.Proofs.YtangjgclpipjdaaDoorW.PrintWords Go.Proofs.YtangjgclpipjdaaDoorW.PrintLast Go.Proofs.YtangjgclpipjdaaDoorW.PrintMore
/-- The rounds of spec.Int. -/
def intF : Nat → Int → List Int → List Int
  | 0, _, l => l
  | k + 1, n, l => if -128 ≤ n ∧ n ≤ 127 then l else intF k (n / 256) (n / 256 % 256 :: l)
def sInt (n : Int) : List Int := intF 8 n [n % 256]
theorem intF_small (k : Nat) (n : Int) (l : List Int) (h : -128 ≤ n ∧ n ≤ 127) : intF k n l = l := by
  cases k with
  | zero => rfl
  | succ k => rw [intF, if_pos h]
theorem sInt_32 (n : Int) (h0 : -2147483648 ≤ n) (h1 : n ≤ 2147483647) : sInt n = mInt32 n := by
  have d2 : n / 256 / 256 = n / 65536 := by omega
  have d3 : n / 65536 / 256 = n / 16777216 := by omega
  unfold sInt mInt32
  by_cases c1 : -128 ≤ n ∧ n ≤ 127
  · rw [intF, if_pos c1, if_pos (by omega)]
  rw [intF, if_neg c1, if_neg (by omega)]
  by_cases c2 : -32768 ≤ n ∧ n ≤ 32767
  · rw [intF, if_pos (by omega), if_pos (by omega)]
  rw [intF, if_neg (by omega), if_neg (by omega), d2]
  by_cases c3 : -8388608 ≤ n ∧ n ≤ 8388607
  · rw [intF, if_pos (by omega), if_pos (by omega)]
  rw [intF, if_neg (by omega), if_neg (by omega), d3, intF_small _ _ _ (by omega)]
/-- The content of a value, and whether it is one of those that are asked. -/
def sCont (ty i u : Int) (tx : List Int) : List Int × Bool :=
  if ty = 2 then (sInt i, decide (-2147483648 ≤ i ∧ i < 2147483648))
  else if ty = 4 then (tx, decide (tx.length ≤ 500))
  else if ty = 5 ∨ ty = 128 ∨ ty = 129 ∨ ty = 130 then ([], true)
  else if ty = 6 then (if (sArcs tx).2 = true then (sName (sArcs tx).1, true) else ([], false))
  else if ty = 64 then sAddr tx
  else if ty = 65 ∨ ty = 66 ∨ ty = 67 then (sUint u, decide (u < 4294967296))
  else if ty = 70 then (sUint u, true)
  else ([], false)
/-- A value that is asked: its type, what it holds, its content c, and what is told: number, number without a sign, text. -/
inductive Cont (ty i u : Int) (tx : List Int) : List Int → Int → Int → List Int → Prop
  | int (h : ty = 2) (h0 : -2147483648 ≤ i) (h1 : i ≤ 2147483647) : Cont ty i u tx (mInt32 i) i 0 []
  | oct (h : ty = 4) (h0 : tx.length ≤ 500) : Cont ty i u tx tx 0 0 tx
  | null (h : ty = 5 ∨ ty = 128 ∨ ty = 129 ∨ ty = 130) : Cont ty i u tx [] 0 0 []
  | oid (h : ty = 6) (arcs : List Int) (ha : sArcs tx = (arcs, true)) : Cont ty i u tx (sName arcs) 0 0 (sDot arcs)
  | addr (h : ty = 64) (out : List Int) (ha : sAddr tx = (out, true)) : Cont ty i u tx out 0 0 tx
  | u32 (h : ty = 65 ∨ ty = 66 ∨ ty = 67) (h0 : u ≤ 4294967295) : Cont ty i u tx (sUint u) 0 u []
  | u64 (h : ty = 70) : Cont ty i u tx (sUint u) 0 u []
theorem sCont_ok (ty i u : Int) (tx c : List Int) (h : sCont ty i u tx = (c, true)) : ∃ i' u' tx', Cont ty i u tx c i' u' tx' := by
  unfold sCont at h
  by_cases h2 : ty = 2
  · rw [if_pos h2] at h
    simp only [Prod.mk.injEq, decide_eq_true_eq] at h
    obtain ⟨rfl, h3⟩ := h
    rw [sInt_32 i h3.1 (by omega)]
    exact ⟨_, _, _, .int h2 h3.1 (by omega)⟩
  rw [if_neg h2] at h
  by_cases h4 : ty = 4
  · rw [if_pos h4] at h
    simp only [Prod.mk.injEq, decide_eq_true_eq] at h
    obtain ⟨rfl, h3⟩ := h
    exact ⟨_, _, _, .oct h4 h3⟩
  rw [if_neg h4] at h
  by_cases h5 : ty = 5 ∨ ty = 128 ∨ ty = 129 ∨ ty = 130
  · rw [if_pos h5] at h
    simp only [Prod.mk.injEq] at h
    obtain ⟨rfl, -⟩ := h
    exact ⟨_, _, _, .null h5⟩
  rw [if_neg h5] at h
  by_cases h6 : ty = 6
  · rw [if_pos h6] at h
    by_cases ha : (sArcs tx).2 = true
    · rw [if_pos ha] at h
      simp only [Prod.mk.injEq] at h
      obtain ⟨rfl, -⟩ := h
      exact ⟨_, _, _, .oid h6 _ (by rw [← ha])⟩
    · rw [if_neg ha] at h; simp at h
  rw [if_neg h6] at h
  by_cases h7 : ty = 64
  · rw [if_pos h7] at h
    exact ⟨_, _, _, .addr h7 _ h⟩
  rw [if_neg h7] at h
  by_cases h8 : ty = 65 ∨ ty = 66 ∨ ty = 67
  · rw [if_pos h8] at h
    simp only [Prod.mk.injEq, decide_eq_true_eq] at h
    obtain ⟨rfl, h3⟩ := h
    exact ⟨_, _, _, .u32 h8 (by omega)⟩
  rw [if_neg h8] at h
  by_cases h9 : ty = 70
  · rw [if_pos h9] at h
    simp only [Prod.mk.injEq] at h
    obtain ⟨rfl, -⟩ := h
    exact ⟨_, _, _, .u64 h9⟩
  rw [if_neg h9] at h
  simp at h
theorem Cont.of {ty i u : Int} {tx c : List Int} {i' u' : Int} {tx' : List Int} (h : Cont ty i u tx c i' u' tx') : sCont ty i u tx = (c, true) := by
  unfold sCont
  cases h with
  | int h h0 h1 => rw [if_pos h, sInt_32 i h0 h1]; simp; omega
  | oct h h0 => rw [if_neg (by omega), if_pos h]; simp; omega
  | null h => rw [if_neg (by omega), if_neg (by omega), if_pos h]
  | oid h arcs ha => rw [if_neg (by omega), if_neg (by omega), if_neg (by omega), if_pos h, ha]; rfl
  | addr h out ha => rw [if_neg (by omega), if_neg (by omega), if_neg (by omega), if_neg (by omega), if_pos h, ha]
  | u32 h h0 => rw [if_neg (by omega), if_neg (by omega), if_neg (by omega), if_neg (by omega), if_neg (by omega), if_pos h]; simp; omega
  | u64 h => rw [if_neg (by omega), if_neg (by omega), if_neg (by omega), if_neg (by omega), if_neg (by omega), if_neg (by omega), if_pos h]
theorem mInt32_len (n : Int) : 1 ≤ (mInt32 n).length ∧ (mInt32 n).length ≤ 4 := by
  unfold mInt32
  repeat' split
  all_goals simp
theorem sUint_len (n : Int) : 1 ≤ (sUint n).length ∧ (sUint n).length ≤ 9 := by
  have := uBytes_len n
  unfold sUint
  split
  · simp only [List.length_cons]; omega
  · omega
theorem Cont.len {ty i u : Int} {tx c : List Int} {i' u' : Int} {tx' : List Int} (h : Cont ty i u tx c i' u' tx') : c.length ≤ 500 := by
  cases h with
  | int h h0 h1 => have := mInt32_len i; omega
  | oct h h0 => exact h0
  | null h => simp
  | oid h arcs ha =>
    have := sName_len arcs
    have h60 := (sArcs_text _ _ ha).1.2.1
    omega
  | addr h out ha => have := (sAddr_text _ _ ha).1; omega
  | u32 h h0 => have := sUint_len u; omega
  | u64 h => have := sUint_len u; omega
end Go.Proofs.YtangjgclpipjdaaDoor
set_option linter.unusedVariables false
namespace Go.Proofs.YtangjgclpipjdaaDoor
open Go.RowKit Go.Proofs.YtangjgclpipjdaaDoorW.PrintWords Go.Proofs.YtangjgclpipjdaaDoorW.PrintLast Go.Proofs.YtangjgclpipjdaaDoorW.PrintMore
theorem and127u (x : Int) (h0 : 0 ≤ x) (h1 : x ≤ 18446744073709551615) : bits .and .u64 x 127 = x % 128 := by
  have := bits_mask .u64 64 (by decide) wraps_u64 7 (by decide) x h0 (by omega)
  simpa using this
theorem or128u (x : Int) (h0 : 0 ≤ x) (h1 : x < 128) : bits .or .u8 x 128 = x + 128 := by
  rw [u8_or x 128 h0 (by omega) (by omega) (by omega)]
  have := nat_join 7 128 x.toNat (by decide) (by omega)
  rw [Nat.or_comm, show (128 : Int).toNat = 128 from rfl, this]
  omega
theorem infoU64 : (Tryd.prog.info? 22).map (fun i => (i.zero, i.size, i.bytes)) = some (some (.int .u64 0), 1, 8) := by kernel_rfl
theorem infoU64' : ∃ i, Tryd.prog.info? 22 = some i ∧ i.size = 1 := by
  obtain ⟨i, hi, hz⟩ := Option.map_eq_some_iff.1 infoU64
  simp at hz
  exact ⟨i, hi, hz.2.1⟩
/-- What the rounds make of the number n and the bytes behind it. -/
def finK : Nat → Int → List Int → List Int
  | 0, _, part => part
  | k + 1, n, part => if n < 128 then part else finK k (n / 128) ((n / 128 % 128 + 128) :: part)
theorem finK_b128 (x : Int) (h0 : 0 ≤ x) (h1 : x ≤ 4294967295) : finK 4 x [x % 128] = b128 x := by
  have d2 : x / 128 / 128 = x / 16384 := by omega
  have d3 : x / 16384 / 128 = x / 2097152 := by omega
  have d4 : x / 2097152 / 128 = x / 268435456 := by omega
  simp only [finK, d2, d3, d4]
  unfold b128
  by_cases c1 : x < 128
  · rw [if_pos c1, if_pos c1, show x % 128 = x by omega]
  rw [if_neg c1, if_neg c1]
  by_cases c2 : x < 16384
  · rw [if_pos c2, if_pos (by omega), show x / 128 % 128 = x / 128 by omega]
  rw [if_neg c2, if_neg (by omega)]
  by_cases c3 : x < 2097152
  · rw [if_pos c3, if_pos (by omega), show x / 16384 % 128 = x / 16384 by omega]
  rw [if_neg c3, if_neg (by omega)]
  by_cases c4 : x < 268435456
  · rw [if_pos c4, if_pos (by omega), show x / 2097152 % 128 = x / 2097152 by omega]
  rw [if_neg c4, if_neg (by omega), show x / 268435456 % 128 = x / 268435456 by omega]
set_option maxRecDepth 100000 in
theorem specName_any (arcs : List Int) (h2 : 2 ≤ arcs.length) (h60 : arcs.length ≤ 60) (hx : ∀ x ∈ arcs, 0 ≤ x ∧ x ≤ 4294967295) (A : Option Addr) (c : Nat) (hc : arcs.length ≤ c) (w : World) (hC : Kd.C (Kd.int .u64) w A arcs.length arcs) :
    Calls Tryd.prog 24 #[.slice A arcs.length c] w fun e w' => ∃ v, e = .returned v ∧ OwnB w' w.heap.size v (sName arcs) ∧ Below w.heap.size w w' := by
  have hx0 := hx (rd arcs 0) (by unfold Go.Proofs.YtangjgclpipjdaaDoorW.PrintWords.rd; rw [List.getD_eq_getElem?_getD, List.getElem?_eq_getElem (by simp; omega)]; simp)
  have hx1 := hx (rd arcs 1) (by unfold Go.Proofs.YtangjgclpipjdaaDoorW.PrintWords.rd; rw [List.getD_eq_getElem?_getD, List.getElem?_eq_getElem (by simp; omega)]; simp)
  obtain ⟨ad, rfl, g0⟩ := Kd.at_int hC 0 (by omega) (by omega)
  obtain ⟨ad', ea, g1⟩ := Kd.at_int hC 1 (by omega) (by omega)
  obtain rfl : ad = ad' := by injection ea
  rw [show (0 : Int).toNat = 0 from rfl, Addr.add_zero'] at g0
  simp only [show (1 : Int).toNat = 1 from rfl, Go.Addr.add, Nat.reduceEqDiff, if_false] at g1
  generalize hq0 : rd arcs 0 = q0 at *
  generalize hq1 : rd arcs 1 = q1 at *
  have m0 : (0 < arcs.length) = True := eq_true (by omega)
  have m1 : (1 < arcs.length) = True := eq_true (by omega)
  have e1 : IntKind.u64.wrap (40 * q0) = 40 * q0 := by simp [IntKind.wrap, IntKind.bits, IntKind.signed]; omega
  have e2 : IntKind.u64.wrap (40 * q0 + q1) = 40 * q0 + q1 := by simp [IntKind.wrap, IntKind.bits, IntKind.signed]; omega
  have HH := Lib.hid (And.intro hq0 (And.intro hq1 (And.intro hx (And.intro hC hc))))
  clear hq0 hq1 hx hC ea hc
  have hal : ∀ o, Below w.heap.size w (w.alloc o).drew := fun o => below_drew ((Below.refl _ _).alloc (Nat.le_refl _) o)
  go_enter Tryd.func24, Tryd.ntmps24
  go_wp2_with fail
  go_region_held (fun w' => w'.cell? ad = some (.int .u64 q0) ∧ w'.cell? ⟨ad.block, ad.off + 1, none⟩ = some (.int .u64 q1)) (first | exact ⟨g0, g1⟩ | exact ⟨((hal _).cell (World.block_lt_of_cell? w _ g0)).trans g0, ((hal _).cell (World.block_lt_of_cell? w _ g1)).trans g1⟩) (fail)
  have ho0 : OwnB (w.alloc (.cells #[Value.int .u8 ((40 * q0 + q1) % 256)] 5)).drew w.heap.size (.slice (some ⟨w.heap.size, 0, none⟩) 1 1) [(40 * q0 + q1) % 256] := (OwnB.lit w _ [(40 * q0 + q1) % 256] (Nat.le_refl _) (by simp) (by rfl)).drew
  rw [IntKind.wrap_u8]
  obtain ⟨hq0, hq1, hx, hC, hc⟩ := HH.out
  obtain ⟨i8, hi8, hs8⟩ := infoU64'
  obtain ⟨A8, hcut, hA8, hC8⟩ := print_drop_of (P := Tryd.prog) (Value.int .u64) 0 52 22 .i64 Tryd.underlying52 hi8 hs8 (some ad) c arcs 2 (by omega) (by omega) hc
  have hCl := Kd.C_of_reads (h1 := fun _ => rfl) (hA8 _ (Kd.reads_of_C hC))
  have hle : sName arcs = (40 * q0 + q1) % 256 :: b128s (arcs.drop 2) := by unfold sName; rw [hq0, hq1]
  have hxl : ∀ x ∈ arcs.drop 2, 0 ≤ x ∧ x ≤ 4294967295 := fun x h => hx x (List.mem_of_mem_drop h)
  have hll : (arcs.drop 2).length ≤ 60 := by rw [List.length_drop]; omega
  rw [show (2 : Int).toNat = 2 from rfl] at hcut hCl
  have HB0 := Lib.hid (hal (.cells #[Value.int .u8 ((40 * q0 + q1) % 256)] 5))
  have HL := Lib.hid (And.intro hle (And.intro hxl hCl))
  have HO0 := Lib.hid ho0
  clear hle hxl hCl hA8 hC8 hx hC hc hq0 hq1 HH hs8 hi8 hx0 hx1 e1 e2 g0 g1 m0 m1 ho0 hal
  generalize (40 * q0 + q1) % 256 = q at *
  generalize arcs.drop 2 = l at *
  go_wp2
  go_loopg [3, 20] l.length (fun k v3 v20 wr => ∃ i : Nat, v20 = .int .i64 i ∧ Hid (i ≤ l.length ∧ k = l.length - i ∧ OwnB wr w.heap.size v3 (q :: b128s (l.take i)) ∧ Below w.heap.size w wr))
  case atStart => exact ⟨0, rfl, Lib.hid ⟨Nat.zero_le _, rfl, HO0.out, HB0.out⟩⟩
  case round =>
    obtain ⟨i, rfl, HR⟩ := hrel
    generalize wr = wo at *
    by_cases hi : (i : Int) < l.length
    · have hil : i < l.length := by omega
      obtain ⟨x0, x1⟩ := HL.out.2.1 l[i] (List.getElem_mem hil)
      have hb := HR.out.2.2.2
      obtain ⟨ad8, rfl, g⟩ := Kd.at_int (Kd.C_below HL.out.2.2 hb) i (by omega) hi
      have hrd : rd l i = l[i] := by
        unfold Go.Proofs.YtangjgclpipjdaaDoorW.PrintWords.rd
        rw [Int.toNat_natCast, List.getD_eq_getElem?_getD, List.getElem?_eq_getElem hil]
        rfl
      rw [hrd, Int.toNat_natCast] at g
      have HX := Lib.hid (show l.take (i + 1) = l.take i ++ [l[i]] from List.take_succ_eq_append_getElem hil)
      have a1 := and127u l[i] x0 (by omega)
      have a2 : l[i] % 128 % 256 = l[i] % 128 := by omega
      clear hb hrd HO0 HB0
      generalize l[i] = x at *
      have hil' : (i < l.length) = True := eq_true hil
      clear hil
      go_wp2
      have hpart : OwnB (wo.alloc (.cells #[Value.int .u8 (x % 128)] 5)) wo.heap.size (.slice (some ⟨wo.heap.size, 0, none⟩) 1 1) [x % 128] := OwnB.lit wo _ [x % 128] (Nat.le_refl _) (by simp) (by rfl)
      have HP := Lib.hid (And.intro hpart ((Below.refl wo.heap.size wo).alloc (Nat.le_refl _) (.cells #[Value.int .u8 (x % 128)] 5)))
      have HF := Lib.hid (finK_b128 x x0 x1)
      clear hpart g hcut
      go_loopg [5, 6] 4 (fun k v5 v6 w2 => ∃ (n : Int) (part : List Int), v5 = .int .u64 n ∧ Hid (0 ≤ n ∧ n ≤ 4294967295 ∧ finK k n part = b128 x ∧ OwnB w2 wo.heap.size v6 part ∧ Below wo.heap.size wo w2 ∧ part.length + k ≤ 5 ∧ (k = 0 → n < 128) ∧ (k = 1 → n < 16384) ∧ (k = 2 → n < 2097152) ∧ (k = 3 → n < 268435456) ∧ k ≤ 4))
      case atStart => exact ⟨x, _, rfl, Lib.hid ⟨x0, x1, HF.out, HP.out.1, HP.out.2, by simp, by omega, by omega, by omega, by omega, by omega⟩⟩
      case round =>
        obtain ⟨n, part, rfl, HI⟩ := hrel
        obtain ⟨n0, n1, hf, ho, hb, hpl, k0, k1, k2, k3, k4⟩ := HI.out
        clear HP HF
        by_cases hn : n < 128
        · have hfin : part = b128 x := by
            rw [← hf]
            cases gk <;> simp [finK, hn]
          have HI := Lib.hid (And.intro ho hb)
          obtain ⟨A, cc, rfl, hcc, hC⟩ := Kd.R_reads ho
          subst hfin
          have HC := Lib.hid hC
          have hlb := b128_len x
          have hw := hb.size
          obtain ⟨h1, h2, h3, h4⟩ := HR.out
          have hww := h4.size
          have HO := Lib.hid (And.intro (OwnB.below h3 hb) (And.intro (below_step h4 hb) (show (q :: b128s (l.take i)).length ≤ 301 by have := b128s_len (l.take i); rw [List.length_take] at this; simp only [List.length_cons]; omega)))
          have HI2 := Lib.hid (And.intro h1 h2)
          have hi60 : i ≤ 60 := by omega
          clear hf ho hb k0 k1 k2 k3 k4 hpl hC h1 h2 h3 h4
          go_wp2_with (at_builtin; refine app_bytes rfl (.tmp 39) (.tmp 40) 26 rfl Tryd.underlying26 infoB w.heap.size u3 (q :: b128s (l.take i)) (b128 x) A (b128 x).length cc rfl rfl HO.out.1 HC.out (by omega) (by have := HO.out.2.2; omega) ?_; intro v1 w3 ho3 hg3 hat3)
          go_roundg (l.length - (i + 1))
          case measure =>
            have := HI2.out
            omega
          case rel =>
            have hi2 := HI2.out
            refine ⟨i + 1, by go_num, Lib.hid ⟨by omega, rfl, ?_, HO.out.2.1.grown hg3 (by omega) ?_⟩⟩
            · rw [HX.out, b128s_snoc]
              exact ho3
            · intro k hk
              exact ((Kd.R_bound HO.out.1).1 k hk).2.1
        · obtain ⟨k', rfl⟩ : ∃ k', gk = k' + 1 := ⟨gk - 1, by omega⟩
          have hnd : n / 128 ≤ 4294967295 := by omega
          have b1 := and127u (n / 128) (by omega) (by omega)
          have b2 : n / 128 % 128 % 256 = n / 128 % 128 := by omega
          have b3 := or128u (n / 128 % 128) (by omega) (by omega)
          have hw := hb.size
          obtain ⟨A, cc, rfl, hcc, hC⟩ := Kd.R_reads ho
          have hpl2 : part.length ≤ 5 := by omega
          simp only [finK, if_neg hn] at hf
          have HC := Lib.hid hC
          have HI := Lib.hid (And.intro hf (And.intro hb (And.intro hpl (And.intro k1 (And.intro k2 (And.intro k3 k4))))))
          clear hf ho hb hpl k0 k1 k2 k3 k4 hC HR
          go_wp2_with (at_builtin; refine app_bytes rfl (.tmp 36) (.tmp 37) 26 rfl Tryd.underlying26 infoB wr.heap.size (.slice (some ⟨wr.heap.size, 0, none⟩) 1 1) [n / 128 % 128 + 128] part A part.length cc rfl rfl (OwnB.lit wr _ [n / 128 % 128 + 128] (Nat.le_refl _) (by simp) (by rfl)) (Kd.C_alloc HC.out _) (by simp) (by simp; omega) ?_; intro v1 w3 ho3 hg3 hat3)
          go_roundg k'
          case measure => omega
          case rel =>
            obtain ⟨hf, hb, hpl, k1, k2, k3, k4⟩ := HI.out
            refine ⟨n / 128, _, by go_num, Lib.hid ⟨by omega, by omega, hf, ?_, ?_, by simp at hpl ⊢; omega, by omega, by omega, by omega, by omega, by omega⟩⟩
            · exact Kd.R_lower ho3 hw
            · exact (hb.alloc hw _).grown hg3 (by simp; omega) (fun k hk => by simp [Value.ownBlock] at hk; omega)
    · go_wp2
      go_ret
      obtain ⟨h1, h2, h3, h4⟩ := HR.out
      obtain ⟨hle, -, -⟩ := HL.out
      refine ⟨_, rfl, ?_, h4⟩
      rw [hle]
      rw [List.take_of_length_le (by omega)] at h3
      exact h3
end Go.Proofs.YtangjgclpipjdaaDoor
