/- Small lemmas of my own over the printed words: results that are byte rows of the call's own, frames, masks of bits. No program in sight. slices.Clone of bytes. Names: the reference's plain functions (arcs of dotted figures, the bytes of arcs), and what a text of arcs looks like. spec.Name: the walk. spec.Arcs: the walk. -/
import Derived.WalkKit
import Derived.WalkLawsBesides
import Derived.WalkSpells
import Derived.BigQuiet
import Derived.Deep.QuietTactic
import Derived.Deep.RegionHeld3
import Derived.Deep.RegionWith
import Derived.Outline
import Derived.Below
import Derived.Laws.BytesArg
import Derived.Laws.BitsAllLaws
import Derived.Lib.Hide
import Derived.Test.YtangjgclpipjdaaDoorWWords
import Derived.Test.YtangjgclpipjdaaDoorWLast
import Derived.Test.YtangjgclpipjdaaDoorWKept
import Derived.Test.YtangjgclpipjdaaDoorWMore
import Derived.Test.YtangjgclpipjdaaDoorWShare
import Derived.Test.YtangjgclpipjdaaDoorWFoot
import Derived.Test.YtangjgclpipjdaaDoorProg
import Derived.Lib.EndianBits
set_option linter.unusedVariables false
namespace Go.Proofs.YtangjgclpipjdaaDoor
open Go.RowKit Go.Proofs.YtangjgclpipjdaaDoorW.PrintWords Go.Proofs.YtangjgclpipjdaaDoorW.PrintLast Go.Proofs.YtangjgclpipjdaaDoorW.PrintMore

/-- A row of bytes of the call's own. -/
def OwnB (w : World) (B : Nat) (v : Value) (xs : List Int) : Prop := Kd.R (Kd.int .u8) 5 w B (fun _ => True) v xs
/-- What a function answers that makes bytes and no error: ([]byte, error). -/
def GotE (w w' : World) (xs : List Int) (e : Ending) : Prop := ∃ v, e = .returned (.tuple #[v, .nilIface]) ∧ OwnB w' w.heap.size v xs ∧ Below w.heap.size w w'
/-- ([]byte, bool), true. -/
def GotT (w w' : World) (xs : List Int) (e : Ending) : Prop := ∃ v, e = .returned (.tuple #[v, .bool true]) ∧ OwnB w' w.heap.size v xs ∧ Below w.heap.size w w'

theorem OwnB.lit (w : World) (B : Nat) (xs : List Int) (hB : B ≤ w.heap.size) (h : xs.length ≤ 9223372036854775807) {cs : Array Value} (hc : cs.toList = xs.map (Value.int .u8)) :
    OwnB (w.alloc (.cells cs 5)) B (.slice (some ⟨w.heap.size, 0, none⟩) xs.length xs.length) xs := by
  obtain ⟨l⟩ := cs
  simp only at hc
  subst hc
  have := own_lit_of (enc := Value.int .u8) w B 5 xs hB h
  exact Kd.R_of_own this (fun _ _ => trivial)

theorem gotE_lit (w : World) (xs ys : List Int) (hx : xs = ys) (h : ys.length ≤ 100) {cs : Array Value} (hc : cs.toList = ys.map (Value.int .u8)) :
    GotE w (w.alloc (.cells cs 5)) xs (.returned (.tuple #[.slice (some ⟨w.heap.size, 0, none⟩) ys.length ys.length, .nilIface])) := by
  subst hx
  exact ⟨_, rfl, OwnB.lit w _ xs (Nat.le_refl _) (by omega) hc, (Below.refl _ _).alloc (Nat.le_refl _) _⟩

theorem and_mask (m : Nat) (x : Nat) (k : Nat) (hk : k ≤ 32) (hx : x < 2 ^ 32) (hm : m = 2 ^ 32 - 2 ^ k) : x &&& m = x / 2 ^ k * 2 ^ k := by
  subst hm
  apply Nat.eq_of_testBit_eq
  intro i
  rw [Nat.testBit_and, Nat.mul_comm, Nat.testBit_two_pow_mul, Nat.testBit_div_two_pow]
  have e : (2 ^ 32 - 2 ^ k).testBit i = (decide (k ≤ i) && decide (i < 32)) := by
    have : 2 ^ 32 - 2 ^ k = 2 ^ k * (2 ^ (32 - k) - 1) := by
      rw [Nat.mul_sub, ← Nat.pow_add, Nat.mul_one]; congr 2; omega
    rw [this, Nat.testBit_two_pow_mul, Nat.testBit_two_pow_sub_one]
    by_cases h1 : k ≤ i <;> simp [h1]
    omega
  rw [e]
  by_cases h1 : k ≤ i
  · by_cases h2 : i < 32
    · simp [h1, h2]
    · have : x.testBit i = false := Nat.testBit_lt_two_pow (Nat.lt_of_lt_of_le hx (Nat.pow_le_pow_right (by omega) (by omega)))
      simp [h1, this]
  · simp [h1]
end Go.Proofs.YtangjgclpipjdaaDoor
namespace Go.Proofs.YtangjgclpipjdaaDoor
open Go.RowKit Go.Proofs.YtangjgclpipjdaaDoorW.PrintWords Go.Proofs.YtangjgclpipjdaaDoorW.PrintLast Go.Proofs.YtangjgclpipjdaaDoorW.PrintMore
/-- string(b), b a row of the call's own, in whatever world it still stands. -/
theorem OwnB.string {P : Program} {w : World} {B : Nat} {v : Value} {xs : List Int} (h : OwnB w B v xs) {src dst e : TypeId} (hs : P.underlying src = some (.slice e)) (he : P.underlying e = some (.int .u8)) (hd : P.underlying dst = some .string) :
    (convert src dst v).run P w = .ok (.string (strOfNums xs)) w := by
  obtain ⟨A, c, rfl, _, hC⟩ := Kd.R_reads h
  exact Kd.C_string hs he hd hC
theorem OwnB.below {w w1 : World} {B : Nat} {v : Value} {xs : List Int} (h : OwnB w B v xs) (hb : Below w.heap.size w w1) : OwnB w1 B v xs := Kd.R_below h hb
theorem OwnB.drew {w : World} {B : Nat} {v : Value} {xs : List Int} (h : OwnB w B v xs) : OwnB w.drew B v xs := Kd.R_drew h
theorem OwnB.drewN {w : World} {B : Nat} {v : Value} {xs : List Int} (h : OwnB w B v xs) (n : Nat) : OwnB (w.drewN n) B v xs := Kd.R_drewN h n
theorem OwnB.alloc {w : World} {B : Nat} {v : Value} {xs : List Int} (h : OwnB w B v xs) (o : Obj) : OwnB (w.alloc o) B v xs := Kd.R_alloc h o
theorem OwnB.of_block {w : World} {g B : Nat} {cur : Array Value} {xs : List Int} (hg : w.heap[g]? = some (.cells cur 5 (0, 0))) (hc : cur.toList = xs.map (Value.int .u8)) (hB : B ≤ g) (hm : xs.length ≤ 9223372036854775807) :
    OwnB w B (.slice (some ⟨g, 0, none⟩) xs.length xs.length) xs := by
  have hs : cur.size = xs.length := by have := congrArg List.length hc; simpa using this
  refine Kd.R_of_own (enc := Value.int .u8) ⟨by simp [encs], .inr ⟨g, xs.length, cur, rfl, hB, hg, Nat.le_refl _, by simpa [maxLen] using hm, by simp [hs], ?_⟩⟩ (fun _ _ => trivial)
  rw [hc, Nat.mul_one, List.take_of_length_le (by simp)]
  rfl
/-- 'make([]byte, n)'. -/
theorem make_bytes {P : Program} {W : World} {ops : Array Oper} {rest : List Oper} {o : Oper} {a : Act} {Q : Exit → Act → World → Prop} (hgd : o.guard = none) {N : Tmp} (hd : o.dst = some N) (t : TypeId) (x y : Operand) (ho : o.op = .makeSlice t x y)
    (n : Nat) (hx : a.eval x = .int .i64 (n : Int)) (hy : a.eval y = .int .i64 (n : Int)) (ht : P.underlying t = some (.slice 5)) (hinfo : (P.info? 5).map (fun i => (i.zero, i.size, i.bytes)) = some (some (.int .u8 0), 1, 1)) (hl : n ≤ 140737488355328)
    (h : ∀ v1 w1, OwnB w1 W.heap.size v1 (List.replicate n 0) → Below W.heap.size W w1 → wpList P ops Q rest (a.put o.dst v1) w1) : wpList P ops Q (o :: rest) a W := by
  refine Kd.R_make (Kd.int .u8) (w0 := W) W.heap.size 5 hgd hd t x y ho n hx hy ht (.int .u8 0) 1 hinfo rfl (by decide) (by omega) (0 : Int) (ok := fun _ => True) (okp := fun _ => False) rfl (fun _ _ => trivial) trivial (by omega) (by simp; omega) (Below.refl _ _) (Nat.le_refl _) ?_
  intro v1 w1 ho1 hb1 _ _
  exact h v1 w1 (by rw [Int.toNat_natCast] at ho1; exact ho1) hb1
/-- 'append(s, x...)' of bytes, s a row of the call's own. -/
theorem app_bytes {P : Program} {W : World} {ops : Array Oper} {rest : List Oper} {o : Oper} {a : Act} {Q : Exit → Act → World → Prop} (hgd : o.guard = none) (s x : Operand) (t : TypeId)
    (ho : o.op = .call { callee := .builtin .append, args := #[s, x], argTypes := #[t, t] }) (ht : P.underlying t = some (.slice 5)) (hinfo : (P.info? 5).map (fun i => (i.zero, i.size, i.bytes)) = some (some (.int .u8 0), 1, 1))
    (B : Nat) (v : Value) (xs ys : List Int) (A : Option Addr) (m c : Nat) (hs : a.eval s = v) (hx : a.eval x = .slice A m c) (HO : OwnB W B v xs) (HR : Kd.C (Kd.int .u8) W A m ys) (hB : B ≤ W.heap.size) (hl : xs.length + m ≤ 140737488355328)
    (h : ∀ v1 w1, OwnB w1 B v1 (xs ++ ys) → W.grownBy w1 v.ownBlock → (v1.ownBlock = v.ownBlock ∨ ∃ b, v1.ownBlock = some b ∧ W.heap.size ≤ b) → wpList P ops Q rest (a.put o.dst v1) w1) : wpList P ops Q (o :: rest) a W := by
  refine Kd.R_append_rows (Kd.int .u8) (w0 := W) B hgd s x t 5 (.int .u8 0) 1 ho ht hinfo rfl (by decide) (by omega) v xs ys A m c (fun _ => True) (fun _ => False) hs hx HO HR ?_ (fun _ hk => hk.elim) (fun _ _ => trivial) (Below.refl _ _) hB (by omega) ?_
  · intro x cs h; exact h
  · intro v1 w1 h1 _ hg hat
    exact h v1 w1 h1 hg hat

/-- Bytes that can be read, all of whose memory meets 'ok'. -/
def ReadB (w : World) (ok : Nat → Prop) (v : Value) (xs : List Int) : Prop := Kd.V (Kd.int .u8) 5 w 0 ok v xs
/-- Bytes in memory that is new since w. -/
def NewB (w w' : World) (v : Value) (xs : List Int) : Prop := ReadB w' (fun k => w.heap.size ≤ k) v xs
/-- ([]byte, error): bytes, no error. -/
def GotV (w w' : World) (xs : List Int) (e : Ending) : Prop := ∃ v, e = .returned (.tuple #[v, .nilIface]) ∧ NewB w w' v xs ∧ Below w.heap.size w w'
def GotVT (w w' : World) (xs : List Int) (e : Ending) : Prop := ∃ v, e = .returned (.tuple #[v, .bool true]) ∧ NewB w w' v xs ∧ Below w.heap.size w w'
theorem OwnB.new {w w' : World} {v : Value} {xs : List Int} (h : OwnB w' w.heap.size v xs) : NewB w w' v xs := Kd.R_V (base' := 0) (Kd.R_mono (Kd.R_bound h) (fun _ hk => hk.2.1))
theorem OwnB.newAt {w w' : World} {B : Nat} {v : Value} {xs : List Int} (h : OwnB w' B v xs) (hB : w.heap.size ≤ B) : NewB w w' v xs := Kd.R_V (base' := 0) (Kd.R_mono (Kd.R_bound h) (fun _ hk => Nat.le_trans hB hk.2.1))
theorem GotE.v {w w' : World} {xs : List Int} {e : Ending} (h : GotE w w' xs e) : GotV w w' xs e := by
  obtain ⟨v, he, ho, hb⟩ := h
  exact ⟨v, he, ho.new, hb⟩
theorem ReadB.reads {w : World} {ok : Nat → Prop} {v : Value} {xs : List Int} (h : ReadB w ok v xs) : ∃ A c, v = .slice A xs.length c ∧ xs.length ≤ c ∧ Kd.C (Kd.int .u8) w A xs.length xs := by
  obtain ⟨A, c, rfl⟩ := Kd.V_slice h
  exact ⟨A, c, rfl, (Kd.V_reads' h).2⟩
theorem ReadB.string {P : Program} {w : World} {ok : Nat → Prop} {v : Value} {xs : List Int} (h : ReadB w ok v xs) {src dst e : TypeId} (hs : P.underlying src = some (.slice e)) (he : P.underlying e = some (.int .u8)) (hd : P.underlying dst = some .string) :
    (convert src dst v).run P w = .ok (.string (strOfNums xs)) w := by
  obtain ⟨A, c, rfl, _, hC⟩ := h.reads
  exact Kd.C_string hs he hd hC
theorem NewB.string {P : Program} {w0 w : World} {v : Value} {xs : List Int} (h : NewB w0 w v xs) {src dst e : TypeId} (hs : P.underlying src = some (.slice e)) (he : P.underlying e = some (.int .u8)) (hd : P.underlying dst = some .string) :
    (convert src dst v).run P w = .ok (.string (strOfNums xs)) w := ReadB.string h hs he hd
theorem ReadB.below {w w1 : World} {ok : Nat → Prop} {v : Value} {xs : List Int} (h : ReadB w ok v xs) (hb : Below w.heap.size w w1) : ReadB w1 ok v xs := Kd.V_below h hb
theorem ReadB.mono {w : World} {ok ok' : Nat → Prop} {v : Value} {xs : List Int} (h : ReadB w ok v xs) (hk : ∀ k, ok k → ok' k) : ReadB w ok' v xs := Kd.V_mono h hk
theorem ReadB.grown {w w1 : World} {ok : Nat → Prop} {v : Value} {xs : List Int} (h : ReadB w ok v xs) {row : Option Nat} (hg : w.grownBy w1 row) (hok : ∀ k, ok k → some k ≠ row) : ReadB w1 ok v xs := Kd.V_grown h hg hok
theorem NewB.below {w0 w w1 : World} {v : Value} {xs : List Int} (h : NewB w0 w v xs) (hb : Below w.heap.size w w1) : NewB w0 w1 v xs := Kd.V_below (e := 5) (base := 0) h hb
theorem NewB.drew {w0 w : World} {v : Value} {xs : List Int} (h : NewB w0 w v xs) : NewB w0 w.drew v xs := Kd.V_drew (e := 5) (base := 0) h
theorem NewB.drewN {w0 w : World} {v : Value} {xs : List Int} (h : NewB w0 w v xs) (n : Nat) : NewB w0 (w.drewN n) v xs := Kd.V_drewN (e := 5) (base := 0) h n
theorem NewB.since {w0 w1 w : World} {v : Value} {xs : List Int} (h : NewB w1 w v xs) (hle : w0.heap.size ≤ w1.heap.size) : NewB w0 w v xs := Kd.V_mono (e := 5) (base := 0) h (fun _ hk => Nat.le_trans hle hk)
theorem NewB.reads {w0 w : World} {v : Value} {xs : List Int} (h : NewB w0 w v xs) : ∃ A c, v = .slice A xs.length c ∧ xs.length ≤ c ∧ Kd.C (Kd.int .u8) w A xs.length xs := ReadB.reads h
theorem NewB.nil (w0 w : World) : NewB w0 w (.slice none 0 0) [] := Kd.V_nil (Kd.int .u8) 5 _ 0 _
/-- A slice of bytes that came in. -/
theorem readB_of {w : World} {A : Option Addr} {c : Nat} {xs : List Int} (hl : xs.length ≤ c) (h : Kd.C (Kd.int .u8) w A xs.length xs) : ReadB w (fun k => k < w.heap.size) (.slice A xs.length c) xs := ⟨A, c, rfl, hl, Kd.C_F (Kd.heap_int .u8) h⟩
/-- A cut of a block of bytes known whole. -/
theorem readB_block {w : World} {g t s n : Nat} {ok : Nat → Prop} {xs ys : List Int} (h : w.heap[g]? = some (.cells (xs.map (Value.int .u8)).toArray t (0, 0))) (hx : xs.drop s = ys) (hn : ys.length = n) (hm : n ≤ 9223372036854775807) (hok : ok g) :
    ReadB w ok (.slice (some ⟨g, s, none⟩) n n) ys := by
  subst hn
  refine ⟨some ⟨g, s, none⟩, ys.length, rfl, Nat.le_refl _, fun W' hW => ?_⟩
  have h' : W'.heap[g]? = some (.cells (xs.map (Value.int .u8)).toArray t (0, 0)) := (hW g hok (blk_lt h)).trans h
  refine Kd.C_of_reads (enc := Value.int .u8) (d := (0 : Int)) ⟨rfl, hm, fun _ => ⟨_, rfl, fun j hj => ?_⟩⟩
  have e : (⟨g, s, none⟩ : Addr).add j = ⟨g, s + j, none⟩ := by unfold Addr.add; split <;> simp_all
  rw [e, blk_cell h' (s + j)]
  subst hx
  rw [List.length_drop] at hj
  simp [List.getElem?_drop, List.getElem?_eq_getElem (show s + j < xs.length by omega)]
theorem ReadB.C {w : World} {ok : Nat → Prop} {A : Option Addr} {m c : Nat} {xs : List Int} (h : ReadB w ok (.slice A m c) xs) : Kd.C (Kd.int .u8) w A m xs := by
  obtain ⟨h1, _, h3⟩ := Kd.V_reads' h
  rw [h1]
  exact h3
end Go.Proofs.YtangjgclpipjdaaDoor
set_option linter.unusedVariables false
namespace Go.Proofs.YtangjgclpipjdaaDoor
open Go.RowKit Go.Proofs.YtangjgclpipjdaaDoorW.PrintWords Go.Proofs.YtangjgclpipjdaaDoorW.PrintLast Go.Proofs.YtangjgclpipjdaaDoorW.PrintMore

theorem infoB : (Tryd.prog.info? 5).map (fun i => (i.zero, i.size, i.bytes)) = some (some (.int .u8 0), 1, 1) := by kernel_rfl

theorem Clone_any (v : Value) (xs : List Int) (ok : Nat → Prop) (w : World) (h : ReadB w ok v xs) (hl : xs.length ≤ 140737488355328) :
    Calls Tryd.prog 28 #[v] w fun e w' => ∃ v', e = .returned v' ∧ OwnB w' w.heap.size v' xs ∧ Below w.heap.size w w' := by
  obtain ⟨A, c, rfl, hc, hC⟩ := h.reads
  have hn := fun w => Lib.run_eql_slice_nil (P := Tryd.prog) w 26 5 A xs.length c 0 0 Tryd.underlying26
  have hm := Kd.C_max hC
  have HC := Lib.hid hC
  clear hC h
  cases A with
  | none =>
    have h0 : xs = [] := by
      rcases Nat.eq_zero_or_pos xs.length with h | h
      · exact List.eq_nil_of_length_eq_zero h
      · obtain ⟨ad, e, _⟩ := Kd.at_int HC.out 0 (by omega) (by omega)
        cases e
    subst h0
    simp only [List.length_nil] at hn ⊢
    go_enter Tryd.func28, Tryd.ntmps28
    go_wp2
    go_ret
    exact ⟨_, rfl, Kd.R_nil _ _ _ _ _, Below.refl _ _⟩
  | some ad =>
    simp only [Option.isNone_some] at hn
    go_enter Tryd.func28, Tryd.ntmps28
    go_wp2_with (at_builtin; refine app_bytes rfl (.tmp 5) (.tmp 6) 26 rfl Tryd.underlying26 infoB w.heap.size (.slice (some ⟨w.heap.size, 0, none⟩) 0 0) [] xs (some ad) xs.length c rfl rfl (OwnB.lit w _ [] (Nat.le_refl _) (by simp) (by rfl)) (Kd.C_alloc HC.out _) (by simp) (by simpa using hl) ?_; intro v1 w1 ho hg hat)
    go_ret
    refine ⟨_, rfl, ho, ?_⟩
    exact ((Below.refl _ _).alloc (Nat.le_refl _) _).grown hg (by simp) (fun k hk => by simp [Value.ownBlock] at hk; omega)
end Go.Proofs.YtangjgclpipjdaaDoor
set_option linter.unusedVariables false
namespace Go.Proofs.YtangjgclpipjdaaDoor
open Go.RowKit Go.Proofs.YtangjgclpipjdaaDoorW.PrintWords Go.Proofs.YtangjgclpipjdaaDoorW.PrintLast Go.Proofs.YtangjgclpipjdaaDoorW.PrintMore

/-- A string's bytes as numbers. -/
def bs (s : ByteArray) : List Int := s.data.toList.map fun b => (b.toNat : Int)
theorem bs_length (s : ByteArray) : (bs s).length = s.size := by simp [bs]
theorem bt_bs (s : ByteArray) (i : Nat) (h : i < s.size) : bt s i = rd (bs s) i := by
  have h' : i < s.data.toList.length := by simpa using h
  unfold bt Go.Proofs.YtangjgclpipjdaaDoorW.PrintWords.rd bs
  rw [dif_pos (by simpa using h)]
  simp [List.getD_eq_getElem?_getD, List.getElem?_eq_getElem h']
  rfl
theorem strOfNums_bs (s : ByteArray) : strOfNums (bs s) = s := by
  obtain ⟨⟨l⟩⟩ := s
  unfold strOfNums bs
  simp [Function.comp_def]

theorem char_at (s : ByteArray) (j : Nat) (c : Int) (l' : List Int) (h : (bs s).drop j = c :: l') : ∃ hj : j < s.size, ((s[j]'hj).toNat : Int) = c ∧ (bs s).drop (j + 1) = l' := by
  have hj : j < s.size := by
    have := congrArg List.length h
    simp [bs] at this
    omega
  refine ⟨hj, ?_, ?_⟩
  · have := congrArg (fun l => l[0]?) h
    simp [bs] at this
    obtain ⟨a, ha, hc⟩ := this
    rw [Array.getElem?_eq_getElem (by simpa using hj)] at ha
    injection ha with ha
    rw [← hc, ← ha]
    rfl
  · have := congrArg (List.drop 1) h
    simpa using this


/-- The numbers between the points; none where the text is no such. -/
def arcsGo : List Int → List Int → Int → Bool → Option (List Int)
  | [], out, n, some_ => if some_ = true then some (out ++ [n]) else none
  | c :: l, out, n, some_ =>
    if c = 46 then (if some_ = true then arcsGo l (out ++ [n]) 0 false else none)
    else if c < 48 ∨ c > 57 ∨ (some_ = true ∧ n = 0) ∨ 10 * n + (c - 48) ≥ 4294967296 then none
    else arcsGo l out (10 * n + (c - 48)) true

/-- n to the base 128. -/
def b128 (n : Int) : List Int :=
  if n < 128 then [n] else if n < 16384 then [n / 128 + 128, n % 128] else if n < 2097152 then [n / 16384 + 128, n / 128 % 128 + 128, n % 128]
  else if n < 268435456 then [n / 2097152 + 128, n / 16384 % 128 + 128, n / 128 % 128 + 128, n % 128]
  else [n / 268435456 + 128, n / 2097152 % 128 + 128, n / 16384 % 128 + 128, n / 128 % 128 + 128, n % 128]
theorem b128_len (n : Int) : (b128 n).length ≤ 5 := by unfold b128; repeat' split
                                                       all_goals simp
def b128s (l : List Int) : List Int := (l.map b128).flatten
theorem b128s_cons (a : Int) (l : List Int) : b128s (a :: l) = b128 a ++ b128s l := by simp [b128s]
theorem b128s_snoc (a : Int) (l : List Int) : b128s (l ++ [a]) = b128s l ++ b128 a := by simp [b128s]
theorem b128s_len (l : List Int) : (b128s l).length ≤ 5 * l.length := by
  induction l with
  | nil => simp [b128s]
  | cons a l ih =>
    rw [b128s_cons, List.length_append, List.length_cons]
    have := b128_len a
    omega
/-- The content of a name. -/
def sName (arcs : List Int) : List Int := ((40 * rd arcs 0 + rd arcs 1) % 256) :: b128s (arcs.drop 2)
theorem sName_len (arcs : List Int) : (sName arcs).length ≤ 1 + 5 * (arcs.length - 2) := by
  unfold sName
  have := b128s_len (arcs.drop 2)
  simp only [List.length_cons, List.length_drop] at this ⊢
  omega

/-- Without the point ahead. -/
def strip : List Int → List Int
  | 46 :: l => l
  | l => l
def arcsOk (out : List Int) : Prop := 2 ≤ out.length ∧ out.length ≤ 60 ∧ rd out 0 ≤ 2 ∧ rd out 1 < 40
instance (out : List Int) : Decidable (arcsOk out) := by unfold arcsOk; infer_instance
def sArcs (s : List Int) : List Int × Bool :=
  match arcsGo (strip s) [] 0 false with
  | none => ([], false)
  | some out => if arcsOk out then (out, decide ((sName out).length ≤ 100)) else (out, false)

/-! ### What a text of arcs looks like -/
/-- Figures with the value a, read on from v. -/
def figs : List Int → Int → Int
  | [], v => v
  | c :: l, v => figs l (10 * v + (c - 48))
mutual
/-- What is left of the text where a number has just ended. -/
def Rem : List Int → List Int → Prop
  | [], l => l = []
  | a :: post, l => ∃ l', l = 46 :: l' ∧ Num a post l'
termination_by p _ => (p.length, 0)
/-- What is left where a number begins. -/
def Num : Int → List Int → List Int → Prop
  | a, post, l => ∃ ds l2, l = ds ++ l2 ∧ ds ≠ [] ∧ (∀ d ∈ ds, 48 ≤ d ∧ d ≤ 57) ∧ figs ds 0 = a ∧ a ≤ 4294967295 ∧ Rem post l2
termination_by a p _ => (p.length, 1)
end

theorem figs_mono (l : List Int) (h : ∀ d ∈ l, 48 ≤ d ∧ d ≤ 57) : ∀ v, 0 ≤ v → v ≤ figs l v := by
  induction l with
  | nil => intro v hv; exact Int.le_refl _
  | cons c l ih =>
    intro v hv
    have hc := h c (by simp)
    have := ih (fun d hd => h d (by simp [hd])) (10 * v + (c - 48)) (by omega)
    simp only [figs]
    omega
theorem figs_snoc (l : List Int) (c : Int) : ∀ v, figs (l ++ [c]) v = 10 * figs l v + (c - 48) := by
  induction l with
  | nil => intro v; rfl
  | cons d l ih => intro v; exact ih _

/-- The arcs that are told are those of the text. -/
theorem arcsGo_rem (l : List Int) : ∀ (out : List Int) (n : Int) (sm : Bool) (r : List Int), arcsGo l out n sm = some r → 0 ≤ n → n ≤ 4294967295 → (sm = false → n = 0) →
    ∃ a post, r = out ++ a :: post ∧ (∃ ds l2, l = ds ++ l2 ∧ (sm = false → ds ≠ []) ∧ (∀ d ∈ ds, 48 ≤ d ∧ d ≤ 57) ∧ figs ds n = a ∧ a ≤ 4294967295 ∧ Rem post l2) := by
  induction l with
  | nil =>
    intro out n sm r h h0 h1 hs
    simp only [arcsGo] at h
    cases sm with
    | false => simp at h
    | true =>
      simp at h
      subst h
      exact ⟨n, [], by simp, [], [], rfl, by simp, by simp, rfl, h1, by simp [Rem]⟩
  | cons c l ih =>
    intro out n sm r h h0 h1 hs
    simp only [arcsGo] at h
    by_cases hc : c = 46
    · rw [if_pos hc] at h
      cases sm with
      | false => simp at h
      | true =>
        simp only [if_true] at h
        obtain ⟨a, post, hr, ds, l2, e, hne, hd, hf, ha, hrem⟩ := ih _ _ _ _ h (Int.le_refl _) (by omega) (fun _ => rfl)
        refine ⟨n, a :: post, by rw [hr]; simp, [], c :: l, rfl, by simp, by simp, rfl, h1, ?_⟩
        rw [Rem]
        refine ⟨l, by rw [hc], ?_⟩
        rw [Num]
        exact ⟨ds, l2, e, hne rfl, hd, hf, ha, hrem⟩
    · rw [if_neg hc] at h
      by_cases hg : c < 48 ∨ c > 57 ∨ (sm = true ∧ n = 0) ∨ 10 * n + (c - 48) ≥ 4294967296
      · rw [if_pos hg] at h; cases h
      · rw [if_neg hg] at h
        obtain ⟨a, post, hr, ds, l2, e, hne, hd, hf, ha, hrem⟩ := ih _ _ _ _ h (by omega) (by omega) (by simp)
        refine ⟨a, post, hr, c :: ds, l2, by rw [e]; rfl, by simp, ?_, hf, ha, hrem⟩
        intro d hdd
        rcases List.mem_cons.1 hdd with rfl | h'
        · omega
        · exact hd d h'

/-- A text whose arcs are told: behind a point or none. -/
theorem sArcs_text (s : List Int) (arcs : List Int) (h : sArcs s = (arcs, true)) : arcsOk arcs ∧ (sName arcs).length ≤ 100 ∧ ∃ a post, arcs = a :: post ∧ (Num a post s ∨ Rem arcs s) := by
  unfold sArcs at h
  cases e : arcsGo (strip s) [] 0 false with
  | none => rw [e] at h; simp at h
  | some out =>
    rw [e] at h
    simp only at h
    by_cases ho : arcsOk out
    · rw [if_pos ho] at h
      simp at h
      obtain ⟨rfl, hl⟩ := h
      obtain ⟨a, post, hr, ds, l2, e2, hne, hd, hf, ha, hrem⟩ := arcsGo_rem _ _ _ _ _ e (Int.le_refl _) (by omega) (fun _ => rfl)
      simp only [List.nil_append] at hr
      refine ⟨ho, hl, a, post, hr, ?_⟩
      have hN : Num a post (strip s) := by rw [Num]; exact ⟨ds, l2, e2, hne rfl, hd, hf, ha, hrem⟩
      unfold strip at hN
      split at hN
      · right
        rw [hr, Rem]
        exact ⟨_, rfl, hN⟩
      · left; exact hN
    · rw [if_neg ho] at h; simp at h
end Go.Proofs.YtangjgclpipjdaaDoor
set_option linter.unusedVariables false
namespace Go.Proofs.YtangjgclpipjdaaDoor
open Go.RowKit Go.Proofs.YtangjgclpipjdaaDoorW.PrintWords Go.Proofs.YtangjgclpipjdaaDoorW.PrintLast Go.Proofs.YtangjgclpipjdaaDoorW.PrintMore

theorem and127u (x : Int) (h0 : 0 ≤ x) (h1 : x ≤ 18446744073709551615) : bits .and .u64 x 127 = x % 128 := by
  have := bits_mask .u64 64 (by decide) wraps_u64 7 (by decide) x h0 (by omega)
  simpa using this
theorem or128u (x : Int) (h0 : 0 ≤ x) (h1 : x < 128) : bits .or .u8 x 128 = x + 128 := by
  rw [u8_or x 128 h0 (by omega) (by omega) (by omega)]
  have := nat_join 7 128 x.toNat (by decide) (by omega)
  rw [Nat.or_comm, show (128 : Int).toNat = 128 from rfl, this]
  omega

theorem infoU64 : (Tryd.prog.info? 22).map (fun i => (i.zero, i.size, i.bytes)) = some (some (.int .u64 0), 1, 8) := by kernel_rfl
theorem infoU64' : ∃ i, Tryd.prog.info? 22 = some i ∧ i.size = 1 := by
  obtain ⟨i, hi, hz⟩ := Option.map_eq_some_iff.1 infoU64
  simp at hz
  exact ⟨i, hi, hz.2.1⟩
/-- What the rounds make of the number n and the bytes behind it. -/
def finK : Nat → Int → List Int → List Int
  | 0, _, part => part
  | k + 1, n, part => if n < 128 then part else finK k (n / 128) ((n / 128 % 128 + 128) :: part)
theorem finK_b128 (x : Int) (h0 : 0 ≤ x) (h1 : x ≤ 4294967295) : finK 4 x [x % 128] = b128 x := by
  have d2 : x / 128 / 128 = x / 16384 := by omega
  have d3 : x / 16384 / 128 = x / 2097152 := by omega
  have d4 : x / 2097152 / 128 = x / 268435456 := by omega
  simp only [finK, d2, d3, d4]
  unfold b128
  by_cases c1 : x < 128
  · rw [if_pos c1, if_pos c1, show x % 128 = x by omega]
  rw [if_neg c1, if_neg c1]
  by_cases c2 : x < 16384
  · rw [if_pos c2, if_pos (by omega), show x / 128 % 128 = x / 128 by omega]
  rw [if_neg c2, if_neg (by omega)]
  by_cases c3 : x < 2097152
  · rw [if_pos c3, if_pos (by omega), show x / 16384 % 128 = x / 16384 by omega]
  rw [if_neg c3, if_neg (by omega)]
  by_cases c4 : x < 268435456
  · rw [if_pos c4, if_pos (by omega), show x / 2097152 % 128 = x / 2097152 by omega]
  rw [if_neg c4, if_neg (by omega), show x / 268435456 % 128 = x / 268435456 by omega]

set_option maxRecDepth 100000 in
theorem specName_any (arcs : List Int) (h2 : 2 ≤ arcs.length) (h60 : arcs.length ≤ 60) (hx : ∀ x ∈ arcs, 0 ≤ x ∧ x ≤ 4294967295) (A : Option Addr) (c : Nat) (hc : arcs.length ≤ c) (w : World) (hC : Kd.C (Kd.int .u64) w A arcs.length arcs) :
    Calls Tryd.prog 24 #[.slice A arcs.length c] w fun e w' => ∃ v, e = .returned v ∧ OwnB w' w.heap.size v (sName arcs) ∧ Below w.heap.size w w' := by
  have hx0 := hx (rd arcs 0) (by unfold Go.Proofs.YtangjgclpipjdaaDoorW.PrintWords.rd; rw [List.getD_eq_getElem?_getD, List.getElem?_eq_getElem (by simp; omega)]; simp)
  have hx1 := hx (rd arcs 1) (by unfold Go.Proofs.YtangjgclpipjdaaDoorW.PrintWords.rd; rw [List.getD_eq_getElem?_getD, List.getElem?_eq_getElem (by simp; omega)]; simp)
  obtain ⟨ad, rfl, g0⟩ := Kd.at_int hC 0 (by omega) (by omega)
  obtain ⟨ad', ea, g1⟩ := Kd.at_int hC 1 (by omega) (by omega)
  obtain rfl : ad = ad' := by injection ea
  rw [show (0 : Int).toNat = 0 from rfl, Addr.add_zero'] at g0
  simp only [show (1 : Int).toNat = 1 from rfl, Go.Addr.add, Nat.reduceEqDiff, if_false] at g1
  generalize hq0 : rd arcs 0 = q0 at *
  generalize hq1 : rd arcs 1 = q1 at *
  have m0 : (0 < arcs.length) = True := eq_true (by omega)
  have m1 : (1 < arcs.length) = True := eq_true (by omega)
  have e1 : IntKind.u64.wrap (40 * q0) = 40 * q0 := by simp [IntKind.wrap, IntKind.bits, IntKind.signed]; omega
  have e2 : IntKind.u64.wrap (40 * q0 + q1) = 40 * q0 + q1 := by simp [IntKind.wrap, IntKind.bits, IntKind.signed]; omega
  have HH := Lib.hid (And.intro hq0 (And.intro hq1 (And.intro hx (And.intro hC hc))))
  clear hq0 hq1 hx hC ea hc
  have hal : ∀ o, Below w.heap.size w (w.alloc o).drew := fun o => below_drew ((Below.refl _ _).alloc (Nat.le_refl _) o)
  go_enter Tryd.func24, Tryd.ntmps24
  go_wp2_with fail
  go_region_held (fun w' => w'.cell? ad = some (.int .u64 q0) ∧ w'.cell? ⟨ad.block, ad.off + 1, none⟩ = some (.int .u64 q1)) (first | exact ⟨g0, g1⟩ | exact ⟨((hal _).cell (World.block_lt_of_cell? w _ g0)).trans g0, ((hal _).cell (World.block_lt_of_cell? w _ g1)).trans g1⟩) (fail)
  have ho0 : OwnB (w.alloc (.cells #[Value.int .u8 ((40 * q0 + q1) % 256)] 5)).drew w.heap.size (.slice (some ⟨w.heap.size, 0, none⟩) 1 1) [(40 * q0 + q1) % 256] := (OwnB.lit w _ [(40 * q0 + q1) % 256] (Nat.le_refl _) (by simp) (by rfl)).drew
  rw [IntKind.wrap_u8]
  obtain ⟨hq0, hq1, hx, hC, hc⟩ := HH.out
  obtain ⟨i8, hi8, hs8⟩ := infoU64'
  obtain ⟨A8, hcut, hA8, hC8⟩ := print_drop_of (P := Tryd.prog) (Value.int .u64) 0 52 22 .i64 Tryd.underlying52 hi8 hs8 (some ad) c arcs 2 (by omega) (by omega) hc
  have hCl := Kd.C_of_reads (h1 := fun _ => rfl) (hA8 _ (Kd.reads_of_C hC))
  have hle : sName arcs = (40 * q0 + q1) % 256 :: b128s (arcs.drop 2) := by unfold sName; rw [hq0, hq1]
  have hxl : ∀ x ∈ arcs.drop 2, 0 ≤ x ∧ x ≤ 4294967295 := fun x h => hx x (List.mem_of_mem_drop h)
  have hll : (arcs.drop 2).length ≤ 60 := by rw [List.length_drop]; omega
  rw [show (2 : Int).toNat = 2 from rfl] at hcut hCl
  have HB0 := Lib.hid (hal (.cells #[Value.int .u8 ((40 * q0 + q1) % 256)] 5))
  have HL := Lib.hid (And.intro hle (And.intro hxl hCl))
  have HO0 := Lib.hid ho0
  clear hle hxl hCl hA8 hC8 hx hC hc hq0 hq1 HH hs8 hi8 hx0 hx1 e1 e2 g0 g1 m0 m1 ho0 hal
  generalize (40 * q0 + q1) % 256 = q at *
  generalize arcs.drop 2 = l at *
  go_wp2
  go_loopg [3, 20] l.length (fun k v3 v20 wr => ∃ i : Nat, v20 = .int .i64 i ∧ Hid (i ≤ l.length ∧ k = l.length - i ∧ OwnB wr w.heap.size v3 (q :: b128s (l.take i)) ∧ Below w.heap.size w wr))
  case atStart => exact ⟨0, rfl, Lib.hid ⟨Nat.zero_le _, rfl, HO0.out, HB0.out⟩⟩
  case round =>
    obtain ⟨i, rfl, HR⟩ := hrel
    generalize wr = wo at *
    by_cases hi : (i : Int) < l.length
    · have hil : i < l.length := by omega
      obtain ⟨x0, x1⟩ := HL.out.2.1 l[i] (List.getElem_mem hil)
      have hb := HR.out.2.2.2
      obtain ⟨ad8, rfl, g⟩ := Kd.at_int (Kd.C_below HL.out.2.2 hb) i (by omega) hi
      have hrd : rd l i = l[i] := by
        unfold Go.Proofs.YtangjgclpipjdaaDoorW.PrintWords.rd
        rw [Int.toNat_natCast, List.getD_eq_getElem?_getD, List.getElem?_eq_getElem hil]
        rfl
      rw [hrd, Int.toNat_natCast] at g
      have HX := Lib.hid (show l.take (i + 1) = l.take i ++ [l[i]] from List.take_succ_eq_append_getElem hil)
      have a1 := and127u l[i] x0 (by omega)
      have a2 : l[i] % 128 % 256 = l[i] % 128 := by omega
      clear hb hrd HO0 HB0
      generalize l[i] = x at *
      have hil' : (i < l.length) = True := eq_true hil
      clear hil
      go_wp2
      have hpart : OwnB (wo.alloc (.cells #[Value.int .u8 (x % 128)] 5)) wo.heap.size (.slice (some ⟨wo.heap.size, 0, none⟩) 1 1) [x % 128] := OwnB.lit wo _ [x % 128] (Nat.le_refl _) (by simp) (by rfl)
      have HP := Lib.hid (And.intro hpart ((Below.refl wo.heap.size wo).alloc (Nat.le_refl _) (.cells #[Value.int .u8 (x % 128)] 5)))
      have HF := Lib.hid (finK_b128 x x0 x1)
      clear hpart g hcut
      go_loopg [5, 6] 4 (fun k v5 v6 w2 => ∃ (n : Int) (part : List Int), v5 = .int .u64 n ∧ Hid (0 ≤ n ∧ n ≤ 4294967295 ∧ finK k n part = b128 x ∧ OwnB w2 wo.heap.size v6 part ∧ Below wo.heap.size wo w2 ∧ part.length + k ≤ 5 ∧ (k = 0 → n < 128) ∧ (k = 1 → n < 16384) ∧ (k = 2 → n < 2097152) ∧ (k = 3 → n < 268435456) ∧ k ≤ 4))
      case atStart => exact ⟨x, _, rfl, Lib.hid ⟨x0, x1, HF.out, HP.out.1, HP.out.2, by simp, by omega, by omega, by omega, by omega, by omega⟩⟩
      case round =>
        obtain ⟨n, part, rfl, HI⟩ := hrel
        obtain ⟨n0, n1, hf, ho, hb, hpl, k0, k1, k2, k3, k4⟩ := HI.out
        clear HP HF
        by_cases hn : n < 128
        · have hfin : part = b128 x := by
            rw [← hf]
            cases gk <;> simp [finK, hn]
          have HI := Lib.hid (And.intro ho hb)
          obtain ⟨A, cc, rfl, hcc, hC⟩ := Kd.R_reads ho
          subst hfin
          have HC := Lib.hid hC
          have hlb := b128_len x
          have hw := hb.size
          obtain ⟨h1, h2, h3, h4⟩ := HR.out
          have hww := h4.size
          have HO := Lib.hid (And.intro (OwnB.below h3 hb) (And.intro (below_step h4 hb) (show (q :: b128s (l.take i)).length ≤ 301 by have := b128s_len (l.take i); rw [List.length_take] at this; simp only [List.length_cons]; omega)))
          have HI2 := Lib.hid (And.intro h1 h2)
          have hi60 : i ≤ 60 := by omega
          clear hf ho hb k0 k1 k2 k3 k4 hpl hC h1 h2 h3 h4
          go_wp2_with (at_builtin; refine app_bytes rfl (.tmp 39) (.tmp 40) 26 rfl Tryd.underlying26 infoB w.heap.size u3 (q :: b128s (l.take i)) (b128 x) A (b128 x).length cc rfl rfl HO.out.1 HC.out (by omega) (by have := HO.out.2.2; omega) ?_; intro v1 w3 ho3 hg3 hat3)
          go_roundg (l.length - (i + 1))
          case measure =>
            have := HI2.out
            omega
          case rel =>
            have hi2 := HI2.out
            refine ⟨i + 1, by go_num, Lib.hid ⟨by omega, rfl, ?_, HO.out.2.1.grown hg3 (by omega) ?_⟩⟩
            · rw [HX.out, b128s_snoc]
              exact ho3
            · intro k hk
              exact ((Kd.R_bound HO.out.1).1 k hk).2.1
        · obtain ⟨k', rfl⟩ : ∃ k', gk = k' + 1 := ⟨gk - 1, by omega⟩
          have hnd : n / 128 ≤ 4294967295 := by omega
          have b1 := and127u (n / 128) (by omega) (by omega)
          have b2 : n / 128 % 128 % 256 = n / 128 % 128 := by omega
          have b3 := or128u (n / 128 % 128) (by omega) (by omega)
          have hw := hb.size
          obtain ⟨A, cc, rfl, hcc, hC⟩ := Kd.R_reads ho
          have hpl2 : part.length ≤ 5 := by omega
          simp only [finK, if_neg hn] at hf
          have HC := Lib.hid hC
          have HI := Lib.hid (And.intro hf (And.intro hb (And.intro hpl (And.intro k1 (And.intro k2 (And.intro k3 k4))))))
          clear hf ho hb hpl k0 k1 k2 k3 k4 hC HR
          go_wp2_with (at_builtin; refine app_bytes rfl (.tmp 36) (.tmp 37) 26 rfl Tryd.underlying26 infoB wr.heap.size (.slice (some ⟨wr.heap.size, 0, none⟩) 1 1) [n / 128 % 128 + 128] part A part.length cc rfl rfl (OwnB.lit wr _ [n / 128 % 128 + 128] (Nat.le_refl _) (by simp) (by rfl)) (Kd.C_alloc HC.out _) (by simp) (by simp; omega) ?_; intro v1 w3 ho3 hg3 hat3)
          go_roundg k'
          case measure => omega
          case rel =>
            obtain ⟨hf, hb, hpl, k1, k2, k3, k4⟩ := HI.out
            refine ⟨n / 128, _, by go_num, Lib.hid ⟨by omega, by omega, hf, ?_, ?_, by simp at hpl ⊢; omega, by omega, by omega, by omega, by omega, by omega⟩⟩
            · exact Kd.R_lower ho3 hw
            · exact (hb.alloc hw _).grown hg3 (by simp; omega) (fun k hk => by simp [Value.ownBlock] at hk; omega)
    · go_wp2
      go_ret
      obtain ⟨h1, h2, h3, h4⟩ := HR.out
      obtain ⟨hle, -, -⟩ := HL.out
      refine ⟨_, rfl, ?_, h4⟩
      rw [hle]
      rw [List.take_of_length_le (by omega)] at h3
      exact h3
end Go.Proofs.YtangjgclpipjdaaDoor
set_option linter.unusedVariables false
namespace Go.Proofs.YtangjgclpipjdaaDoor
open Go.RowKit Go.Proofs.YtangjgclpipjdaaDoorW.PrintWords Go.Proofs.YtangjgclpipjdaaDoorW.PrintLast Go.Proofs.YtangjgclpipjdaaDoorW.PrintMore

/-- A row of uint64 of the call's own. -/
def OwnU (w : World) (B : Nat) (v : Value) (xs : List Int) : Prop := Kd.R (Kd.int .u64) 22 w B (fun _ => True) v xs
theorem OwnU.lit (w : World) (B : Nat) (xs : List Int) (hB : B ≤ w.heap.size) (h : xs.length ≤ 9223372036854775807) {cs : Array Value} (hc : cs.toList = xs.map (Value.int .u64)) :
    OwnU (w.alloc (.cells cs 22)) B (.slice (some ⟨w.heap.size, 0, none⟩) xs.length xs.length) xs := by
  obtain ⟨l⟩ := cs
  simp only at hc
  subst hc
  have := own_lit_of (enc := Value.int .u64) w B 22 xs hB h
  exact Kd.R_of_own this (fun _ _ => trivial)
/-- 'append(s, x...)' of uint64, s a row of the call's own. -/
theorem app_u64s {P : Program} {W : World} {ops : Array Oper} {rest : List Oper} {o : Oper} {a : Act} {Q : Exit → Act → World → Prop} (hgd : o.guard = none) (s x : Operand) (t : TypeId)
    (ho : o.op = .call { callee := .builtin .append, args := #[s, x], argTypes := #[t, t] }) (ht : P.underlying t = some (.slice 22)) (hinfo : (P.info? 22).map (fun i => (i.zero, i.size, i.bytes)) = some (some (.int .u64 0), 1, 8))
    (B : Nat) (v : Value) (xs ys : List Int) (A : Option Addr) (m c : Nat) (hs : a.eval s = v) (hx : a.eval x = .slice A m c) (HO : OwnU W B v xs) (HR : Kd.C (Kd.int .u64) W A m ys) (hB : B ≤ W.heap.size) (hl : xs.length + m ≤ 17592186044416)
    (h : ∀ v1 w1, OwnU w1 B v1 (xs ++ ys) → W.grownBy w1 v.ownBlock → (v1.ownBlock = v.ownBlock ∨ ∃ b, v1.ownBlock = some b ∧ W.heap.size ≤ b) → wpList P ops Q rest (a.put o.dst v1) w1) : wpList P ops Q (o :: rest) a W := by
  refine Kd.R_append_rows (Kd.int .u64) (w0 := W) B hgd s x t 22 (.int .u64 0) 8 ho ht hinfo rfl (by decide) (by omega) v xs ys A m c (fun _ => True) (fun _ => False) hs hx HO HR ?_ (fun _ hk => hk.elim) (fun _ _ => trivial) (Below.refl _ _) hB (by omega) ?_
  · intro x cs h; exact h
  · intro v1 w1 h1 _ hg hat
    exact h v1 w1 h1 hg hat

def finA : Option (List Int) → List Int × Bool
  | none => ([], false)
  | some out => if arcsOk out then (out, decide ((sName out).length ≤ 100)) else (out, false)
theorem sArcs_finA (s : List Int) : sArcs s = finA (arcsGo (strip s) [] 0 false) := by
  unfold sArcs finA
  cases arcsGo (strip s) [] 0 false <;> rfl

theorem arcs_start (s : ByteArray) (hs : s.size ≤ 2147483647) : ∃ t : ByteArray, strip (bs s) = bs t ∧ t.size ≤ 2147483647 ∧ ((∃ h : 0 < s.size, ((s[0]'h).toNat : Int) = 46 ∧ s.extract 1 s.size = t) ∨ (∃ h : 0 < s.size, ((((s[0]'h).toNat : Int) == 46) = false) ∧ t = s) ∨ (s.size = 0 ∧ t = s)) := by
  cases hb : bs s with
  | nil =>
    have : s.size = 0 := by have := congrArg List.length hb; rw [bs_length] at this; simpa using this
    exact ⟨s, by rw [hb]; rfl, hs, .inr (.inr ⟨this, rfl⟩)⟩
  | cons c l =>
    obtain ⟨h, h1, h2⟩ := char_at s 0 c l hb
    by_cases hc : c = 46
    · refine ⟨s.extract 1 s.size, ?_, by simp; omega, .inl ⟨h, by rw [h1, hc], rfl⟩⟩
      subst hc
      show l = _
      rw [← h2]
      unfold bs
      simp
      exact (List.take_of_length_le (by simp)).symm
    · refine ⟨s, ?_, hs, .inr (.inl ⟨h, beq_eq_false_iff_ne.2 (by rw [h1]; exact hc), rfl⟩)⟩
      rw [hb]
      unfold strip
      split
      · rename_i heq; injection heq with e1 e2; exact absurd e1 hc
      · rfl

def GotA (w w' : World) (R : List Int × Bool) (e : Ending) : Prop := ∃ v, e = .returned (.tuple #[v, .bool R.2]) ∧ OwnU w' w.heap.size v R.1 ∧ Below w.heap.size w w'
theorem gotA {w w' : World} {R : List Int × Bool} {v : Value} {xs : List Int} {b : Bool} (h : R = (xs, b)) (ho : OwnU w' w.heap.size v xs) (hb : Below w.heap.size w w') : GotA w w' R (.returned (.tuple #[v, .bool b])) := by
  subst h
  exact ⟨v, rfl, ho, hb⟩
theorem litU_C (w : World) (n : Int) : Kd.C (Kd.int .u64) (w.alloc (.cells #[Value.int .u64 n] 22)) (some ⟨w.heap.size, 0, none⟩) 1 [n] := by
  obtain ⟨A, c, e, _, hC⟩ := Kd.R_reads (OwnU.lit w w.heap.size [n] (Nat.le_refl _) (by simp) (cs := #[Value.int .u64 n]) (by rfl))
  injection e with e1 e2 e3
  rw [e1]
  exact hC
theorem OwnU.block {w : World} {B : Nat} {v : Value} {xs : List Int} (h : OwnU w B v xs) (k : Nat) (hk : v.ownBlock = some k) : B ≤ k := ((Kd.R_bound h).1 k hk).2.1
theorem finA_no (out : List Int) (h : ¬ arcsOk out) : finA (some out) = (out, false) := by simp [finA, h]
theorem OwnU.nil (w : World) (B : Nat) : OwnU w B (.slice none 0 0) [] := Kd.R_nil (Kd.int .u64) _ _ _ _

theorem arcsGo_bounds (l : List Int) : ∀ (out : List Int) (n : Int) (sm : Bool) (r : List Int), arcsGo l out n sm = some r → 0 ≤ n → n ≤ 4294967295 → (∀ x ∈ out, 0 ≤ x ∧ x ≤ 4294967295) → ∀ x ∈ r, 0 ≤ x ∧ x ≤ 4294967295 := by
  have snoc : ∀ (out : List Int) (n : Int), 0 ≤ n → n ≤ 4294967295 → (∀ x ∈ out, 0 ≤ x ∧ x ≤ 4294967295) → ∀ x ∈ out ++ [n], 0 ≤ x ∧ x ≤ 4294967295 := by
    intro out n h0 h1 ha x hx
    rcases List.mem_append.1 hx with h' | h'
    · exact ha x h'
    · rw [List.mem_singleton.1 h']; exact ⟨h0, h1⟩
  induction l with
  | nil =>
    intro out n sm r h h0 h1 ha
    cases sm with
    | false => simp [arcsGo] at h
    | true =>
      simp [arcsGo] at h
      rw [← h]
      exact snoc out n h0 h1 ha
  | cons c l ih =>
    intro out n sm r h h0 h1 ha
    simp only [arcsGo] at h
    by_cases hc : c = 46
    · rw [if_pos hc] at h
      cases sm with
      | false => simp at h
      | true =>
        simp only [if_true] at h
        exact ih _ _ _ _ h (by omega) (by omega) (snoc out n h0 h1 ha)
    · rw [if_neg hc] at h
      by_cases hg : c < 48 ∨ c > 57 ∨ (sm = true ∧ n = 0) ∨ 10 * n + (c - 48) ≥ 4294967296
      · rw [if_pos hg] at h; cases h
      · rw [if_neg hg] at h
        exact ih _ _ _ _ h (by omega) (by omega) ha
theorem sArcs_bounds (s : List Int) (arcs : List Int) (h : sArcs s = (arcs, true)) : ∀ x ∈ arcs, 0 ≤ x ∧ x ≤ 4294967295 := by
  unfold sArcs at h
  cases e : arcsGo (strip s) [] 0 false with
  | none => rw [e] at h; simp at h
  | some out =>
    rw [e] at h
    simp only at h
    by_cases ho : arcsOk out
    · rw [if_pos ho] at h
      simp at h
      rw [← h.1]
      exact arcsGo_bounds _ _ _ _ _ e (by omega) (by omega) (by simp)
    · rw [if_neg ho] at h; simp at h

set_option maxRecDepth 100000 in
set_option maxHeartbeats 8000000 in
theorem specArcs_any (s : ByteArray) (hs : s.size ≤ 2147483647) (w : World) :
    Calls Tryd.prog 21 #[.string s] w fun e w' => GotA w w' (sArcs (bs s)) e := by
  obtain ⟨t, hst, hz, hcase⟩ := arcs_start s hs
  rw [sArcs_finA, hst]
  clear hst hs
  have ho0 : OwnU (w.alloc (.cells #[] 22)) w.heap.size (.slice (some ⟨w.heap.size, 0, none⟩) 0 0) [] := OwnU.lit w _ [] (Nat.le_refl _) (by simp) (by rfl)
  have HO0 := Lib.hid (And.intro ho0 ((Below.refl w.heap.size w).alloc (Nat.le_refl _) (.cells #[] 22)))
  clear ho0
  rcases hcase with ⟨h, h46, hext⟩ | ⟨h, h46, rfl⟩ | ⟨hp, rfl⟩
  all_goals
    obtain ⟨R, hR⟩ : ∃ R, R = arcsGo (bs t) [] 0 false := ⟨_, rfl⟩
    rw [← hR]
    have HRR := Lib.hid hR
    clear hR
    go_enter Tryd.func21, Tryd.ntmps21
    go_wp2_with fail
    go_loopg [4, 5, 6, 7] (t.size + 1) (fun g v4 v5 v6 v7 wr => ∃ (i : Nat) (out : List Int) (n : Int) (sm : Bool), v7 = .int .i64 i ∧ v5 = .int .u64 n ∧ v6 = .bool sm ∧ Hid (g = t.size + 1 - i ∧ 0 ≤ n ∧ n ≤ 4294967295 ∧ OwnU wr w.heap.size v4 out ∧ Below w.heap.size w wr ∧ out.length ≤ i ∧ (∀ x ∈ out, 0 ≤ x ∧ x ≤ 4294967295) ∧ ((i ≤ t.size ∧ arcsGo ((bs t).drop i) out n sm = R) ∨ (i = t.size + 1 ∧ R = some out))))
    case atStart => exact ⟨0, [], 0, false, rfl, rfl, rfl, Lib.hid ⟨rfl, by omega, by omega, HO0.out.1, HO0.out.2, by simp, by simp, .inl ⟨Nat.zero_le _, HRR.out.symm⟩⟩⟩
    case round =>
      try clear hp
      obtain ⟨i, out, n, sm, rfl, rfl, rfl, HR⟩ := hrel
      obtain ⟨hg, n0, n1, ho, hb, hlen, hall, hst⟩ := HR.out
      have HK := Lib.hid (And.intro hg (And.intro ho (And.intro hb (And.intro hlen hall))))
      clear hg ho hb hlen hall HO0 HRR HR
      rcases hst with ⟨hi, hR⟩ | ⟨rfl, hR⟩
      · by_cases hi2 : i = t.size
        · subst hi2
          rw [List.drop_of_length_le (by rw [bs_length]; omega)] at hR
          cases sm with
          | false =>
            have HS := Lib.hid (show finA R = ([], false) by rw [← hR]; rfl)
            clear hR
            go_wp2
            go_ret2
            exact gotA HS.out (OwnU.nil _ _) HK.out.2.2.1
          | true =>
            obtain ⟨A, c0, rfl, hcc, hC⟩ := Kd.R_reads HK.out.2.1
            have HS := Lib.hid (show R = some (out ++ [n]) by rw [← hR]; rfl)
            clear hR hC
            go_wp2_with (at_builtin; refine app_u64s rfl (.tmp 37) (.tmp 39) 52 rfl Tryd.underlying52 infoU64 w.heap.size (.slice A out.length c0) out [n] (some ⟨wr.heap.size, 0, none⟩) 1 1 rfl rfl (Kd.R_alloc HK.out.2.1 _) (litU_C wr n) (by have := HK.out.2.2.1.size; simp; omega) (by have := HK.out.2.2.2.1; omega) ?_; intro v1 w3 ho3 hg3 hat3)
            go_roundg 0
            case measure =>
              have := HK.out.1
              omega
            case rel =>
              obtain ⟨hg, ho, hb, hlen, hall⟩ := HK.out
              exact ⟨t.size + 1, out ++ [n], 0, false, by go_num, rfl, rfl, Lib.hid ⟨by omega, by omega, by omega, ho3, (hb.alloc hb.size _).grown hg3 (by have := hb.size; simp; omega) (fun k hk => OwnU.block ho k hk), by simp; omega, by intro x hx; rcases List.mem_append.1 hx with h' | h'; exact hall x h'; rw [List.mem_singleton.1 h']; omega, .inr ⟨rfl, HS.out⟩⟩⟩
        · have hil : i < t.size := by omega
          obtain ⟨c, l, hcl⟩ : ∃ c l, (bs t).drop i = c :: l := ⟨_, _, List.drop_eq_getElem_cons (by rw [bs_length]; exact hil)⟩
          obtain ⟨hit, hc, hdr⟩ := char_at t i c l hcl
          rw [hcl] at hR
          have hc0 : 0 ≤ c := by omega
          have hc1 : c ≤ 255 := by have := (t[i]'hit).toNat_lt; omega
          have hin : ((i : Int) == t.size) = false := beq_eq_false_iff_ne.2 (by omega)
          by_cases c46 : c = 46
          · subst c46
            cases sm with
            | false =>
              have HS := Lib.hid (show finA R = ([], false) by rw [← hR]; rfl)
              clear hR hcl hdr
              go_wp2
              go_ret2
              exact gotA HS.out (OwnU.nil _ _) HK.out.2.2.1
            | true =>
              obtain ⟨A, c0, rfl, hcc, hC⟩ := Kd.R_reads HK.out.2.1
              have HS := Lib.hid (show arcsGo ((bs t).drop (i + 1)) (out ++ [n]) 0 false = R by rw [← hR, hdr]; rfl)
              clear hR hcl hdr hC
              go_wp2_with (at_builtin; refine app_u64s rfl (.tmp 37) (.tmp 39) 52 rfl Tryd.underlying52 infoU64 w.heap.size (.slice A out.length c0) out [n] (some ⟨wr.heap.size, 0, none⟩) 1 1 rfl rfl (Kd.R_alloc HK.out.2.1 _) (litU_C wr n) (by have := HK.out.2.2.1.size; simp; omega) (by have := HK.out.2.2.2.1; omega) ?_; intro v1 w3 ho3 hg3 hat3)
              go_roundg (t.size + 1 - (i + 1))
              case measure =>
                have := HK.out.1
                omega
              case rel =>
                obtain ⟨hg, ho, hb, hlen, hall⟩ := HK.out
                exact ⟨i + 1, out ++ [n], 0, false, by go_num, rfl, rfl, Lib.hid ⟨by omega, by omega, by omega, ho3, (hb.alloc hb.size _).grown hg3 (by have := hb.size; simp; omega) (fun k hk => OwnU.block ho k hk), by simp; omega, by intro x hx; rcases List.mem_append.1 hx with h' | h'; exact hall x h'; rw [List.mem_singleton.1 h']; omega, .inl ⟨by omega, HS.out⟩⟩⟩
          · have h46' : (c == 46) = false := beq_eq_false_iff_ne.2 c46
            simp only [arcsGo, if_neg c46] at hR
            by_cases c48 : c < 48
            · rw [if_pos (.inl c48)] at hR
              have HS := Lib.hid (show finA R = ([], false) by rw [← hR]; rfl)
              clear hR hcl hdr
              go_wp2
              go_ret2
              exact gotA HS.out (OwnU.nil _ _) HK.out.2.2.1
            by_cases c57 : 57 < c
            · rw [if_pos (.inr (.inl c57))] at hR
              have HS := Lib.hid (show finA R = ([], false) by rw [← hR]; rfl)
              clear hR hcl hdr
              go_wp2
              go_ret2
              exact gotA HS.out (OwnU.nil _ _) HK.out.2.2.1
            have e1 : IntKind.u64.wrap (10 * n) = 10 * n := wraps_u64 _ (by omega) (by omega)
            have e2 : (c - 48) % 256 = c - 48 := by omega
            have e3 : IntKind.u64.wrap (10 * n + (c - 48)) = 10 * n + (c - 48) := wraps_u64 _ (by omega) (by omega)
            have hgo : (¬ (sm = true ∧ n = 0)) → ¬ (10 * n + (c - 48) ≥ 4294967296) → arcsGo ((bs t).drop (i + 1)) out (10 * n + (c - 48)) true = R := by
              intro h1 h2
              rw [if_neg (by rintro (h | h | h | h); exact absurd h c48; exact absurd h c57; exact h1 h; exact h2 h)] at hR
              rw [hdr]; exact hR
            have hno : ((sm = true ∧ n = 0) ∨ 10 * n + (c - 48) ≥ 4294967296) → finA R = ([], false) := by
              intro h1
              rw [if_pos (.inr (.inr h1))] at hR
              rw [← hR]; rfl
            have HGO := Lib.hid (And.intro hgo hno)
            clear hgo hno hR hcl hdr
            cases sm with
            | true =>
              by_cases hn : n = 0
              · have hnb : (n == 0) = true := beq_iff_eq.2 hn
                clear hn e1 e3
                go_wp2
                go_ret2
                exact gotA (HGO.out.2 (.inl (by first | exact ⟨rfl, beq_iff_eq.1 hnb⟩ | exact ⟨trivial, beq_iff_eq.1 hnb⟩))) (OwnU.nil _ _) HK.out.2.2.1
              · have hnb : (n == 0) = false := beq_eq_false_iff_ne.2 hn
                by_cases hbig : 4294967296 ≤ 10 * n + (c - 48)
                · go_wp2
                  go_ret2
                  exact gotA (HGO.out.2 (.inr hbig)) (OwnU.nil _ _) HK.out.2.2.1
                · go_wp2
                  go_roundg (t.size + 1 - (i + 1))
                  case measure =>
                    have := HK.out.1
                    omega
                  case rel =>
                    obtain ⟨hg, ho, hb, hlen, hall⟩ := HK.out
                    exact ⟨i + 1, out, 10 * n + (c - 48), true, by go_num, rfl, rfl, Lib.hid ⟨by omega, by omega, by omega, ho, hb, by omega, hall, .inl ⟨by omega, HGO.out.1 (by simp; exact hn) (by omega)⟩⟩⟩
            | false =>
              by_cases hbig : 4294967296 ≤ 10 * n + (c - 48)
              · go_wp2
                go_ret2
                exact gotA (HGO.out.2 (.inr hbig)) (OwnU.nil _ _) HK.out.2.2.1
              · go_wp2
                go_roundg (t.size + 1 - (i + 1))
                case measure =>
                  have := HK.out.1
                  omega
                case rel =>
                  obtain ⟨hg, ho, hb, hlen, hall⟩ := HK.out
                  exact ⟨i + 1, out, 10 * n + (c - 48), true, by go_num, rfl, rfl, Lib.hid ⟨by omega, by omega, by omega, ho, hb, by omega, hall, .inl ⟨by omega, HGO.out.1 (by simp) (by omega)⟩⟩⟩
      · have HS := Lib.hid hR
        clear hR
        obtain ⟨A, c, rfl, hcc, hC⟩ := Kd.R_reads HK.out.2.1
        obtain ⟨hg, ho, hb, hlen, hall⟩ := HK.out
        have hRo := HS.out
        by_cases hl2 : 2 ≤ (out.length : Int)
        · obtain ⟨ad, rfl, g0⟩ := Kd.at_int hC 0 (by omega) (by omega)
          obtain ⟨ad', ea, g1⟩ := Kd.at_int hC 1 (by omega) (by omega)
          obtain rfl : ad = ad' := by injection ea
          rw [show (0 : Int).toNat = 0 from rfl, Addr.add_zero'] at g0
          simp only [show (1 : Int).toNat = 1 from rfl, Go.Addr.add, Nat.reduceEqDiff, if_false] at g1
          have m0 : (0 < out.length) = True := eq_true (by omega)
          have m1 : (1 < out.length) = True := eq_true (by omega)
          by_cases hok : arcsOk out
          · have hok' := hok
            obtain ⟨-, o2, o3, o4⟩ := hok
            have o2' : (out.length : Int) ≤ 60 := by omega
            have HH := Lib.hid (And.intro ho (And.intro hb (And.intro (show finA R = (out, decide (((sName out).length : Int) ≤ 100)) by rw [hRo]; simp [finA, hok']; omega) (And.intro hall hC))))
            clear hok' ho hb hRo hall hC ea hg hlen HK HS
            go_wp2_with fail
            refine (specName_any out (by omega) o2 HH.out.2.2.2.1 _ c hcc wr HH.out.2.2.2.2).mono ?_
            rintro e w2 ⟨v2, rfl, ho2, hb2⟩
            obtain ⟨A2, c2, rfl, hcc2, hC2⟩ := Kd.R_reads ho2
            have H2 := Lib.hid (And.intro (Kd.R_below HH.out.1 hb2) (below_step HH.out.2.1 hb2))
            clear ho2 hb2 hC2
            go_wp2
            go_ret2
            exact gotA HH.out.2.2.1 H2.out.1 H2.out.2
          · have HH := Lib.hid (And.intro ho (And.intro hb (show finA R = (out, false) by rw [hRo, finA_no _ hok])))
            have hno := Lib.hid hok
            clear ho hb hRo hall hC ea hg hlen HK HS hok
            go_wp2_with fail
            all_goals first | exact absurd (show arcsOk out from ⟨by omega, by omega, by assumption, by assumption⟩) hno.out | (go_ret2; exact gotA HH.out.2.2 HH.out.1 HH.out.2.1)
        · have HH := Lib.hid (And.intro ho (And.intro hb (show finA R = (out, false) by rw [hRo, finA_no _ (by unfold arcsOk; omega)])))
          clear ho hb hRo hall hC hg hlen HK HS
          go_wp2
          go_ret2
          exact gotA HH.out.2.2 HH.out.1 HH.out.2.1
end Go.Proofs.YtangjgclpipjdaaDoor
