/- The lemmas and walks that FnDecode and FnCut and FnRead rests on, part 9: WName WArcs WContFnValue WPlainFnValue. -/
import Derived.Lib.EndianBits
import Derived.Lib.ConvBytes
import Derived.Lib.AtoiErrMem
import Derived.Test.YtangjgclpipjdaaDoorQM7
import Derived.Test.YtangjgclpipjdaaDoorQM8
set_option linter.unusedVariables false
namespace Go.Proofs.YtangjgclpipjdaaDoor
open Go.RowKit Go.Proofs.YtangjgclpipjdaaDoorW.PrintWords Go.Proofs.YtangjgclpipjdaaDoorW.PrintLast Go.Proofs.YtangjgclpipjdaaDoorW.PrintMore
theorem and127u (x : Int) (h0 : 0 ≤ x) (h1 : x ≤ 18446744073709551615) : bits .and .u64 x 127 = x % 128 := by
  have := bits_mask .u64 64 (by decide) wraps_u64 7 (by decide) x h0 (by omega)
  simpa using this
theorem or128u (x : Int) (h0 : 0 ≤ x) (h1 : x < 128) : bits .or .u8 x 128 = x + 128 := by
  rw [u8_or x 128 h0 (by omega) (by omega) (by omega)]
  have := nat_join 7 128 x.toNat (by decide) (by omega)
  rw [Nat.or_comm, show (128 : Int).toNat = 128 from rfl, this]
  omega
theorem infoU64 : (Tryd.prog.info? 22).map (fun i => (i.zero, i.size, i.bytes)) = some (some (.int .u64 0), 1, 8) := by kernel_rfl
theorem infoU64' : ∃ i, Tryd.prog.info? 22 = some i ∧ i.size = 1 := by
  obtain ⟨i, hi, hz⟩ := Option.map_eq_some_iff.1 infoU64
  simp at hz
  exact ⟨i, hi, hz.2.1⟩
/-- What the rounds make of the number n and the bytes behind it. -/
def finK : Nat → Int → List Int → List Int
  | 0, _, part => part
  | k + 1, n, part => if n < 128 then part else finK k (n / 128) ((n / 128 % 128 + 128) :: part)
theorem finK_b128 (x : Int) (h0 : 0 ≤ x) (h1 : x ≤ 4294967295) : finK 4 x [x % 128] = b128 x := by
  have d2 : x / 128 / 128 = x / 16384 := by omega
  have d3 : x / 16384 / 128 = x / 2097152 := by omega
  have d4 : x / 2097152 / 128 = x / 268435456 := by omega
  simp only [finK, d2, d3, d4]
  unfold b128
  by_cases c1 : x < 128
  · rw [if_pos c1, if_pos c1, show x % 128 = x by omega]
  rw [if_neg c1, if_neg c1]
  by_cases c2 : x < 16384
  · rw [if_pos c2, if_pos (by omega), show x / 128 % 128 = x / 128 by omega]
  rw [if_neg c2, if_neg (by omega)]
  by_cases c3 : x < 2097152
  · rw [if_pos c3, if_pos (by omega), show x / 16384 % 128 = x / 16384 by omega]
  rw [if_neg c3, if_neg (by omega)]
  by_cases c4 : x < 268435456
  · rw [if_pos c4, if_pos (by omega), show x / 2097152 % 128 = x / 2097152 by omega]
  rw [if_neg c4, if_neg (by omega), show x / 268435456 % 128 = x / 268435456 by omega]
set_option maxRecDepth 100000 in
theorem specName_any (arcs : List Int) (h2 : 2 ≤ arcs.length) (h60 : arcs.length ≤ 60) (hx : ∀ x ∈ arcs, 0 ≤ x ∧ x ≤ 4294967295) (A : Option Addr) (c : Nat) (hc : arcs.length ≤ c) (w : World) (hC : Kd.C (Kd.int .u64) w A arcs.length arcs) :
    Calls Tryd.prog 24 #[.slice A arcs.length c] w fun e w' => ∃ v, e = .returned v ∧ OwnB w' w.heap.size v (sName arcs) ∧ Below w.heap.size w w' := by
  have hx0 := hx (rd arcs 0) (by unfold Go.Proofs.YtangjgclpipjdaaDoorW.PrintWords.rd; rw [List.getD_eq_getElem?_getD, List.getElem?_eq_getElem (by simp; omega)]; simp)
  have hx1 := hx (rd arcs 1) (by unfold Go.Proofs.YtangjgclpipjdaaDoorW.PrintWords.rd; rw [List.getD_eq_getElem?_getD, List.getElem?_eq_getElem (by simp; omega)]; simp)
  obtain ⟨ad, rfl, g0⟩ := Kd.at_int hC 0 (by omega) (by omega)
  obtain ⟨ad', ea, g1⟩ := Kd.at_int hC 1 (by omega) (by omega)
  obtain rfl : ad = ad' := by injection ea
  rw [show (0 : Int).toNat = 0 from rfl, Addr.add_zero'] at g0
  simp only [show (1 : Int).toNat = 1 from rfl, Go.Addr.add, Nat.reduceEqDiff, if_false] at g1
  generalize hq0 : rd arcs 0 = q0 at *
  generalize hq1 : rd arcs 1 = q1 at *
  have m0 : (0 < arcs.length) = True := eq_true (by omega)
  have m1 : (1 < arcs.length) = True := eq_true (by omega)
  have e1 : IntKind.u64.wrap (40 * q0) = 40 * q0 := by simp [IntKind.wrap, IntKind.bits, IntKind.signed]; omega
  have e2 : IntKind.u64.wrap (40 * q0 + q1) = 40 * q0 + q1 := by simp [IntKind.wrap, IntKind.bits, IntKind.signed]; omega
  have HH := Lib.hid (And.intro hq0 (And.intro hq1 (And.intro hx (And.intro hC hc))))
  clear hq0 hq1 hx hC ea hc
  have hal : ∀ o, Below w.heap.size w (w.alloc o).drew := fun o => below_drew ((Below.refl _ _).alloc (Nat.le_refl _) o)
  go_enter Tryd.func24, Tryd.ntmps24
  go_wp2_with fail
  go_region_held (fun w' => w'.cell? ad = some (.int .u64 q0) ∧ w'.cell? ⟨ad.block, ad.off + 1, none⟩ = some (.int .u64 q1)) (first | exact ⟨g0, g1⟩ | exact ⟨((hal _).cell (World.block_lt_of_cell? w _ g0)).trans g0, ((hal _).cell (World.block_lt_of_cell? w _ g1)).trans g1⟩) (fail)
  have ho0 : OwnB (w.alloc (.cells #[Value.int .u8 ((40 * q0 + q1) % 256)] 5)).drew w.heap.size (.slice (some ⟨w.heap.size, 0, none⟩) 1 1) [(40 * q0 + q1) % 256] := (OwnB.lit w _ [(40 * q0 + q1) % 256] (Nat.le_refl _) (by simp) (by rfl)).drew
  rw [IntKind.wrap_u8]
  obtain ⟨hq0, hq1, hx, hC, hc⟩ := HH.out
  obtain ⟨i8, hi8, hs8⟩ := infoU64'
  obtain ⟨A8, hcut, hA8, hC8⟩ := print_drop_of (P := Tryd.prog) (Value.int .u64) 0 52 22 .i64 Tryd.underlying52 hi8 hs8 (some ad) c arcs 2 (by omega) (by omega) hc
  have hCl := Kd.C_of_reads (h1 := fun _ => rfl) (hA8 _ (Kd.reads_of_C hC))
  have hle : sName arcs = (40 * q0 + q1) % 256 :: b128s (arcs.drop 2) := by unfold sName; rw [hq0, hq1]
  have hxl : ∀ x ∈ arcs.drop 2, 0 ≤ x ∧ x ≤ 4294967295 := fun x h => hx x (List.mem_of_mem_drop h)
  have hll : (arcs.drop 2).length ≤ 60 := by rw [List.length_drop]; omega
  rw [show (2 : Int).toNat = 2 from rfl] at hcut hCl
  have HB0 := Lib.hid (hal (.cells #[Value.int .u8 ((40 * q0 + q1) % 256)] 5))
  have HL := Lib.hid (And.intro hle (And.intro hxl hCl))
  have HO0 := Lib.hid ho0
  clear hle hxl hCl hA8 hC8 hx hC hc hq0 hq1 HH hs8 hi8 hx0 hx1 e1 e2 g0 g1 m0 m1 ho0 hal
  generalize (40 * q0 + q1) % 256 = q at *
  generalize arcs.drop 2 = l at *
  go_wp2
  go_loopg [3, 20] l.length (fun k v3 v20 wr => ∃ i : Nat, v20 = .int .i64 i ∧ Hid (i ≤ l.length ∧ k = l.length - i ∧ OwnB wr w.heap.size v3 (q :: b128s (l.take i)) ∧ Below w.heap.size w wr))
  case atStart => exact ⟨0, rfl, Lib.hid ⟨Nat.zero_le _, rfl, HO0.out, HB0.out⟩⟩
  case round =>
    obtain ⟨i, rfl, HR⟩ := hrel
    generalize wr = wo at *
    by_cases hi : (i : Int) < l.length
    · have hil : i < l.length := by omega
      obtain ⟨x0, x1⟩ := HL.out.2.1 l[i] (List.getElem_mem hil)
      have hb := HR.out.2.2.2
      obtain ⟨ad8, rfl, g⟩ := Kd.at_int (Kd.C_below HL.out.2.2 hb) i (by omega) hi
      have hrd : rd l i = l[i] := by
        unfold Go.Proofs.YtangjgclpipjdaaDoorW.PrintWords.rd
        rw [Int.toNat_natCast, List.getD_eq_getElem?_getD, List.getElem?_eq_getElem hil]
        rfl
      rw [hrd, Int.toNat_natCast] at g
      have HX := Lib.hid (show l.take (i + 1) = l.take i ++ [l[i]] from List.take_succ_eq_append_getElem hil)
      have a1 := and127u l[i] x0 (by omega)
      have a2 : l[i] % 128 % 256 = l[i] % 128 := by omega
      clear hb hrd HO0 HB0
      generalize l[i] = x at *
      have hil' : (i < l.length) = True := eq_true hil
      clear hil
      go_wp2
      have hpart : OwnB (wo.alloc (.cells #[Value.int .u8 (x % 128)] 5)) wo.heap.size (.slice (some ⟨wo.heap.size, 0, none⟩) 1 1) [x % 128] := OwnB.lit wo _ [x % 128] (Nat.le_refl _) (by simp) (by rfl)
      have HP := Lib.hid (And.intro hpart ((Below.refl wo.heap.size wo).alloc (Nat.le_refl _) (.cells #[Value.int .u8 (x % 128)] 5)))
      have HF := Lib.hid (finK_b128 x x0 x1)
      clear hpart g hcut
      go_loopg [5, 6] 4 (fun k v5 v6 w2 => ∃ (n : Int) (part : List Int), v5 = .int .u64 n ∧ Hid (0 ≤ n ∧ n ≤ 4294967295 ∧ finK k n part = b128 x ∧ OwnB w2 wo.heap.size v6 part ∧ Below wo.heap.size wo w2 ∧ part.length + k ≤ 5 ∧ (k = 0 → n < 128) ∧ (k = 1 → n < 16384) ∧ (k = 2 → n < 2097152) ∧ (k = 3 → n < 268435456) ∧ k ≤ 4))
      case atStart => exact ⟨x, _, rfl, Lib.hid ⟨x0, x1, HF.out, HP.out.1, HP.out.2, by simp, by omega, by omega, by omega, by omega, by omega⟩⟩
      case round =>
        obtain ⟨n, part, rfl, HI⟩ := hrel
        obtain ⟨n0, n1, hf, ho, hb, hpl, k0, k1, k2, k3, k4⟩ := HI.out
        clear HP HF
        by_cases hn : n < 128
        · have hfin : part = b128 x := by
            rw [← hf]
            cases gk <;> simp [finK, hn]
          have HI := Lib.hid (And.intro ho hb)
          obtain ⟨A, cc, rfl, hcc, hC⟩ := Kd.R_reads ho
          subst hfin
          have HC := Lib.hid hC
          have hlb := b128_len x
          have hw := hb.size
          obtain ⟨h1, h2, h3, h4⟩ := HR.out
          have hww := h4.size
          have HO := Lib.hid (And.intro (OwnB.below h3 hb) (And.intro (below_step h4 hb) (show (q :: b128s (l.take i)).length ≤ 301 by have := b128s_len (l.take i); rw [List.length_take] at this; simp only [List.length_cons]; omega)))
          have HI2 := Lib.hid (And.intro h1 h2)
          have hi60 : i ≤ 60 := by omega
          clear hf ho hb k0 k1 k2 k3 k4 hpl hC h1 h2 h3 h4
          go_wp2_with (at_builtin; refine app_bytes rfl (.tmp 39) (.tmp 40) 26 rfl Tryd.underlying26 infoB w.heap.size u3 (q :: b128s (l.take i)) (b128 x) A (b128 x).length cc rfl rfl HO.out.1 HC.out (by omega) (by have := HO.out.2.2; omega) ?_; intro v1 w3 ho3 hg3 hat3)
          go_roundg (l.length - (i + 1))
          case measure =>
            have := HI2.out
            omega
          case rel =>
            have hi2 := HI2.out
            refine ⟨i + 1, by go_num, Lib.hid ⟨by omega, rfl, ?_, HO.out.2.1.grown hg3 (by omega) ?_⟩⟩
            · rw [HX.out, b128s_snoc]
              exact ho3
            · intro k hk
              exact ((Kd.R_bound HO.out.1).1 k hk).2.1
        · obtain ⟨k', rfl⟩ : ∃ k', gk = k' + 1 := ⟨gk - 1, by omega⟩
          have hnd : n / 128 ≤ 4294967295 := by omega
          have b1 := and127u (n / 128) (by omega) (by omega)
          have b2 : n / 128 % 128 % 256 = n / 128 % 128 := by omega
          have b3 := or128u (n / 128 % 128) (by omega) (by omega)
          have hw := hb.size
          obtain ⟨A, cc, rfl, hcc, hC⟩ := Kd.R_reads ho
          have hpl2 : part.length ≤ 5 := by omega
          simp only [finK, if_neg hn] at hf
          have HC := Lib.hid hC
          have HI := Lib.hid (And.intro hf (And.intro hb (And.intro hpl (And.intro k1 (And.intro k2 (And.intro k3 k4))))))
          clear hf ho hb hpl k0 k1 k2 k3 k4 hC HR
          go_wp2_with (at_builtin; refine app_bytes rfl (.tmp 36) (.tmp 37) 26 rfl Tryd.underlying26 infoB wr.heap.size (.slice (some ⟨wr.heap.size, 0, none⟩) 1 1) [n / 128 % 128 + 128] part A part.length cc rfl rfl (OwnB.lit wr _ [n / 128 % 128 + 128] (Nat.le_refl _) (by simp) (by rfl)) (Kd.C_alloc HC.out _) (by simp) (by simp; omega) ?_; intro v1 w3 ho3 hg3 hat3)
          go_roundg k'
          case measure => omega
          case rel =>
            obtain ⟨hf, hb, hpl, k1, k2, k3, k4⟩ := HI.out
            refine ⟨n / 128, _, by go_num, Lib.hid ⟨by omega, by omega, hf, ?_, ?_, by simp at hpl ⊢; omega, by omega, by omega, by omega, by omega, by omega⟩⟩
            · exact Kd.R_lower ho3 hw
            · exact (hb.alloc hw _).grown hg3 (by simp; omega) (fun k hk => by simp [Value.ownBlock] at hk; omega)
    · go_wp2
      go_ret
      obtain ⟨h1, h2, h3, h4⟩ := HR.out
      obtain ⟨hle, -, -⟩ := HL.out
      refine ⟨_, rfl, ?_, h4⟩
      rw [hle]
      rw [List.take_of_length_le (by omega)] at h3
      exact h3
end Go.Proofs.YtangjgclpipjdaaDoor
set_option linter.unusedVariables false
namespace Go.Proofs.YtangjgclpipjdaaDoor
open Go.RowKit Go.Proofs.YtangjgclpipjdaaDoorW.PrintWords Go.Proofs.YtangjgclpipjdaaDoorW.PrintLast Go.Proofs.YtangjgclpipjdaaDoorW.PrintMore
/-- A row of uint64 of the call's own. -/
def OwnU (w : World) (B : Nat) (v : Value) (xs : List Int) : Prop := Kd.R (Kd.int .u64) 22 w B (fun _ => True) v xs
theorem OwnU.lit (w : World) (B : Nat) (xs : List Int) (hB : B ≤ w.heap.size) (h : xs.length ≤ 9223372036854775807) {cs : Array Value} (hc : cs.toList = xs.map (Value.int .u64)) :
    OwnU (w.alloc (.cells cs 22)) B (.slice (some ⟨w.heap.size, 0, none⟩) xs.length xs.length) xs := by
  obtain ⟨l⟩ := cs
  simp only at hc
  subst hc
  have := own_lit_of (enc := Value.int .u64) w B 22 xs hB h
  exact Kd.R_of_own this (fun _ _ => trivial)
/-- 'append(s, x...)' of uint64, s a row of the call's own. -/
theorem app_u64s {P : Program} {W : World} {ops : Array Oper} {rest : List Oper} {o : Oper} {a : Act} {Q : Exit → Act → World → Prop} (hgd : o.guard = none) (s x : Operand) (t : TypeId)
    (ho : o.op = .call { callee := .builtin .append, args := #[s, x], argTypes := #[t, t] }) (ht : P.underlying t = some (.slice 22)) (hinfo : (P.info? 22).map (fun i => (i.zero, i.size, i.bytes)) = some (some (.int .u64 0), 1, 8))
    (B : Nat) (v : Value) (xs ys : List Int) (A : Option Addr) (m c : Nat) (hs : a.eval s = v) (hx : a.eval x = .slice A m c) (HO : OwnU W B v xs) (HR : Kd.C (Kd.int .u64) W A m ys) (hB : B ≤ W.heap.size) (hl : xs.length + m ≤ 17592186044416)
    (h : ∀ v1 w1, OwnU w1 B v1 (xs ++ ys) → W.grownBy w1 v.ownBlock → (v1.ownBlock = v.ownBlock ∨ ∃ b, v1.ownBlock = some b ∧ W.heap.size ≤ b) → wpList P ops Q rest (a.put o.dst v1) w1) : wpList P ops Q (o :: rest) a W := by
  refine Kd.R_append_rows (Kd.int .u64) (w0 := W) B hgd s x t 22 (.int .u64 0) 8 ho ht hinfo rfl (by decide) (by omega) v xs ys A m c (fun _ => True) (fun _ => False) hs hx HO HR ?_ (fun _ hk => hk.elim) (fun _ _ => trivial) (Below.refl _ _) hB (by omega) ?_
  · intro x cs h; exact h
  · intro v1 w1 h1 _ hg hat
    exact h v1 w1 h1 hg hat
def finA : Option (List Int) → List Int × Bool
  | none => ([], false)
  | some out => if arcsOk out then (out, decide ((sName out).length ≤ 100)) else (out, false)
theorem sArcs_finA (s : List Int) : sArcs s = finA (arcsGo (strip s) [] 0 false) := by
  unfold sArcs finA
  cases arcsGo (strip s) [] 0 false <;> rfl
theorem arcs_start (s : ByteArray) (hs : s.size ≤ 2147483647) : ∃ t : ByteArray, strip (bs s) = bs t ∧ t.size ≤ 2147483647 ∧ ((∃ h : 0 < s.size, ((s[0]'h).toNat : Int) = 46 ∧ s.extract 1 s.size = t) ∨ (∃ h : 0 < s.size, ((((s[0]'h).toNat : Int) == 46) = false) ∧ t = s) ∨ (s.size = 0 ∧ t = s)) := by
  cases hb : bs s with
  | nil =>
    have : s.size = 0 := by have := congrArg List.length hb; rw [bs_length] at this; simpa using this
    exact ⟨s, by rw [hb]; rfl, hs, .inr (.inr ⟨this, rfl⟩)⟩
  | cons c l =>
    obtain ⟨h, h1, h2⟩ := char_at s 0 c l hb
    by_cases hc : c = 46
    · refine ⟨s.extract 1 s.size, ?_, by simp; omega, .inl ⟨h, by rw [h1, hc], rfl⟩⟩
      subst hc
      show l = _
      rw [← h2]
      unfold bs
      simp
      exact (List.take_of_length_le (by simp)).symm
    · refine ⟨s, ?_, hs, .inr (.inl ⟨h, beq_eq_false_iff_ne.2 (by rw [h1]; exact hc), rfl⟩)⟩
      rw [hb]
      unfold strip
      split
      · rename_i heq; injection heq with e1 e2; exact absurd e1 hc
      · rfl
def GotA (w w' : World) (R : List Int × Bool) (e : Ending) : Prop := ∃ v, e = .returned (.tuple #[v, .bool R.2]) ∧ OwnU w' w.heap.size v R.1 ∧ Below w.heap.size w w'
theorem gotA {w w' : World} {R : List Int × Bool} {v : Value} {xs : List Int} {b : Bool} (h : R = (xs, b)) (ho : OwnU w' w.heap.size v xs) (hb : Below w.heap.size w w') : GotA w w' R (.returned (.tuple #[v, .bool b])) := by
  subst h
  exact ⟨v, rfl, ho, hb⟩
theorem litU_C (w : World) (n : Int) : Kd.C (Kd.int .u64) (w.alloc (.cells #[Value.int .u64 n] 22)) (some ⟨w.heap.size, 0, none⟩) 1 [n] := by
  obtain ⟨A, c, e, _, hC⟩ := Kd.R_reads (OwnU.lit w w.heap.size [n] (Nat.le_refl _) (by simp) (cs := #[Value.int .u64 n]) (by rfl))
  injection e with e1 e2 e3
  rw [e1]
  exact hC
theorem OwnU.block {w : World} {B : Nat} {v : Value} {xs : List Int} (h : OwnU w B v xs) (k : Nat) (hk : v.ownBlock = some k) : B ≤ k := ((Kd.R_bound h).1 k hk).2.1
theorem finA_no (out : List Int) (h : ¬ arcsOk out) : finA (some out) = (out, false) := by simp [finA, h]
theorem OwnU.nil (w : World) (B : Nat) : OwnU w B (.slice none 0 0) [] := Kd.R_nil (Kd.int .u64) _ _ _ _
theorem arcsGo_bounds (l : List Int) : ∀ (out : List Int) (n : Int) (sm : Bool) (r : List Int), arcsGo l out n sm = some r → 0 ≤ n → n ≤ 4294967295 → (∀ x ∈ out, 0 ≤ x ∧ x ≤ 4294967295) → ∀ x ∈ r, 0 ≤ x ∧ x ≤ 4294967295 := by
  have snoc : ∀ (out : List Int) (n : Int), 0 ≤ n → n ≤ 4294967295 → (∀ x ∈ out, 0 ≤ x ∧ x ≤ 4294967295) → ∀ x ∈ out ++ [n], 0 ≤ x ∧ x ≤ 4294967295 := by
    intro out n h0 h1 ha x hx
    rcases List.mem_append.1 hx with h' | h'
    · exact ha x h'
    · rw [List.mem_singleton.1 h']; exact ⟨h0, h1⟩
  induction l with
  | nil =>
    intro out n sm r h h0 h1 ha
    cases sm with
    | false => simp [arcsGo] at h
    | true =>
      simp [arcsGo] at h
      rw [← h]
      exact snoc out n h0 h1 ha
  | cons c l ih =>
    intro out n sm r h h0 h1 ha
    simp only [arcsGo] at h
    by_cases hc : c = 46
    · rw [if_pos hc] at h
      cases sm with
      | false => simp at h
      | true =>
        simp only [if_true] at h
        exact ih _ _ _ _ h (by omega) (by omega) (snoc out n h0 h1 ha)
    · rw [if_neg hc] at h
      by_cases hg : c < 48 ∨ c > 57 ∨ (sm = true ∧ n = 0) ∨ 10 * n + (c - 48) ≥ 4294967296
      · rw [if_pos hg] at h; cases h
      · rw [if_neg hg] at h
        exact ih _ _ _ _ h (by omega) (by omega) ha
theorem sArcs_bounds (s : List Int) (arcs : List Int) (h : sArcs s = (arcs, true)) : ∀ x ∈ arcs, 0 ≤ x ∧ x ≤ 4294967295 := by
  unfold sArcs at h
  cases e : arcsGo (strip s) [] 0 false with
  | none => rw [e] at h; simp at h
  | some out =>
    rw [e] at h
    simp only at h
    by_cases ho : arcsOk out
    · rw [if_pos ho] at h
      simp at h
      rw [← h.1]
      exact arcsGo_bounds _ _ _ _ _ e (by omega) (by omega) (by simp)
    · rw [if_neg ho] at h; simp at h
set_option maxRecDepth 100000 in
set_option maxHeartbeats 8000000 in
theorem specArcs_any (s : ByteArray) (hs : s.size ≤ 2147483647) (w : World) :
    Calls Tryd.prog 21 #[.string s] w fun e w' => GotA w w' (sArcs (bs s)) e := by
  obtain ⟨t, hst, hz, hcase⟩ := arcs_start s hs
  rw [sArcs_finA, hst]
  clear hst hs
  have ho0 : OwnU (w.alloc (.cells #[] 22)) w.heap.size (.slice (some ⟨w.heap.size, 0, none⟩) 0 0) [] := OwnU.lit w _ [] (Nat.le_refl _) (by simp) (by rfl)
  have HO0 := Lib.hid (And.intro ho0 ((Below.refl w.heap.size w).alloc (Nat.le_refl _) (.cells #[] 22)))
  clear ho0
  rcases hcase with ⟨h, h46, hext⟩ | ⟨h, h46, rfl⟩ | ⟨hp, rfl⟩
  all_goals
    obtain ⟨R, hR⟩ : ∃ R, R = arcsGo (bs t) [] 0 false := ⟨_, rfl⟩
    rw [← hR]
    have HRR := Lib.hid hR
    clear hR
    go_enter Tryd.func21, Tryd.ntmps21
    go_wp2_with fail
    go_loopg [4, 5, 6, 7] (t.size + 1) (fun g v4 v5 v6 v7 wr => ∃ (i : Nat) (out : List Int) (n : Int) (sm : Bool), v7 = .int .i64 i ∧ v5 = .int .u64 n ∧ v6 = .bool sm ∧ Hid (g = t.size + 1 - i ∧ 0 ≤ n ∧ n ≤ 4294967295 ∧ OwnU wr w.heap.size v4 out ∧ Below w.heap.size w wr ∧ out.length ≤ i ∧ (∀ x ∈ out, 0 ≤ x ∧ x ≤ 4294967295) ∧ ((i ≤ t.size ∧ arcsGo ((bs t).drop i) out n sm = R) ∨ (i = t.size + 1 ∧ R = some out))))
    case atStart => exact ⟨0, [], 0, false, rfl, rfl, rfl, Lib.hid ⟨rfl, by omega, by omega, HO0.out.1, HO0.out.2, by simp, by simp, .inl ⟨Nat.zero_le _, HRR.out.symm⟩⟩⟩
    case round =>
      try clear hp
      obtain ⟨i, out, n, sm, rfl, rfl, rfl, HR⟩ := hrel
      obtain ⟨hg, n0, n1, ho, hb, hlen, hall, hst⟩ := HR.out
      have HK := Lib.hid (And.intro hg (And.intro ho (And.intro hb (And.intro hlen hall))))
      clear hg ho hb hlen hall HO0 HRR HR
      rcases hst with ⟨hi, hR⟩ | ⟨rfl, hR⟩
      · by_cases hi2 : i = t.size
        · subst hi2
          rw [List.drop_of_length_le (by rw [bs_length]; omega)] at hR
          cases sm with
          | false =>
            have HS := Lib.hid (show finA R = ([], false) by rw [← hR]; rfl)
            clear hR
            go_wp2
            go_ret2
            exact gotA HS.out (OwnU.nil _ _) HK.out.2.2.1
          | true =>
            obtain ⟨A, c0, rfl, hcc, hC⟩ := Kd.R_reads HK.out.2.1
            have HS := Lib.hid (show R = some (out ++ [n]) by rw [← hR]; rfl)
            clear hR hC
            go_wp2_with (at_builtin; refine app_u64s rfl (.tmp 37) (.tmp 39) 52 rfl Tryd.underlying52 infoU64 w.heap.size (.slice A out.length c0) out [n] (some ⟨wr.heap.size, 0, none⟩) 1 1 rfl rfl (Kd.R_alloc HK.out.2.1 _) (litU_C wr n) (by have := HK.out.2.2.1.size; simp; omega) (by have := HK.out.2.2.2.1; omega) ?_; intro v1 w3 ho3 hg3 hat3)
            go_roundg 0
            case measure =>
              have := HK.out.1
              omega
            case rel =>
              obtain ⟨hg, ho, hb, hlen, hall⟩ := HK.out
              exact ⟨t.size + 1, out ++ [n], 0, false, by go_num, rfl, rfl, Lib.hid ⟨by omega, by omega, by omega, ho3, (hb.alloc hb.size _).grown hg3 (by have := hb.size; simp; omega) (fun k hk => OwnU.block ho k hk), by simp; omega, by intro x hx; rcases List.mem_append.1 hx with h' | h'; exact hall x h'; rw [List.mem_singleton.1 h']; omega, .inr ⟨rfl, HS.out⟩⟩⟩
        · have hil : i < t.size := by omega
          obtain ⟨c, l, hcl⟩ : ∃ c l, (bs t).drop i = c :: l := ⟨_, _, List.drop_eq_getElem_cons (by rw [bs_length]; exact hil)⟩
          obtain ⟨hit, hc, hdr⟩ := char_at t i c l hcl
          rw [hcl] at hR
          have hc0 : 0 ≤ c := by omega
          have hc1 : c ≤ 255 := by have := (t[i]'hit).toNat_lt; omega
          have hin : ((i : Int) == t.size) = false := beq_eq_false_iff_ne.2 (by omega)
          by_cases c46 : c = 46
          · subst c46
            cases sm with
            | false =>
              have HS := Lib.hid (show finA R = ([], false) by rw [← hR]; rfl)
              clear hR hcl hdr
              go_wp2
              go_ret2
              exact gotA HS.out (OwnU.nil _ _) HK.out.2.2.1
            | true =>
              obtain ⟨A, c0, rfl, hcc, hC⟩ := Kd.R_reads HK.out.2.1
              have HS := Lib.hid (show arcsGo ((bs t).drop (i + 1)) (out ++ [n]) 0 false = R by rw [← hR, hdr]; rfl)
              clear hR hcl hdr hC
              go_wp2_with (at_builtin; refine app_u64s rfl (.tmp 37) (.tmp 39) 52 rfl Tryd.underlying52 infoU64 w.heap.size (.slice A out.length c0) out [n] (some ⟨wr.heap.size, 0, none⟩) 1 1 rfl rfl (Kd.R_alloc HK.out.2.1 _) (litU_C wr n) (by have := HK.out.2.2.1.size; simp; omega) (by have := HK.out.2.2.2.1; omega) ?_; intro v1 w3 ho3 hg3 hat3)
              go_roundg (t.size + 1 - (i + 1))
              case measure =>
                have := HK.out.1
                omega
              case rel =>
                obtain ⟨hg, ho, hb, hlen, hall⟩ := HK.out
                exact ⟨i + 1, out ++ [n], 0, false, by go_num, rfl, rfl, Lib.hid ⟨by omega, by omega, by omega, ho3, (hb.alloc hb.size _).grown hg3 (by have := hb.size; simp; omega) (fun k hk => OwnU.block ho k hk), by simp; omega, by intro x hx; rcases List.mem_append.1 hx with h' | h'; exact hall x h'; rw [List.mem_singleton.1 h']; omega, .inl ⟨by omega, HS.out⟩⟩⟩
          · have h46' : (c == 46) = false := beq_eq_false_iff_ne.2 c46
            simp only [arcsGo, if_neg c46] at hR
            by_cases c48 : c < 48
            · rw [if_pos (.inl c48)] at hR
              have HS := Lib.hid (show finA R = ([], false) by rw [← hR]; rfl)
              clear hR hcl hdr
              go_wp2
              go_ret2
              exact gotA HS.out (OwnU.nil _ _) HK.out.2.2.1
            by_cases c57 : 57 < c
            · rw [if_pos (.inr (.inl c57))] at hR
              have HS := Lib.hid (show finA R = ([], false) by rw [← hR]; rfl)
              clear hR hcl hdr
              go_wp2
              go_ret2
              exact gotA HS.out (OwnU.nil _ _) HK.out.2.2.1
            have e1 : IntKind.u64.wrap (10 * n) = 10 * n := wraps_u64 _ (by omega) (by omega)
            have e2 : (c - 48) % 256 = c - 48 := by omega
            have e3 : IntKind.u64.wrap (10 * n + (c - 48)) = 10 * n + (c - 48) := wraps_u64 _ (by omega) (by omega)
            have hgo : (¬ (sm = true ∧ n = 0)) → ¬ (10 * n + (c - 48) ≥ 4294967296) → arcsGo ((bs t).drop (i + 1)) out (10 * n + (c - 48)) true = R := by
              intro h1 h2
              rw [if_neg (by rintro (h | h | h | h); exact absurd h c48; exact absurd h c57; exact h1 h; exact h2 h)] at hR
              rw [hdr]; exact hR
            have hno : ((sm = true ∧ n = 0) ∨ 10 * n + (c - 48) ≥ 4294967296) → finA R = ([], false) := by
              intro h1
              rw [if_pos (.inr (.inr h1))] at hR
              rw [← hR]; rfl
            have HGO := Lib.hid (And.intro hgo hno)
            clear hgo hno hR hcl hdr
            cases sm with
            | true =>
              by_cases hn : n = 0
              · have hnb : (n == 0) = true := beq_iff_eq.2 hn
                clear hn e1 e3
                go_wp2
                go_ret2
                exact gotA (HGO.out.2 (.inl (by first | exact ⟨rfl, beq_iff_eq.1 hnb⟩ | exact ⟨trivial, beq_iff_eq.1 hnb⟩))) (OwnU.nil _ _) HK.out.2.2.1
              · have hnb : (n == 0) = false := beq_eq_false_iff_ne.2 hn
                by_cases hbig : 4294967296 ≤ 10 * n + (c - 48)
                · go_wp2
                  go_ret2
                  exact gotA (HGO.out.2 (.inr hbig)) (OwnU.nil _ _) HK.out.2.2.1
                · go_wp2
                  go_roundg (t.size + 1 - (i + 1))
                  case measure =>
                    have := HK.out.1
                    omega
                  case rel =>
                    obtain ⟨hg, ho, hb, hlen, hall⟩ := HK.out
                    exact ⟨i + 1, out, 10 * n + (c - 48), true, by go_num, rfl, rfl, Lib.hid ⟨by omega, by omega, by omega, ho, hb, by omega, hall, .inl ⟨by omega, HGO.out.1 (by simp; exact hn) (by omega)⟩⟩⟩
            | false =>
              by_cases hbig : 4294967296 ≤ 10 * n + (c - 48)
              · go_wp2
                go_ret2
                exact gotA (HGO.out.2 (.inr hbig)) (OwnU.nil _ _) HK.out.2.2.1
              · go_wp2
                go_roundg (t.size + 1 - (i + 1))
                case measure =>
                  have := HK.out.1
                  omega
                case rel =>
                  obtain ⟨hg, ho, hb, hlen, hall⟩ := HK.out
                  exact ⟨i + 1, out, 10 * n + (c - 48), true, by go_num, rfl, rfl, Lib.hid ⟨by omega, by omega, by omega, ho, hb, by omega, hall, .inl ⟨by omega, HGO.out.1 (by simp) (by omega)⟩⟩⟩
      · have HS := Lib.hid hR
        clear hR
        obtain ⟨A, c, rfl, hcc, hC⟩ := Kd.R_reads HK.out.2.1
        obtain ⟨hg, ho, hb, hlen, hall⟩ := HK.out
        have hRo := HS.out
        by_cases hl2 : 2 ≤ (out.length : Int)
        · obtain ⟨ad, rfl, g0⟩ := Kd.at_int hC 0 (by omega) (by omega)
          obtain ⟨ad', ea, g1⟩ := Kd.at_int hC 1 (by omega) (by omega)
          obtain rfl : ad = ad' := by injection ea
          rw [show (0 : Int).toNat = 0 from rfl, Addr.add_zero'] at g0
          simp only [show (1 : Int).toNat = 1 from rfl, Go.Addr.add, Nat.reduceEqDiff, if_false] at g1
          have m0 : (0 < out.length) = True := eq_true (by omega)
          have m1 : (1 < out.length) = True := eq_true (by omega)
          by_cases hok : arcsOk out
          · have hok' := hok
            obtain ⟨-, o2, o3, o4⟩ := hok
            have o2' : (out.length : Int) ≤ 60 := by omega
            have HH := Lib.hid (And.intro ho (And.intro hb (And.intro (show finA R = (out, decide (((sName out).length : Int) ≤ 100)) by rw [hRo]; simp [finA, hok']; omega) (And.intro hall hC))))
            clear hok' ho hb hRo hall hC ea hg hlen HK HS
            go_wp2_with fail
            refine (specName_any out (by omega) o2 HH.out.2.2.2.1 _ c hcc wr HH.out.2.2.2.2).mono ?_
            rintro e w2 ⟨v2, rfl, ho2, hb2⟩
            obtain ⟨A2, c2, rfl, hcc2, hC2⟩ := Kd.R_reads ho2
            have H2 := Lib.hid (And.intro (Kd.R_below HH.out.1 hb2) (below_step HH.out.2.1 hb2))
            clear ho2 hb2 hC2
            go_wp2
            go_ret2
            exact gotA HH.out.2.2.1 H2.out.1 H2.out.2
          · have HH := Lib.hid (And.intro ho (And.intro hb (show finA R = (out, false) by rw [hRo, finA_no _ hok])))
            have hno := Lib.hid hok
            clear ho hb hRo hall hC ea hg hlen HK HS hok
            go_wp2_with fail
            all_goals first | exact absurd (show arcsOk out from ⟨by omega, by omega, by assumption, by assumption⟩) hno.out | (go_ret2; exact gotA HH.out.2.2 HH.out.1 HH.out.2.1)
        · have HH := Lib.hid (And.intro ho (And.intro hb (show finA R = (out, false) by rw [hRo, finA_no _ (by unfold arcsOk; omega)])))
          clear ho hb hRo hall hC hg hlen HK HS
          go_wp2
          go_ret2
          exact gotA HH.out.2.2 HH.out.1 HH.out.2.1
end Go.Proofs.YtangjgclpipjdaaDoor
set_option linter.unusedVariables false
namespace Go.Proofs.YtangjgclpipjdaaDoor
open Go.RowKit Go.Proofs.YtangjgclpipjdaaDoorW.PrintWords Go.Proofs.YtangjgclpipjdaaDoorW.PrintLast Go.Proofs.YtangjgclpipjdaaDoorW.PrintMore
/-- ([]byte, bool), bytes in new memory. -/
def GotN (w w' : World) (R : List Int × Bool) (e : Ending) : Prop := ∃ v, e = .returned (.tuple #[v, .bool R.2]) ∧ NewB w w' v R.1 ∧ Below w.heap.size w w'
theorem gotN {w w' : World} {R : List Int × Bool} {v : Value} {xs : List Int} {b : Bool} (h : R = (xs, b)) (ho : NewB w w' v xs) (hb : Below w.heap.size w w') : GotN w w' R (.returned (.tuple #[v, .bool b])) := by
  subst h
  exact ⟨v, rfl, ho, hb⟩
theorem ne_beq {a b : Int} (h : a ≠ b) : (a == b) = false := beq_eq_false_iff_ne.2 h
/-- impl.Var laid in a block. -/
abbrev varO (nm : ByteArray) (ty i u : Int) (tx : ByteArray) : Obj := .cells #[.string nm, .int .i64 ty, .int .i64 i, .int .u64 u, .string tx] 24
theorem bytesWorld_new (w : World) (s : ByteArray) (hz : s.size ≤ 2147483647) : NewB w (Lib.bytesWorld w 5 s) (.slice (some ⟨w.heap.size, 0, none⟩) s.size (grownCap w s.size 0 5)) (bs s) ∧ Below w.heap.size w (Lib.bytesWorld w 5 s) := by
  have hh := Lib.bytesWorld_at_new w 5 s
  have hsz := Lib.bytesWorld_size w 5 s
  refine ⟨⟨some ⟨w.heap.size, 0, none⟩, grownCap w s.size 0 5, by rw [bs_length], by rw [bs_length]; exact grownCap_ge w s.size 0 5, fun W' hW => ?_⟩, Lib.bytesWorld_below w 5 s⟩
  have h2 := (hW w.heap.size (Nat.le_refl _) (by rw [hsz]; omega)).trans hh
  refine Kd.C_of_reads (enc := Value.int .u8) (d := (0 : Int)) ⟨rfl, by rw [bs_length]; omega, fun _ => ⟨_, rfl, fun j hj => ?_⟩⟩
  rw [bs_length] at hj
  have e : (⟨w.heap.size, 0, none⟩ : Addr).add j = ⟨w.heap.size, j, none⟩ := by unfold Addr.add; split <;> simp_all
  rw [e]
  have h3 := Lib.bytesWorld_cell w 5 s j hj
  unfold World.cell? at h3 ⊢
  rw [hh] at h3
  rw [h2]
  refine h3.trans ?_
  have hj' : j < s.data.toList.length := by simpa using hj
  simp [bs, List.getD_eq_getElem?_getD, List.getElem?_eq_getElem hj']
set_option maxRecDepth 100000 in
set_option maxHeartbeats 1600000 in
theorem specContent_any (nm tx : ByteArray) (ty i u : Int) (i0 : -9223372036854775808 ≤ i) (i1 : i ≤ 9223372036854775807) (u0 : 0 ≤ u) (u1 : u ≤ 18446744073709551615) (hz : tx.size ≤ 2147483647) (w : World) :
    Calls Tryd.prog 22 #[varV nm ty i u tx] w fun e w' => GotN w w' (sCont ty i u (bs tx)) e := by
  obtain ⟨R, hR⟩ : ∃ R, R = sCont ty i u (bs tx) := ⟨_, rfl⟩
  rw [← hR]
  unfold sCont at hR
  have hblk := blk_new w (varO nm ty i u tx)
  have hal := (Below.refl w.heap.size w).alloc (Nat.le_refl _) (varO nm ty i u tx)
  have hald := Lib.hid (below_drew hal)
  by_cases h2 : ty = 2
  · subst h2
    rw [if_pos rfl] at hR
    have HR := Lib.hid hR
    clear hR
    have c2 := (blk_cell hblk 2).trans rfl
    by_cases hi : -2147483648 ≤ i
    · have hi' := eq_true hi
      go_enter Tryd.func22, Tryd.ntmps22
      go_wp2_with fail
      go_region_held3 (fun w' => w'.cell? ⟨w.heap.size, 2, none⟩ = some (.int .i64 i)) (first | exact c2 | exact (hb.cell (World.block_lt_of_cell? _ _ c2)).trans c2) ((go_at_call 42; refine (specInt_any i i0 i1 _).mono ?_; rintro e w' ⟨v, rfl, ho, hb⟩))
      go_wp2
      go_ret2
      exact gotN (by rw [HR.out]; congr 1; simp [hi]) (ho.newAt (by simp)) (below_step hald.out hb)
    · have hi' := eq_false hi
      have HI := Lib.hid hi
      clear hi
      go_enter Tryd.func22, Tryd.ntmps22
      go_wp2_with fail
      have mixed : Tryd.prog.follows Departure.mixedOrders = true := by kernel_rfl
      have hd' : decide (-2147483648 ≤ i) = false := decide_eq_false (by have := HI.out; omega)
      first | (go_region_with_o (go_at_call 42; refine (specInt_any i i0 i1 _).mono ?_; rintro e w' ⟨v, rfl, ho, hb⟩; have c2' := (hb.cell (World.block_lt_of_cell? _ _ c2)).trans c2)) | fail
      all_goals go_wp2
      all_goals go_ret2
      all_goals exact gotN (by rw [HR.out]; congr 1; simp [hi']) (ho.newAt (by simp)) (below_step hald.out hb)
  rw [if_neg h2] at hR
  have b2 := ne_beq h2
  by_cases h4 : ty = 4
  · subst h4
    rw [if_pos rfl] at hR
    have HR := Lib.hid hR
    clear hR b2 h2
    have c4 := (blk_cell hblk 4).trans rfl
    have hcv := fun W => Lib.run_convert_string_bytes (P := Tryd.prog) W 9 26 5 tx Tryd.underlying9 Tryd.underlying26 Tryd.underlying5
    go_enter Tryd.func22, Tryd.ntmps22
    go_wp2_with fail
    have mixed : Tryd.prog.follows Departure.mixedOrders = true := by kernel_rfl
    have c4' := ((bytesWorld_new (w.alloc (varO nm 4 i u tx)).drew tx hz).2.cell (World.block_lt_of_cell? _ _ c4)).trans c4
    go_region_o
    all_goals go_wp2
    all_goals go_ret2
    have hN := (bytesWorld_new (w.alloc (varO nm 4 i u tx)).drew tx hz).1.since (w0 := w) (by simp)
    rw [show (w.alloc (varO nm 4 i u tx)).drew.heap.size = w.heap.size + 1 by simp] at hN
    all_goals exact gotN (by rw [HR.out, bs_length]; congr 1; simp; omega) hN (below_step hald.out (bytesWorld_new (w.alloc (varO nm 4 i u tx)).drew tx hz).2)
  rw [if_neg h4] at hR
  have b4 := ne_beq h4
  by_cases h5 : ty = 5 ∨ ty = 128 ∨ ty = 129 ∨ ty = 130
  · rw [if_pos h5] at hR
    have HR := Lib.hid hR
    clear hR b2 h2 b4 h4
    rcases h5 with rfl | rfl | rfl | rfl
    all_goals
      go_enter Tryd.func22, Tryd.ntmps22
      go_wp2
      go_ret2
      exact gotN HR.out (NewB.nil _ _) hal
  rw [if_neg h5] at hR
  have b5 := ne_beq (show ty ≠ 5 by omega)
  have b128 := ne_beq (show ty ≠ 128 by omega)
  have b129 := ne_beq (show ty ≠ 129 by omega)
  have b130 := ne_beq (show ty ≠ 130 by omega)
  by_cases h6 : ty = 6
  · subst h6
    rw [if_pos rfl] at hR
    clear b2 h2 b4 h4 h5 b5 b128 b129 b130
    go_enter Tryd.func22, Tryd.ntmps22
    go_wp2_with fail
    refine (specArcs_any tx hz _).mono ?_
    rintro e w1 ⟨v, rfl, ho, hb⟩
    obtain ⟨A, c, rfl, hcc, hC⟩ := Kd.R_reads ho
    have HB := Lib.hid (below_step hal hb)
    cases hok : (sArcs (bs tx)).2 with
    | false =>
      rw [hok, if_neg (by simp)] at hR
      have HR := Lib.hid hR
      clear hR ho hb hC
      go_wp2
      go_ret2
      exact gotN HR.out (NewB.nil _ _) HB.out
    | true =>
      rw [hok, if_pos rfl] at hR
      have HR := Lib.hid hR
      have hA : sArcs (bs tx) = ((sArcs (bs tx)).1, true) := by rw [← hok]
      have hbd := sArcs_bounds _ _ hA
      have hao := (sArcs_text _ _ hA).1
      have HH := Lib.hid (And.intro hbd hC)
      have hl2 := hao.1
      have hl60 := hao.2.1
      have hsz := hb.size
      have hle : w.heap.size ≤ w1.heap.size := by simp at hsz; omega
      clear hR ho hb hC hA hbd hao hsz
      go_wp2_with fail
      refine (specName_any _ hl2 hl60 HH.out.1 A c hcc _ HH.out.2).mono ?_
      rintro e w2 ⟨v2, rfl, ho2, hb2⟩
      have H2 := Lib.hid (And.intro (ho2.newAt hle) (below_step HB.out hb2))
      clear ho2 hb2
      go_wp2
      go_ret2
      exact gotN HR.out H2.out.1 H2.out.2
  rw [if_neg h6] at hR
  have b6 := ne_beq h6
  by_cases h7 : ty = 64
  · subst h7
    rw [if_pos rfl] at hR
    have HR := Lib.hid hR
    clear hR b2 h2 b4 h4 h5 b5 b128 b129 b130 h6 b6
    go_enter Tryd.func22, Tryd.ntmps22
    go_wp2_with fail
    refine (specAddr_any tx hz _).mono ?_
    rintro e w1 ⟨v, rfl, ho, hb⟩
    have HB := Lib.hid (And.intro (ho.newAt (w := w) (by simp)) (below_step hal hb))
    clear ho hb
    go_wp2
    go_ret2
    exact gotN HR.out HB.out.1 HB.out.2
  rw [if_neg h7] at hR
  have b7 := ne_beq h7
  have c3 := (blk_cell hblk 3).trans rfl
  by_cases h8 : ty = 65 ∨ ty = 66 ∨ ty = 67
  · rw [if_pos h8] at hR
    have HR := Lib.hid hR
    clear hR b2 h2 b4 h4 h5 b5 b128 b129 b130 h6 b6 h7 b7
    rcases h8 with rfl | rfl | rfl
    all_goals
      go_enter Tryd.func22, Tryd.ntmps22
      go_wp2_with fail
      go_region_held3 (fun w' => w'.cell? ⟨w.heap.size, 3, none⟩ = some (.int .u64 u)) (first | exact c3 | exact (hb.cell (World.block_lt_of_cell? _ _ c3)).trans c3) ((go_at_call 46; refine (specUint_any u u0 u1 _).mono ?_; rintro e w' ⟨v, rfl, ho, hb⟩))
      go_wp2
      go_ret2
      exact gotN HR.out (ho.newAt (by simp)) (below_step hald.out hb)
  rw [if_neg h8] at hR
  have b65 := ne_beq (show ty ≠ 65 by omega)
  have b66 := ne_beq (show ty ≠ 66 by omega)
  have b67 := ne_beq (show ty ≠ 67 by omega)
  by_cases h9 : ty = 70
  · subst h9
    rw [if_pos rfl] at hR
    have HR := Lib.hid hR
    clear hR b2 h2 b4 h4 h5 b5 b128 b129 b130 h6 b6 h7 b7 h8 b65 b66 b67
    go_enter Tryd.func22, Tryd.ntmps22
    go_wp2_with fail
    refine (specUint_any u u0 u1 _).mono ?_
    rintro e w1 ⟨v, rfl, ho, hb⟩
    have HB := Lib.hid (And.intro (ho.newAt (w := w) (by simp)) (below_step hal hb))
    clear ho hb
    go_wp2
    go_ret2
    exact gotN HR.out HB.out.1 HB.out.2
  rw [if_neg h9] at hR
  have b9 := ne_beq h9
  have HR := Lib.hid hR
  clear hR h2 h4 h5 h6 h7 h8 h9
  go_enter Tryd.func22, Tryd.ntmps22
  go_wp2
  go_ret2
  exact gotN HR.out (NewB.nil _ _) hal
end Go.Proofs.YtangjgclpipjdaaDoor
set_option linter.unusedVariables false
namespace Go.Proofs.YtangjgclpipjdaaDoor
open Go.RowKit Go.Proofs.YtangjgclpipjdaaDoorW.PrintWords Go.Proofs.YtangjgclpipjdaaDoorW.PrintLast Go.Proofs.YtangjgclpipjdaaDoorW.PrintMore
theorem cell_up {W W' : World} {a : Addr} {v : Value} (c : W.cell? a = some v) (hb : Below W.heap.size W W') : W'.cell? a = some v := (hb.cell (World.block_lt_of_cell? _ _ c)).trans c
theorem cell_alloc {W : World} {a : Addr} {v : Value} (c : W.cell? a = some v) (o : Obj) : (W.alloc o).cell? a = some v := cell_up c ((Below.refl _ _).alloc (Nat.le_refl _) o)
theorem cell_drew {W : World} {a : Addr} {v : Value} (c : W.cell? a = some v) : W.drew.cell? a = some v := c
theorem var_cells {W : World} {g : Nat} {nm tx : ByteArray} {ty i u : Int} (h : W.heap[g]? = some (varO nm ty i u tx)) : W.cell? ⟨g, 0, none⟩ = some (.string nm) ∧ W.cell? ⟨g, 1, none⟩ = some (.int .i64 ty) ∧ W.cell? ⟨g, 2, none⟩ = some (.int .i64 i) ∧ W.cell? ⟨g, 3, none⟩ = some (.int .u64 u) ∧ W.cell? ⟨g, 4, none⟩ = some (.string tx) ∧
    W.frozen? ⟨g, 0, none⟩ = false ∧ W.frozen? ⟨g, 1, none⟩ = false ∧ W.frozen? ⟨g, 2, none⟩ = false ∧ W.frozen? ⟨g, 3, none⟩ = false ∧ W.frozen? ⟨g, 4, none⟩ = false :=
  ⟨(blk_cell h 0).trans rfl, (blk_cell h 1).trans rfl, (blk_cell h 2).trans rfl, (blk_cell h 3).trans rfl, (blk_cell h 4).trans rfl, blk_frozen h 0, blk_frozen h 1, blk_frozen h 2, blk_frozen h 3, blk_frozen h 4⟩
/-- A variable stored whole, cell by cell. -/
abbrev setVar (W : World) (g : Nat) (nm : ByteArray) (ty i u : Int) (tx : ByteArray) : World :=
  ((((W.setCell ⟨g, 0, none⟩ (.string nm)).setCell ⟨g, 1, none⟩ (.int .i64 ty)).setCell ⟨g, 2, none⟩ (.int .i64 i)).setCell ⟨g, 3, none⟩ (.int .u64 u)).setCell ⟨g, 4, none⟩ (.string tx)
theorem setVar_far {W : World} {g : Nat} {a : Addr} {v : Value} (c : W.cell? a = some v) (h : a.block ≠ g) (nm : ByteArray) (ty i u : Int) (tx : ByteArray) : (setVar W g nm ty i u tx).cell? a = some v :=
  (cell_far (p := ⟨g, 4, none⟩) h _).trans ((cell_far (p := ⟨g, 3, none⟩) h _).trans ((cell_far (p := ⟨g, 2, none⟩) h _).trans ((cell_far (p := ⟨g, 1, none⟩) h _).trans ((cell_far (p := ⟨g, 0, none⟩) h _).trans c))))
theorem setVar_heap {W : World} {g k : Nat} {o : Obj} (c : W.heap[k]? = some o) (h : k ≠ g) (nm : ByteArray) (ty i u : Int) (tx : ByteArray) : (setVar W g nm ty i u tx).heap[k]? = some o :=
  (Below.heap_setCell _ ⟨g, 4, none⟩ _ k h).trans ((Below.heap_setCell _ ⟨g, 3, none⟩ _ k h).trans ((Below.heap_setCell _ ⟨g, 2, none⟩ _ k h).trans ((Below.heap_setCell _ ⟨g, 1, none⟩ _ k h).trans ((Below.heap_setCell _ ⟨g, 0, none⟩ _ k h).trans c))))
theorem setVar_new {W : World} {g : Nat} {nm' tx' : ByteArray} {ty' i' u' : Int} (c : W.heap[g]? = some (varO nm' ty' i' u' tx')) (nm : ByteArray) (ty i u : Int) (tx : ByteArray) : (setVar W g nm ty i u tx).heap[g]? = some (varO nm ty i u tx) :=
  blk_put (cs := #[.string nm, .int .i64 ty, .int .i64 i, .int .u64 u, .string tx']) (blk_put (cs := #[.string nm, .int .i64 ty, .int .i64 i, .int .u64 u', .string tx']) (blk_put (cs := #[.string nm, .int .i64 ty, .int .i64 i', .int .u64 u', .string tx']) (blk_put (cs := #[.string nm, .int .i64 ty', .int .i64 i', .int .u64 u', .string tx']) (blk_put c 0 _ rfl) 1 _ rfl) 2 _ rfl) 3 _ rfl) 4 _ rfl
theorem setVar_below {W0 W : World} {g : Nat} (h : Below W0.heap.size W0 W) (hg : W0.heap.size ≤ g) (nm : ByteArray) (ty i u : Int) (tx : ByteArray) : Below W0.heap.size W0 (setVar W g nm ty i u tx) :=
  below_set (below_set (below_set (below_set (below_set h hg) hg) hg) hg) hg
/-- What holds behind 'out := impl.Var{..}'. -/
def PlainAt (w : World) (g : Nat) (nm : ByteArray) (ty i u : Int) (tx dt : ByteArray) (W : World) : Prop :=
  W.heap[w.heap.size]? = some (varO nm ty i u tx) ∧ W.heap[w.heap.size + 1]? = some (varO ⟨#[]⟩ 0 0 0 ⟨#[]⟩) ∧ W.heap[g]? = some (varO dt ty 0 0 ⟨#[]⟩) ∧ Below w.heap.size w W ∧ w.heap.size + 1 < g
theorem plainAt_call {w W w2 : World} {nm tx dt : ByteArray} {ty i u : Int} (hW : W.heap.size = w.heap.size + 2 ∨ w.heap.size + 2 ≤ W.heap.size) (h1 : W.heap[w.heap.size]? = some (varO nm ty i u tx)) (h2 : W.heap[w.heap.size + 1]? = some (varO ⟨#[]⟩ 0 0 0 ⟨#[]⟩)) (h3 : Below w.heap.size w W) (hb : Below W.drew.heap.size W.drew w2) :
    PlainAt w w2.heap.size nm ty i u tx dt (w2.alloc (varO dt ty 0 0 ⟨#[]⟩)) := by
  have hs := hb.size
  have hs' : W.heap.size ≤ w2.heap.size := hs
  refine ⟨blk_alloc (blk_below (w := W.drew) h1 hb) _, blk_alloc (blk_below (w := W.drew) h2 hb) _, blk_new _ _, (below_step (below_drew h3) hb).alloc ?_ _, ?_⟩
  · omega
  · omega
theorem plainAt_alloc {w W w2 : World} {nm tx dt : ByteArray} {ty i u : Int} (hW : w.heap.size + 2 ≤ W.heap.size) (h1 : W.heap[w.heap.size]? = some (varO nm ty i u tx)) (h2 : W.heap[w.heap.size + 1]? = some (varO ⟨#[]⟩ 0 0 0 ⟨#[]⟩)) (h3 : Below w.heap.size w W) (hb : Below (W.alloc (varO ⟨#[]⟩ 0 0 0 ⟨#[]⟩)).drew.heap.size (W.alloc (varO ⟨#[]⟩ 0 0 0 ⟨#[]⟩)).drew w2) :
    PlainAt w W.heap.size nm ty i u tx dt (setVar w2 W.heap.size dt ty 0 0 ⟨#[]⟩) := by
  refine ⟨setVar_heap (blk_below (blk_drew (blk_alloc h1 _)) hb) (by omega) _ _ _ _ _, setVar_heap (blk_below (blk_drew (blk_alloc h2 _)) hb) (by omega) _ _ _ _ _, setVar_new (blk_below (blk_drew (blk_new W _)) hb) _ _ _ _ _, setVar_below (below_step (below_drew (h3.alloc (by omega) _)) hb) (by omega) _ _ _ _ _, by omega⟩
theorem infoVar : (Tryd.prog.info? 24).map (·.size) = some 5 := by kernel_rfl
theorem plain_ret (fn : Func) {p : Tmp} (h : fn.results = #[.cell p 24]) {a : Act} {w W : World} {nm tx nm' tx' : ByteArray} {ty i u ty' i' u' : Int} (hp : a.tmps.getD p undef = .pointer (some ⟨w.heap.size + 1, 0, none⟩)) (hd : a.defers = [])
    (hr : W.heap[w.heap.size + 1]? = some (varO nm' ty' i' u' tx')) (hb : Below w.heap.size w W) :
    bodyPost Tryd.prog fn (fun e w' => e = .returned (varV nm ty i u tx) ∧ Below w.heap.size w w') .ret a (setVar W (w.heap.size + 1) nm ty i u tx) :=
  bodyPost_ret (results_cell_row h _ _ (w.heap.size + 1) 24 #[.string nm, .int .i64 ty, .int .i64 i, .int .u64 u, .string tx] (0, 0) _ hp (setVar_new hr _ _ _ _ _) Tryd.underlying24 rfl infoVar) hd ⟨rfl, setVar_below hb (by omega) _ _ _ _ _⟩
set_option maxRecDepth 100000 in
set_option maxHeartbeats 4000000 in
theorem specPlain_any (nm tx : ByteArray) (ty i u : Int) (arcs c : List Int) (i' u' : Int) (tx' : List Int) (hn : nm.size ≤ 2147483647) (hz : tx.size ≤ 2147483647) (ha : sArcs (bs nm) = (arcs, true)) (hc : Cont ty i u (bs tx) c i' u' tx') (w : World) :
    Calls Tryd.prog 25 #[varV nm ty i u tx] w fun e w' => e = .returned (varV (strOfNums (sDot arcs)) ty i' u' (strOfNums tx')) ∧ Below w.heap.size w w' := by
  have hbd := sArcs_bounds _ _ ha
  have hao := (sArcs_text _ _ ha).1
  have hl60 := hao.2.1
  have hD := fun A cc W => dotted_any arcs hbd (by omega) A cc W
  obtain ⟨dt, hdt⟩ : ∃ dt, dt = strOfNums (sDot arcs) := ⟨_, rfl⟩
  simp only [← hdt] at hD ⊢
  clear hdt
  have HC := Lib.hid hc
  clear hc
  go_enter Tryd.func25, Tryd.ntmps25
  go_wp2_with fail
  refine (specArcs_any nm hn _).mono ?_
  rintro e w1 ⟨v, rfl, ho, hb⟩
  rw [ha] at ho ⊢
  obtain ⟨A, cc, rfl, hcc, hC⟩ := Kd.R_reads ho
  have hws := hb.size
  simp only [World.size_alloc] at hws
  have hP : w1.heap[w.heap.size]? = some (varO nm ty i u tx) := blk_below (blk_alloc (blk_new w (varO nm ty i u tx)) _) hb
  have hR : w1.heap[w.heap.size + 1]? = some (varO ⟨#[]⟩ 0 0 0 ⟨#[]⟩) := by
    have := blk_below (blk_new (w.alloc (varO nm ty i u tx)) (varO ⟨#[]⟩ 0 0 0 ⟨#[]⟩)) hb
    rw [show (w.alloc (varO nm ty i u tx)).heap.size = w.heap.size + 1 by simp] at this
    exact this
  have hB : Below w.heap.size w w1 := below_step (((Below.refl w.heap.size w).alloc (Nat.le_refl _) _).alloc (by simp) _) hb
  have c1 : w1.cell? ⟨w.heap.size, 1, none⟩ = some (.int .i64 ty) := (blk_cell hP 1).trans rfl
  have HF := Lib.hid (And.intro hP (And.intro hR hB))
  clear hb hP hR hB ho
  go_wp2_with fail
  go_region_held3 (fun w' => w'.cell? ⟨w.heap.size, 1, none⟩ = some (.int .i64 ty)) (first | with_reducible exact cell_drew c1 | with_reducible exact cell_up (cell_drew c1) hb2 | with_reducible exact cell_drew (cell_alloc c1 _) | with_reducible exact cell_alloc (cell_up (cell_drew c1) hb2) _ | with_reducible exact cell_up (cell_drew (cell_alloc c1 _)) hb2 | with_reducible exact setVar_far (cell_up (cell_drew (cell_alloc c1 _)) hb2) (by show w.heap.size ≠ w1.heap.size; omega) _ _ _ _ _) ((go_at_call 32; refine (hD A cc _ (by first | exact hC | exact Kd.C_alloc hC _)).mono ?_; rintro e w2 ⟨rfl, hb2⟩; (first | (have hzz : w2.heap[w1.heap.size]? = some (varO ⟨#[]⟩ 0 0 0 ⟨#[]⟩) := blk_below (blk_drew (blk_new w1 (varO ⟨#[]⟩ 0 0 0 ⟨#[]⟩))) hb2; obtain ⟨z0, z1, z2, z3, z4, y0, y1, y2, y3, y4⟩ := var_cells hzz) | skip)))
  all_goals
    first
    | (have F := plainAt_call (dt := dt) (.inr hws) HF.out.1 HF.out.2.1 HF.out.2.2 hb2
       have F2 := Lib.hid F
       clear F
       generalize w2.alloc (.cells #[.string dt, .int .i64 ty, .int .i64 0, .int .u64 0, .string ⟨#[]⟩] 24) = W3 at F2 ⊢
       generalize w2.heap.size = g at F2 ⊢)
    | (have F := plainAt_alloc (dt := dt) hws HF.out.1 HF.out.2.1 HF.out.2.2 hb2
       have F2 : Hid (PlainAt w w1.heap.size nm ty i u tx dt (((((w2.setCell ⟨w1.heap.size, 0, none⟩ (.string dt)).setCell ⟨w1.heap.size, 1, none⟩ (.int .i64 ty)).setCell ⟨w1.heap.size, 2, none⟩ (.int .i64 0)).setCell ⟨w1.heap.size, 3, none⟩ (.int .u64 0)).setCell ⟨w1.heap.size, 4, none⟩ (.string ⟨#[]⟩))) := Lib.hid F
       clear F
       generalize (((((w2.setCell ⟨w1.heap.size, 0, none⟩ (.string dt)).setCell ⟨w1.heap.size, 1, none⟩ (.int .i64 ty)).setCell ⟨w1.heap.size, 2, none⟩ (.int .i64 0)).setCell ⟨w1.heap.size, 3, none⟩ (.int .u64 0)).setCell ⟨w1.heap.size, 4, none⟩ (.string ⟨#[]⟩)) = W3 at F2 ⊢
       generalize w1.heap.size = g at F2 ⊢)
  all_goals
    obtain ⟨p, r, o, hb3, hlt⟩ := F2.out
    clear F2 hD HF c1 hC
    try clear hb2
    try clear hHeld
    have hc := HC.out
    clear HC
    obtain ⟨p0, p1, p2, p3, p4, -, -, -, -, -⟩ := var_cells p
    obtain ⟨r0, r1, r2, r3, r4, rf0, rf1, rf2, rf3, rf4⟩ := var_cells r
    obtain ⟨o0, o1, o2, o3, o4, of0, of1, of2, of3, of4⟩ := var_cells o
    have HO := Lib.hid (And.intro p (And.intro r (And.intro o hb3)))
    clear p r o hb3
    have n1 : w.heap.size ≠ g := by omega
    have n2 : g ≠ w.heap.size := by omega
    have n3 : w.heap.size + 1 ≠ g := by omega
    have n4 : g ≠ w.heap.size + 1 := by omega
    have n5 : w.heap.size ≤ g := by omega
    cases hc with
    | int h h0 h1 =>
      subst h
      go_wp2
      exact plain_ret _ rfl rfl rfl (W := W3.setCell ⟨g, 2, none⟩ (.int .i64 i)) (blk_far HO.out.2.1 n3 _) (below_set HO.out.2.2.2 n5)
    | oct h h0 =>
      subst h
      go_wp2
      rw [strOfNums_bs]
      exact plain_ret _ rfl rfl rfl (W := W3.setCell ⟨g, 4, none⟩ (.string tx)) (blk_far HO.out.2.1 n3 _) (below_set HO.out.2.2.2 n5)
    | null h =>
      rcases h with rfl | rfl | rfl | rfl
      all_goals
        go_wp2
        exact plain_ret _ rfl rfl rfl (W := W3) HO.out.2.1 HO.out.2.2.2
    | addr h out ha =>
      subst h
      go_wp2
      rw [strOfNums_bs]
      exact plain_ret _ rfl rfl rfl (W := W3.setCell ⟨g, 4, none⟩ (.string tx)) (blk_far HO.out.2.1 n3 _) (below_set HO.out.2.2.2 n5)
    | u32 h h0 =>
      rcases h with rfl | rfl | rfl
      all_goals
        go_wp2
        exact plain_ret _ rfl rfl rfl (W := W3.setCell ⟨g, 3, none⟩ (.int .u64 u)) (blk_far HO.out.2.1 n3 _) (below_set HO.out.2.2.2 n5)
    | u64 h =>
      subst h
      go_wp2
      exact plain_ret _ rfl rfl rfl (W := W3.setCell ⟨g, 3, none⟩ (.int .u64 u)) (blk_far HO.out.2.1 n3 _) (below_set HO.out.2.2.2 n5)
    | oid h arcs2 ha2 =>
      subst h
      go_wp2_with fail
      refine (specArcs_any tx hz _).mono ?_
      rintro e w4 ⟨v4, rfl, ho4, hb4⟩
      rw [ha2] at ho4 ⊢
      obtain ⟨A4, cc4, rfl, hcc4, hC4⟩ := Kd.R_reads ho4
      have hbd4 := sArcs_bounds _ _ ha2
      have hl4 := (sArcs_text _ _ ha2).1.2.1
      have HO4 := Lib.hid (And.intro (blk_below HO.out.1 hb4) (And.intro (blk_below HO.out.2.1 hb4) (And.intro (blk_below HO.out.2.2.1 hb4) (below_step HO.out.2.2.2 hb4))))
      have HC4 := Lib.hid hC4
      clear p0 p1 p2 p3 p4 r0 r1 r2 r3 r4 rf0 rf1 rf2 rf3 rf4 o0 o1 o2 o3 o4 of0 of1 of2 of3 of4 hb4 ho4 HO hC4
      go_wp2_with fail
      refine (dotted_any arcs2 hbd4 (by omega) A4 cc4 _ HC4.out).mono ?_
      rintro e w5 ⟨rfl, hb5⟩
      have HO := Lib.hid (And.intro (blk_below HO4.out.1 hb5) (And.intro (blk_below HO4.out.2.1 hb5) (And.intro (blk_below HO4.out.2.2.1 hb5) (below_step HO4.out.2.2.2 hb5))))
      clear HO4 HC4 hb5 hbd4
      obtain ⟨r0, r1, r2, r3, r4, rf0, rf1, rf2, rf3, rf4⟩ := var_cells HO.out.2.1
      obtain ⟨o0, o1, o2, o3, o4, of0, of1, of2, of3, of4⟩ := var_cells HO.out.2.2.1
      go_wp2
      exact plain_ret _ rfl rfl rfl (W := w5.setCell ⟨g, 4, none⟩ (.string (strOfNums (sDot arcs2)))) (blk_far HO.out.2.1 n3 _) (below_set HO.out.2.2.2 n5)
end Go.Proofs.YtangjgclpipjdaaDoor
