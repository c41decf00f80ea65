/- The shelf's contract of strconv.AppendUint at base 10, laid at this program; in the words of the print. parseBase128Uint32, parseObjectIdentifier: the walks. spec.figures, spec.Dotted: the walks. Addresses: the reference's plain function, and what a text of an address looks like. No program in sight. spec.OfName: the plain function, and what content it takes. A variable (impl.Var) that comes in: its five fields. -/
import Derived.Shelf.Strconv.AppendUint10
import Derived.Test.YtangjgclpipjdaaDoorProg
import Derived.Test.YtangjgclpipjdaaDoorVA
import Derived.Test.YtangjgclpipjdaaDoorVB
import Derived.Lib.EndianBits
import Derived.ProofKit
import Derived.OpenShut
import Derived.ChangeVars
import Derived.Lib.SmallJoins
set_option linter.unusedVariables false
namespace Go.Proofs
open Go.Shelf
def Tryd.laysAU_ren : Go.Shelf.Ren := ⟨fun | 288 => 138 | 283 => 134 | 284 => 135 | 285 => 136 | 286 => 137 | 129 => 147 | 317 => 146 | 318 => 148 | 319 => 149 | 320 => 150 | 337 => 152 | 338 => 153 | n => n, fun | 37 => 26 | 53 => 22 | 3 => 3 | 4 => 4 | 9 => 9 | 171 => 222 | 0 => 0 | 173 => 224 | 212 => 232 | 51 => 36 | 5 => 5 | 20 => 20 | 213 => 233 | 46 => 38 | 232 => 241 | 233 => 242 | n => n, fun | 17 => 20 | 18 => 21 | 19 => 22 | n => n⟩
theorem Tryd.laysAU : Go.Proofs.LaysM.n288 Tryd.prog Tryd.laysAU_ren := {
  mixed := by kernel_rfl
  f129 := Tryd.func147.trans (congrArg some (by kernel_rfl))
  f283 := Tryd.func134.trans (congrArg some (by kernel_rfl))
  f284 := Tryd.func135.trans (congrArg some (by kernel_rfl))
  f285 := Tryd.func136.trans (congrArg some (by kernel_rfl))
  f286 := Tryd.func137.trans (congrArg some (by kernel_rfl))
  f288 := Tryd.func138.trans (congrArg some (by kernel_rfl))
  f317 := Tryd.func146.trans (congrArg some (by kernel_rfl))
  f318 := Tryd.func148.trans (congrArg some (by kernel_rfl))
  f319 := Tryd.func149.trans (congrArg some (by kernel_rfl))
  f320 := Tryd.func150.trans (congrArg some (by kernel_rfl))
  f337 := Tryd.func152.trans (congrArg some (by kernel_rfl))
  f338 := Tryd.func153.trans (congrArg some (by kernel_rfl))
  t0 := Tryd.underlying0
  a0 := Tryd.isAgg0
  z0 := Tryd.sizeOf0
  v0 := Tryd.zeroValue0
  t3 := Tryd.underlying3
  a3 := Tryd.isAgg3
  z3 := Tryd.sizeOf3
  v3 := Tryd.zeroValue3
  t4 := Tryd.underlying4
  a4 := Tryd.isAgg4
  z4 := Tryd.sizeOf4
  v4 := Tryd.zeroValue4
  t5 := Tryd.underlying5
  a5 := Tryd.isAgg5
  z5 := Tryd.sizeOf5
  v5 := Tryd.zeroValue5
  t9 := Tryd.underlying9
  a9 := Tryd.isAgg9
  z9 := Tryd.sizeOf9
  v9 := Tryd.zeroValue9
  t20 := Tryd.underlying20
  a20 := Tryd.isAgg20
  z20 := Tryd.sizeOf20
  v20 := Tryd.zeroValue20
  t37 := Tryd.underlying26
  a37 := Tryd.isAgg26
  z37 := Tryd.sizeOf26
  v37 := Tryd.zeroValue26
  t46 := Tryd.underlying38
  a46 := Tryd.isAgg38
  z46 := Tryd.sizeOf38
  v46 := Tryd.zeroValue38
  t51 := Tryd.underlying36
  a51 := Tryd.isAgg36
  z51 := Tryd.sizeOf36
  v51 := Tryd.zeroValue36
  t53 := Tryd.underlying22
  a53 := Tryd.isAgg22
  z53 := Tryd.sizeOf22
  v53 := Tryd.zeroValue22
  t171 := Tryd.underlying222
  a171 := Tryd.isAgg222
  z171 := Tryd.sizeOf222
  v171 := Tryd.zeroValue222
  t173 := Tryd.underlying224
  a173 := Tryd.isAgg224
  z173 := Tryd.sizeOf224
  v173 := Tryd.zeroValue224
  t212 := Tryd.underlying232
  a212 := Tryd.isAgg232
  z212 := Tryd.sizeOf232
  v212 := Tryd.zeroValue232
  t213 := Tryd.underlying233
  a213 := Tryd.isAgg233
  z213 := Tryd.sizeOf233
  t232 := Tryd.underlying241
  a232 := Tryd.isAgg241
  z232 := Tryd.sizeOf241
  v232 := Tryd.zeroValue241
  t233 := Tryd.underlying242
  a233 := Tryd.isAgg242
  z233 := Tryd.sizeOf242
  v233 := Tryd.zeroValue242
  g17 := by kernel_rfl
  g18 := by kernel_rfl
  g19 := by kernel_rfl
  i0 := by kernel_rfl
  i3 := by kernel_rfl
  i4 := by kernel_rfl
  i5 := by kernel_rfl
  i9 := by kernel_rfl
  i20 := by kernel_rfl
  i37 := by kernel_rfl
  i46 := by kernel_rfl
  i51 := by kernel_rfl
  i53 := by kernel_rfl
  i171 := by kernel_rfl
  i173 := by kernel_rfl
  i212 := by kernel_rfl
  i232 := by kernel_rfl
  i233 := by kernel_rfl
  m17 := by kernel_rfl
  m18 := by kernel_rfl
  m19 := by kernel_rfl }
end Go.Proofs
namespace Go.Proofs.YtangjgclpipjdaaDoor
open Go.RowKit Go.Proofs.YtangjgclpipjdaaDoorW.PrintWords Go.Proofs.YtangjgclpipjdaaDoorW.PrintLast Go.Proofs.YtangjgclpipjdaaDoorW.PrintMore

/-- The decimal figures of a number, as bytes. -/
def dec (u : Nat) : List Int := (Lib.decDigits u).map fun b => (b.toNat : Int)
theorem dec_cells (u : Nat) : Lib.byteCells (Lib.decDigits u) = (dec u).map (Value.int .u8) := by simp [Lib.byteCells, dec]
abbrev PowTab (w : World) : Prop := Lib.TabIs Tryd.prog w "internal/strconv.uint64pow10" .u64 Lib.pow10Tab
theorem PowTab.on {w w' : World} (h : PowTab w) (hb : Below w.heap.size w w') : PowTab w' := Lib.tabBelow_of_tabIs h w' hb

theorem appendUint_in (B u : Nat) (hu : u < 18446744073709551616) (v : Value) (xs : List Int) (w : World) (ho : OwnB w B v xs) (hB : B ≤ w.heap.size) (hl : xs.length ≤ 1000000) (ht : PowTab w) :
    Calls Tryd.prog 138 #[v, .int .u64 u, .int .i64 10] w fun e w' => ∃ v', e = .returned v' ∧ OwnB w' B v' (xs ++ dec u) ∧ Below B w w' := by
  have ho2 : w.ownsRow B 5 1 v xs.length (xs.map (Value.int .u8)) := Kd.own_of_R ho
  have fin : ∀ {w' : World} {v' : Value}, w'.ownsRow B 5 1 v' (xs.length + (Lib.decDigits u).length) (xs.map (Value.int .u8) ++ Lib.byteCells (Lib.decDigits u)) → OwnB w' B v' (xs ++ dec u) := by
    intro w' v' h
    refine Kd.R_of_own (enc := Value.int .u8) ?_ (fun _ _ => trivial)
    have e : encs (Value.int .u8) (xs ++ dec u) = xs.map (Value.int .u8) ++ Lib.byteCells (Lib.decDigits u) := by rw [dec_cells]; simp [encs]
    have e2 : (xs ++ dec u).length = xs.length + (Lib.decDigits u).length := by simp [dec]
    rw [e, e2]
    exact h
  by_cases h : u < 100
  · refine (Any.internal_strconv_AppendUint_10_small Tryd.laysAU B xs.length u h v _ w ho2 hB (by omega)).mono ?_
    rintro e w' ⟨v', rfl, h1, h2, -⟩
    exact ⟨v', rfl, fin h1, h2⟩
  · refine (Any.internal_strconv_AppendUint_10_big Tryd.laysAU B xs.length u (by omega) hu v _ w ho2 hB (by omega) ht).mono ?_
    rintro e w' ⟨v', rfl, h1, h2, -⟩
    exact ⟨v', rfl, fin h1, h2⟩
theorem appendUint_any (B u : Nat) (hu : u < 18446744073709551616) (v : Value) (xs : List Int) (w : World) (ho : OwnB w B v xs) (hB : B ≤ w.heap.size) (hl : xs.length ≤ 1000000) (ht : PowTab w) :
    Calls Tryd.prog 116 #[v, .int .u64 u, .int .i64 10] w fun e w' => ∃ v', e = .returned v' ∧ OwnB w' B v' (xs ++ dec u) ∧ Below B w w' := by
  have HH := Lib.hid (And.intro ho (And.intro hB (And.intro hl ht)))
  clear ho hB hl ht
  go_enter Tryd.func116, Tryd.ntmps116
  go_wp2_with fail
  refine (appendUint_in B u hu v xs w HH.out.1 HH.out.2.1 HH.out.2.2.1 HH.out.2.2.2).mono ?_
  rintro e w' ⟨v', rfl, h1, h2⟩
  go_wp2
  go_ret
  exact ⟨v', rfl, h1, h2⟩
end Go.Proofs.YtangjgclpipjdaaDoor
set_option linter.unusedVariables false
namespace Go.Proofs.YtangjgclpipjdaaDoor
open Go.RowKit Go.Proofs.YtangjgclpipjdaaDoorW.PrintWords Go.Proofs.YtangjgclpipjdaaDoorW.PrintLast Go.Proofs.YtangjgclpipjdaaDoorW.PrintMore

/-- The bytes of b128. -/
theorem b128_at (n : Int) (h0 : 0 ≤ n) (h1 : n ≤ 4294967295) : 1 ≤ (b128 n).length ∧ (b128 n).length ≤ 5 ∧ n < 128 ^ (b128 n).length ∧ ∀ k, k < (b128 n).length → rd (b128 n) (k : Nat) = n / 128 ^ ((b128 n).length - 1 - k) % 128 + (if k + 1 = (b128 n).length then 0 else 128) := by
  unfold b128
  by_cases c1 : n < 128
  · rw [if_pos c1]
    refine ⟨by simp, by simp, by simpa using c1, ?_⟩
    intro k hk
    obtain rfl : k = 0 := by simpa using hk
    simp [Go.Proofs.YtangjgclpipjdaaDoorW.PrintWords.rd]
    omega
  rw [if_neg c1]
  by_cases c2 : n < 16384
  · rw [if_pos c2]
    refine ⟨by simp, by simp, by simpa using c2, ?_⟩
    intro k hk
    have : k = 0 ∨ k = 1 := by simp at hk; omega
    rcases this with rfl | rfl <;> simp [Go.Proofs.YtangjgclpipjdaaDoorW.PrintWords.rd] <;> omega
  rw [if_neg c2]
  by_cases c3 : n < 2097152
  · rw [if_pos c3]
    refine ⟨by simp, by simp, by simpa using c3, ?_⟩
    intro k hk
    have : k = 0 ∨ k = 1 ∨ k = 2 := by simp at hk; omega
    rcases this with rfl | rfl | rfl <;> simp [Go.Proofs.YtangjgclpipjdaaDoorW.PrintWords.rd] <;> omega
  rw [if_neg c3]
  by_cases c4 : n < 268435456
  · rw [if_pos c4]
    refine ⟨by simp, by simp, by simpa using c4, ?_⟩
    intro k hk
    have : k = 0 ∨ k = 1 ∨ k = 2 ∨ k = 3 := by simp at hk; omega
    rcases this with rfl | rfl | rfl | rfl <;> simp [Go.Proofs.YtangjgclpipjdaaDoorW.PrintWords.rd] <;> omega
  rw [if_neg c4]
  refine ⟨by simp, by simp, by simp; omega, ?_⟩
  intro k hk
  have : k = 0 ∨ k = 1 ∨ k = 2 ∨ k = 3 ∨ k = 4 := by simp at hk; omega
  rcases this with rfl | rfl | rfl | rfl | rfl <;> simp [Go.Proofs.YtangjgclpipjdaaDoorW.PrintWords.rd] <;> omega

theorem u8_bit7b (b : Int) (h0 : 0 ≤ b) (h1 : b ≤ 255) : bits .and .u8 b 128 = if 128 ≤ b then 128 else 0 := by
  rw [u8_and b 128 h0 (by omega) (by omega) (by omega), show (128 : Int).toNat = 2 ^ 7 from rfl, nat_bit]
  split
  · have : b.toNat / 2 ^ 7 % 2 = 1 := by omega
    rw [this]; rfl
  · have : b.toNat / 2 ^ 7 % 2 = 0 := by omega
    rw [this]; rfl
theorem and127b (x : Int) (h0 : 0 ≤ x) (h1 : x < 256) : bits .and .u8 x 127 = x % 128 := by
  have := bits_mask .u8 8 (by decide) wraps_u8 7 (by decide) x h0 (by omega)
  simpa using this
theorem or_shl7 (m : Int) (h0 : 0 ≤ m) (h1 : m ≤ 4294967295) : bits .or .u64 (m / 128 * 128) (m % 128) = m := by
  rw [u64_or _ _ (by omega) (by omega) (by omega) (by omega), nat_join 7 _ _ (by omega) (by omega)]
  omega

set_option maxRecDepth 100000 in
theorem parseB128_any (A : Option Addr) (c : Nat) (xs : List Int) (w : World) (hr : Kd.C (Kd.int .u8) w A xs.length xs) (o : Nat) (n : Int) (h0 : 0 ≤ n) (h1 : n ≤ 4294967295) (rest : List Int) (h : xs.drop o = b128 n ++ rest) :
    Calls Tryd.prog 115 #[.slice A xs.length c, .int .i64 o] w fun e w' => e = .returned (.tuple #[.int .u32 n, .int .i64 ((o + (b128 n).length : Nat) : Int), .nilIface]) ∧ w = w' := by
  obtain ⟨l1, l5, hlt, hat⟩ := b128_at n h0 h1
  have hm := Kd.C_max hr
  have hlen : o + (b128 n).length ≤ xs.length := by
    have := congrArg List.length h
    rw [List.length_drop, List.length_append] at this
    omega
  have hbyte : ∀ k, k < (b128 n).length → rd xs ((o + k : Nat) : Int) = rd (b128 n) (k : Nat) := by
    intro k hk
    unfold Go.Proofs.YtangjgclpipjdaaDoorW.PrintWords.rd
    rw [Int.toNat_natCast, Int.toNat_natCast, List.getD_eq_getElem?_getD, List.getD_eq_getElem?_getD, ← List.getElem?_drop, h, List.getElem?_append_left hk]
  obtain ⟨ad, rfl, -⟩ := cell_at hr 0 (by omega)
  have cells : ∀ k : Nat, k < (b128 n).length → w.cell? (ad.add (o + k)) = some (.int .u8 (n / 128 ^ ((b128 n).length - 1 - k) % 128 + (if k + 1 = (b128 n).length then 0 else 128))) := by
    intro k hk
    obtain ⟨ad', e, hx'⟩ := cell_at hr (o + k) (by omega)
    injection e with e
    subst e
    rw [hx', hbyte k hk, hat k hk]
  have hml : xs.length ≤ maxLen := hm
  generalize (b128 n).length = L at *
  have HC := Lib.hid cells
  have HL := Lib.hid hlt
  clear cells hr h hat hbyte hlt hm
  simp only [maxLen] at hml
  go_enter Tryd.func115, Tryd.ntmps115
  go_wp2
  go_loop [7, 8, 9] (fun v7 v8 _ => ∃ k : Nat, k < L ∧ v8 = .int .i64 ((o + k : Nat) : Int) ∧ v7 = .int .u64 (n / 128 ^ (L - k))) (fun _ v8 _ => o + L - (intOf v8).toNat)
  case atStart => exact ⟨0, by omega, rfl, by rw [Nat.sub_zero, Int.ediv_eq_zero_of_lt h0 HL.out]⟩
  case round =>
    obtain ⟨k, hk, rfl, rfl⟩ := hrel
    have hcl := HC.out k hk
    have e : n / 128 ^ (L - k) = n / 128 ^ (L - 1 - k) / 128 := by
      rw [show L - k = (L - 1 - k) + 1 by omega, Int.pow_succ, Int.ediv_ediv, if_neg (fun hh => absurd hh.1 (Int.not_lt.2 (Int.le_of_lt (Int.pow_pos (by decide))))), Int.sub_zero]
    rw [e]
    have hnn : 0 ≤ n / 128 ^ (L - 1 - k) := Int.ediv_nonneg h0 (Int.le_of_lt (Int.pow_pos (by decide)))
    have hle : n / 128 ^ (L - 1 - k) ≤ n := Int.ediv_le_self _ h0
    have hlast : k + 1 = L → n / 128 ^ (L - 1 - k) = n := by
      intro hh
      rw [show L - 1 - k = 0 by omega]
      simp
    have hnext : n / 128 ^ (L - (k + 1)) = n / 128 ^ (L - 1 - k) := by rw [show L - (k + 1) = L - 1 - k by omega]
    have HN := Lib.hid (And.intro hlast hnext)
    clear e hlast hnext
    generalize n / 128 ^ (L - 1 - k) = m at *
    have e1 : IntKind.u64.wrap (m / 128 * 128) = m / 128 * 128 := wraps_u64 _ (by omega) (by omega)
    have e2 := or_shl7 m hnn (by omega)
    have hok : o + k < xs.length := by omega
    have hokt : (o + k < xs.length) = True := eq_true hok
    by_cases hl : k + 1 = L
    · rw [if_pos hl, Int.add_zero] at hcl
      have a1 := and127b (m % 128) (by omega) (by omega)
      rw [show m % 128 % 128 = m % 128 by omega] at a1
      have a2 := u8_bit7b (m % 128) (by omega) (by omega)
      rw [if_neg (by omega)] at a2
      have hmn := HN.out.1 hl
      subst hmn
      have HE := Lib.hid hl
      clear hl
      go_wp2
      go_ret3
      refine ⟨?_, rfl⟩
      have hL : ((o + L : Nat) : Int) = (o : Int) + k + 1 := by have := HE.out; omega
      rw [← hL]
      rfl
    · rw [if_neg hl] at hcl
      have a1 := and127b (m % 128 + 128) (by omega) (by omega)
      rw [show (m % 128 + 128) % 128 = m % 128 by omega] at a1
      have a2 := u8_bit7b (m % 128 + 128) (by omega) (by omega)
      rw [if_pos (by omega)] at a2
      go_wp2
      go_round
      case rel => exact ⟨k + 1, by omega, by go_num, by rw [HN.out.2]⟩
      case measure => simp [intOf]; omega

theorem make_own2 (w : World) (n : Nat) (hn : n ≤ 9000) : ∃ w', (Instr.makeSlice 26 (.int .i64 0) (.int .i64 (n : Int))).run Tryd.prog w = .ok (.slice (some ⟨w.heap.size, 0, none⟩) 0 n) w' ∧ OwnB w' w.heap.size (.slice (some ⟨w.heap.size, 0, none⟩) 0 n) [] ∧ Below w.heap.size w w' := by
  obtain ⟨i, hi, hz⟩ := Option.map_eq_some_iff.1 infoB
  obtain ⟨h3, h4, h5⟩ : i.zero = some (.int .u8 0) ∧ i.size = 1 ∧ i.bytes = 1 := by simpa using hz
  obtain ⟨w', hrun, r1, r2⟩ := run_make_own (P := Tryd.prog) w w.heap.size 26 5 i (.int .u8 0) 1 Tryd.underlying26 hi h3 h4 .i64 .i64 n (by rw [h5]; omega) (by simp [maxLen]; omega) (Nat.le_refl _)
  exact ⟨w', hrun, Kd.R_of_own (enc := Value.int .u8) r1 (fun _ _ => trivial), (Below.refl _ _).grown r2 (by simp) (by simp)⟩
/-- A name in dotted figures. -/
def sDot (arcs : List Int) : List Int := (arcs.map fun n => 46 :: dec n.toNat).flatten
theorem sDot_snoc (l : List Int) (a : Int) : sDot (l ++ [a]) = sDot l ++ [46] ++ dec a.toNat := by simp [sDot]
theorem lit_C (w : World) (ys : List Int) (n : Nat) (hn : ys.length = n) (h : ys.length ≤ 100) {cs : Array Value} (hc : cs.toList = ys.map (Value.int .u8)) : Kd.C (Kd.int .u8) (w.alloc (.cells cs 5)) (some ⟨w.heap.size, 0, none⟩) n ys := by
  subst hn
  obtain ⟨A, c, e, _, hC⟩ := Kd.R_reads (OwnB.lit w w.heap.size ys (Nat.le_refl _) (by omega) hc)
  injection e with e1 e2 e3
  rw [e1]
  exact hC

theorem appendUint_int (w0 : World) (n : Int) (h0 : 0 ≤ n) (h1 : n ≤ 4294967295) (v : Value) (xs : List Int) (w : World) (ho : OwnB w w0.heap.size v xs) (hb : Below w0.heap.size w0 w) (hl : xs.length ≤ 1000000) (ht : PowTab w0) :
    Calls Tryd.prog 116 #[v, .int .u64 n, .int .i64 10] w fun e w' => ∃ v', e = .returned v' ∧ Hid (OwnB w' w0.heap.size v' (xs ++ dec n.toNat) ∧ Below w0.heap.size w0 w') := by
  obtain ⟨u, rfl⟩ := Int.eq_ofNat_of_zero_le h0
  refine (appendUint_any w0.heap.size u (by omega) v xs w ho hb.size hl (PowTab.on ht hb)).mono ?_
  rintro e w' ⟨v', rfl, h1, h2⟩
  exact ⟨v', rfl, Lib.hid ⟨h1, hb.trans h2⟩⟩
theorem app_end {w W w2 : World} {v : Value} {xs : List Int} {o : Obj} (hb : Below w.heap.size w W) (ho : OwnB W w.heap.size v xs) (hg : (W.alloc o).grownBy w2 v.ownBlock) : Below w.heap.size w w2 :=
  (hb.alloc hb.size o).grown hg (by have := hb.size; simp; omega) (fun k hk => ((Kd.R_bound ho).1 k hk).2.1)
theorem dec_len (n : Int) (h0 : 0 ≤ n) (h1 : n ≤ 4294967295) : (dec n.toNat).length ≤ 20 := by
  unfold dec
  rw [List.length_map, Lib.decDigits_length]
  by_cases h : n.toNat = 0
  · rw [h, Lib.nDigits_small (by omega)]; omega
  · have := Lib.numDigits_eq n.toNat (by omega) (by omega)
    split at this <;> omega
theorem sDot_len (l : List Int) (h : ∀ x ∈ l, 0 ≤ x ∧ x ≤ 4294967295) : (sDot l).length ≤ 21 * l.length := by
  induction l with
  | nil => simp [sDot]
  | cons a l ih =>
    have ih := ih (fun x hx => h x (by simp [hx]))
    have := dec_len a (h a (by simp)).1 (h a (by simp)).2
    unfold sDot at ih ⊢
    simp only [List.map_cons, List.flatten_cons, List.length_append, List.length_cons]
    omega

set_option maxRecDepth 100000 in
set_option maxHeartbeats 4000000 in
theorem parseOid_any (A : Option Addr) (c : Nat) (a b : Int) (rest : List Int) (a0 : 0 ≤ a) (a2 : a ≤ 2) (b0 : 0 ≤ b) (b40 : b < 40) (hrest : ∀ x ∈ rest, 0 ≤ x ∧ x ≤ 4294967295) (hl : rest.length ≤ 300) (w : World) (hr : Kd.C (Kd.int .u8) w A (sName (a :: b :: rest)).length (sName (a :: b :: rest))) (ht : PowTab w) :
    Calls Tryd.prog 98 #[.slice A (sName (a :: b :: rest)).length c] w fun e w' => e = .returned (.tuple #[.string (strOfNums (sDot (a :: b :: rest))), .nilIface]) ∧ Below w.heap.size w w' := by
  obtain ⟨xs, hxs⟩ : ∃ xs, xs = sName (a :: b :: rest) := ⟨_, rfl⟩
  have hxl : xs.length ≤ 2000 := by
    rw [hxs]
    have := sName_len (a :: b :: rest)
    simp at this
    omega
  have hx1 : xs = (40 * a + b) :: b128s rest := by
    rw [hxs]
    have : (40 * a + b) % 256 = 40 * a + b := by omega
    show ((40 * a + b) % 256) :: b128s rest = _
    rw [this]
  have hv : b128 (40 * a + b) = [40 * a + b] := by unfold b128; rw [if_pos (by omega)]
  have hpos : 1 ≤ xs.length := by rw [hx1]; simp
  rw [← hxs] at hr ⊢
  obtain ⟨w1, hmk, ho1, hb1⟩ := make_own2 w (xs.length * 4 + 1) (by omega)
  rw [show ((xs.length * 4 + 1 : Nat) : Int) = (xs.length : Int) * 4 + 1 by omega] at hmk
  have hp1 := parseB128_any A c xs w1 (Kd.C_below hr hb1) 0 (40 * a + b) (by omega) (by omega) (b128s rest) (by rw [hv]; exact hx1)
  rw [hv] at hp1
  have HH := Lib.hid (And.intro hxs (And.intro hx1 (And.intro ho1 (And.intro hb1 (And.intro hp1 (And.intro hr (And.intro ht hrest)))))))
  have d0 : ((xs.length : Int) == 0) = false := beq_eq_false_iff_ne.2 (by omega)
  clear hxs hx1 ho1 hb1 hp1 hr ht hrest hv
  go_enter Tryd.func98, Tryd.ntmps98
  go_wp2_with fail
  refine HH.out.2.2.2.2.1.mono ?_
  rintro e w' ⟨rfl, rfl⟩
  have hvv : 0 ≤ 40 * a + b ∧ 40 * a + b < 120 := by omega
  have f1 : (40 * a + b) / 40 = a := by omega
  have f2 : (40 * a + b) % 40 = b := by omega
  generalize hv : 40 * a + b = v at *
  have ho1 := HH.out.2.2.1
  have hb1 := HH.out.2.2.2.1
  have H1 := Lib.hid (And.intro ho1 hb1)
  have HV := Lib.hid hv
  have w1s := hb1.size
  clear ho1 hb1 hv
  by_cases h80 : v < 80
  · go_wp2_with (at_builtin; refine app_bytes rfl (.tmp 25) (.tmp 26) 26 rfl Tryd.underlying26 infoB w.heap.size (.slice (some ⟨w.heap.size, 0, none⟩) 0 (xs.length * 4 + 1)) [] [46] (some ⟨w1.heap.size, 0, none⟩) 1 1 rfl rfl (OwnB.alloc H1.out.1 _) (lit_C w1 [46] 1 rfl (by simp) (by rfl)) (by simp; omega) (by simp) ?_; intro v2 w2 ho2 hg2 hat2)
    have H2 := Lib.hid (And.intro ho2 (app_end H1.out.2 H1.out.1 hg2))
    clear ho2 hg2 hat2
    refine (appendUint_int w a a0 (by omega) v2 _ w2 H2.out.1 H2.out.2 (by simp) HH.out.2.2.2.2.2.2.1).mono ?_
    rintro e w3 ⟨v3, rfl, H3⟩
    go_wp2_with (at_builtin; refine app_bytes rfl (.tmp 35) (.tmp 36) 26 rfl Tryd.underlying26 infoB w.heap.size v3 ([] ++ [46] ++ dec a.toNat) [46] (some ⟨w3.heap.size, 0, none⟩) 1 1 rfl rfl (OwnB.alloc H3.out.1 _) (lit_C w3 [46] 1 rfl (by simp) (by rfl)) (by have := H3.out.2.size; simp; omega) (by have := dec_len a a0 (by omega); simp; omega) ?_; intro v4 w4 ho4 hg4 hat4)
    have H4 := Lib.hid (And.intro ho4 (app_end H3.out.2 H3.out.1 hg4))
    clear ho4 hg4 hat4
    refine (appendUint_int w b b0 (by omega) v4 _ w4 H4.out.1 H4.out.2 (by have := dec_len a a0 (by omega); simp; omega) HH.out.2.2.2.2.2.2.1).mono ?_
    rintro e w5 ⟨v5, rfl, H5⟩
    have H := Lib.hid (show OwnB w5 w.heap.size v5 (sDot [a, b]) ∧ Below w.heap.size w w5 from ⟨by have := H5.out.1; simpa [sDot] using this, H5.out.2⟩)
    clear H5 H4 H3 H2 H1
    go_wp2
    go_loopg [4, 5, 6, 7] rest.length (fun k u4 _ u6 u7 wr => ∃ pre post : List Int, u6 = .int .i64 ((1 + (b128s pre).length : Nat) : Int) ∧ u7 = .nilIface ∧ Hid (rest = pre ++ post ∧ k = post.length ∧ OwnB wr w.heap.size u4 (sDot (a :: b :: pre)) ∧ Below w.heap.size w wr))
    case atStart => exact ⟨[], rest, rfl, rfl, Lib.hid ⟨rfl, rfl, H.out⟩⟩
    case round =>
      obtain ⟨pre, post, rfl, rfl, HR⟩ := hrel
      have hdr : xs.drop (1 + (b128s pre).length) = b128s post := by
        rw [HH.out.2.1, HR.out.1]
        simp [b128s, Nat.add_comm 1]
      clear H
      cases post with
      | nil =>
        have hlen : ((1 + (b128s pre).length : Nat) : Int) = xs.length := by
          rw [HH.out.2.1, HR.out.1]; simp; omega
        rw [hlen]
        clear hdr hlen
        have hcs := HR.out.2.2.1.string (P := Tryd.prog) Tryd.underlying26 Tryd.underlying5 Tryd.underlying9
        go_wp2
        go_ret2
        refine ⟨?_, HR.out.2.2.2⟩
        have hre : rest = pre := by have := HR.out.1; simpa using this
        rw [hre]
        rfl
      | cons n post' =>
        have hn : 0 ≤ n ∧ n ≤ 4294967295 := HH.out.2.2.2.2.2.2.2 n (by rw [HR.out.1]; simp)
        have hb1 := b128_at n hn.1 hn.2
        have hsl : (sDot (a :: b :: pre)).length ≤ 21 * (2 + pre.length) := by
          have := sDot_len (a :: b :: pre) (by
            intro x hx
            rcases List.mem_cons.1 hx with rfl | hx
            · omega
            rcases List.mem_cons.1 hx with rfl | hx
            · omega
            exact HH.out.2.2.2.2.2.2.2 x (by rw [HR.out.1]; simp [hx]))
          simp at this ⊢
          omega
        have hpl : pre.length ≤ 300 := by have := congrArg List.length HR.out.1; simp at this; omega
        have hsl2 : (sDot (a :: b :: pre)).length ≤ 7000 := by omega
        rw [b128s_cons] at hdr
        have hoff : ((1 + (b128s pre).length : Nat) : Int) < xs.length := by
          have := congrArg List.length hdr
          rw [List.length_drop, List.length_append] at this
          omega
        obtain ⟨off, hof⟩ : ∃ off : Nat, off = 1 + (b128s pre).length := ⟨_, rfl⟩
        rw [← hof] at hdr hoff ⊢
        have hp := fun W hC => parseB128_any A c xs W hC off n hn.1 hn.2 (b128s post') hdr
        have HP := Lib.hid (And.intro hp hof)
        have hn0 := hn.1
        have hn1 := hn.2
        clear hdr hb1 hsl hp hof hn
        go_wp2_with (at_builtin; refine app_bytes rfl (.tmp 55) (.tmp 56) 26 rfl Tryd.underlying26 infoB w.heap.size u4 (sDot (a :: b :: pre)) [46] (some ⟨wr.heap.size, 0, none⟩) 1 1 rfl rfl (OwnB.alloc HR.out.2.2.1 _) (lit_C wr [46] 1 rfl (by simp) (by rfl)) (by have := HR.out.2.2.2.size; simp; omega) (by omega) ?_; intro v6 w6 ho6 hg6 hat6)
        have H6 := Lib.hid (And.intro ho6 (app_end HR.out.2.2.2 HR.out.2.2.1 hg6))
        clear ho6 hg6 hat6
        refine (HP.out.1 _ (Kd.C_below HH.out.2.2.2.2.2.1 H6.out.2)).mono ?_
        rintro e w7 ⟨rfl, rfl⟩
        go_wp2_with fail
        refine (appendUint_int w n hn0 hn1 v6 _ w6 H6.out.1 H6.out.2 (by simp; omega) HH.out.2.2.2.2.2.2.1).mono ?_
        rintro e w8 ⟨v8, rfl, H8⟩
        go_wp2
        go_roundg post'.length
        case measure =>
          have := HR.out.2.1
          simp at this
          omega
        case rel =>
          refine ⟨pre ++ [n], post', ?_, rfl, Lib.hid ⟨by rw [HR.out.1]; simp, rfl, ?_, H8.out.2⟩⟩
          · rw [b128s_snoc, List.length_append, HP.out.2]
            congr 1
            omega
          · have := H8.out.1
            rw [show a :: b :: (pre ++ [n]) = (a :: b :: pre) ++ [n] from rfl, sDot_snoc]
            exact this
  · have f3 : v - 80 = b := by have := HV.out; omega
    have f4 : a = 2 := by have := HV.out; omega
    have HA := Lib.hid f4
    clear f1 f2 f4
    go_wp2_with (first | (at_builtin; refine app_bytes rfl (.tmp 25) (.tmp 26) 26 rfl Tryd.underlying26 infoB w.heap.size (.slice (some ⟨w.heap.size, 0, none⟩) 0 (xs.length * 4 + 1)) [] [46] (some ⟨w1.heap.size, 0, none⟩) 1 1 rfl rfl (OwnB.alloc H1.out.1 _) (lit_C w1 [46] 1 rfl (by simp) (by rfl)) (by simp; omega) (by simp) ?_; intro v2 w2 ho2 hg2 hat2; have H2 := Lib.hid (And.intro ho2 (app_end H1.out.2 H1.out.1 hg2)); clear ho2 hg2 hat2) | (at_builtin; refine app_bytes rfl (.tmp 43) (.tmp 44) 26 rfl Tryd.underlying26 infoB w.heap.size v2 ([] ++ [46]) [50, 46] (some ⟨w2.heap.size, 0, none⟩) 2 2 rfl rfl (OwnB.alloc H2.out.1 _) (lit_C w2 [50, 46] 2 rfl (by simp) (by rfl)) (by have := H2.out.2.size; simp; omega) (by simp) ?_; intro v4 w4 ho4 hg4 hat4; have H4 := Lib.hid (And.intro ho4 (app_end H2.out.2 H2.out.1 hg4)); clear ho4 hg4 hat4))
    refine (appendUint_int w b b0 (by omega) v4 _ w4 H4.out.1 H4.out.2 (by simp) HH.out.2.2.2.2.2.2.1).mono ?_
    rintro e w5 ⟨v5, rfl, H5⟩
    have e2 : dec 2 = [50] := by simp [dec, Lib.decDigits_one]
    have hE : OwnB w5 w.heap.size v5 (sDot [a, b]) := by
      have := H5.out.1
      rw [HA.out]
      simpa [sDot, e2] using this
    have H := Lib.hid (And.intro hE H5.out.2)
    clear hE e2
    clear H5 H4 H2 H1
    go_wp2
    go_loopg [4, 5, 6, 7] rest.length (fun k u4 _ u6 u7 wr => ∃ pre post : List Int, u6 = .int .i64 ((1 + (b128s pre).length : Nat) : Int) ∧ u7 = .nilIface ∧ Hid (rest = pre ++ post ∧ k = post.length ∧ OwnB wr w.heap.size u4 (sDot (a :: b :: pre)) ∧ Below w.heap.size w wr))
    case atStart => exact ⟨[], rest, rfl, rfl, Lib.hid ⟨rfl, rfl, H.out⟩⟩
    case round =>
      obtain ⟨pre, post, rfl, rfl, HR⟩ := hrel
      have hdr : xs.drop (1 + (b128s pre).length) = b128s post := by
        rw [HH.out.2.1, HR.out.1]
        simp [b128s, Nat.add_comm 1]
      clear H
      cases post with
      | nil =>
        have hlen : ((1 + (b128s pre).length : Nat) : Int) = xs.length := by
          rw [HH.out.2.1, HR.out.1]; simp; omega
        rw [hlen]
        clear hdr hlen
        have hcs := HR.out.2.2.1.string (P := Tryd.prog) Tryd.underlying26 Tryd.underlying5 Tryd.underlying9
        go_wp2
        go_ret2
        refine ⟨?_, HR.out.2.2.2⟩
        have hre : rest = pre := by have := HR.out.1; simpa using this
        rw [hre]
        rfl
      | cons n post' =>
        have hn : 0 ≤ n ∧ n ≤ 4294967295 := HH.out.2.2.2.2.2.2.2 n (by rw [HR.out.1]; simp)
        have hb1 := b128_at n hn.1 hn.2
        have hsl : (sDot (a :: b :: pre)).length ≤ 21 * (2 + pre.length) := by
          have := sDot_len (a :: b :: pre) (by
            intro x hx
            rcases List.mem_cons.1 hx with rfl | hx
            · omega
            rcases List.mem_cons.1 hx with rfl | hx
            · omega
            exact HH.out.2.2.2.2.2.2.2 x (by rw [HR.out.1]; simp [hx]))
          simp at this ⊢
          omega
        have hpl : pre.length ≤ 300 := by have := congrArg List.length HR.out.1; simp at this; omega
        have hsl2 : (sDot (a :: b :: pre)).length ≤ 7000 := by omega
        rw [b128s_cons] at hdr
        have hoff : ((1 + (b128s pre).length : Nat) : Int) < xs.length := by
          have := congrArg List.length hdr
          rw [List.length_drop, List.length_append] at this
          omega
        obtain ⟨off, hof⟩ : ∃ off : Nat, off = 1 + (b128s pre).length := ⟨_, rfl⟩
        rw [← hof] at hdr hoff ⊢
        have hp := fun W hC => parseB128_any A c xs W hC off n hn.1 hn.2 (b128s post') hdr
        have HP := Lib.hid (And.intro hp hof)
        have hn0 := hn.1
        have hn1 := hn.2
        clear hdr hb1 hsl hp hof hn
        go_wp2_with (at_builtin; refine app_bytes rfl (.tmp 55) (.tmp 56) 26 rfl Tryd.underlying26 infoB w.heap.size u4 (sDot (a :: b :: pre)) [46] (some ⟨wr.heap.size, 0, none⟩) 1 1 rfl rfl (OwnB.alloc HR.out.2.2.1 _) (lit_C wr [46] 1 rfl (by simp) (by rfl)) (by have := HR.out.2.2.2.size; simp; omega) (by omega) ?_; intro v6 w6 ho6 hg6 hat6)
        have H6 := Lib.hid (And.intro ho6 (app_end HR.out.2.2.2 HR.out.2.2.1 hg6))
        clear ho6 hg6 hat6
        refine (HP.out.1 _ (Kd.C_below HH.out.2.2.2.2.2.1 H6.out.2)).mono ?_
        rintro e w7 ⟨rfl, rfl⟩
        go_wp2_with fail
        refine (appendUint_int w n hn0 hn1 v6 _ w6 H6.out.1 H6.out.2 (by simp; omega) HH.out.2.2.2.2.2.2.1).mono ?_
        rintro e w8 ⟨v8, rfl, H8⟩
        go_wp2
        go_roundg post'.length
        case measure =>
          have := HR.out.2.1
          simp at this
          omega
        case rel =>
          refine ⟨pre ++ [n], post', ?_, rfl, Lib.hid ⟨by rw [HR.out.1]; simp, rfl, ?_, H8.out.2⟩⟩
          · rw [b128s_snoc, List.length_append, HP.out.2]
            congr 1
            omega
          · have := H8.out.1
            rw [show a :: b :: (pre ++ [n]) = (a :: b :: pre) ++ [n] from rfl, sDot_snoc]
            exact this
end Go.Proofs.YtangjgclpipjdaaDoor
set_option linter.unusedVariables false
namespace Go.Proofs.YtangjgclpipjdaaDoor
open Go.RowKit Go.Proofs.YtangjgclpipjdaaDoorW.PrintWords Go.Proofs.YtangjgclpipjdaaDoorW.PrintLast Go.Proofs.YtangjgclpipjdaaDoorW.PrintMore

theorem str_app (l m : List Int) : strOfNums l ++ strOfNums m = strOfNums (l ++ m) := by
  unfold strOfNums
  apply ByteArray.ext
  simp [ByteArray.data_append]
theorem dec_step (m : Nat) : dec m = (if m / 10 = 0 then [] else dec (m / 10)) ++ [((48 + m % 10 : Nat) : Int)] := by
  have hd : ((UInt8.ofNat (48 + m % 10)).toNat : Int) = ((48 + m % 10 : Nat) : Int) := by
    rw [UInt8.toNat_ofNat']
    omega
  unfold dec
  rw [Lib.decDigits]
  by_cases h : m < 10
  · rw [dif_pos h, if_pos (by omega)]
    have e : m % 10 = m := by omega
    rw [e] at hd ⊢
    simpa using hd
  · rw [dif_neg h, if_neg (by omega), List.map_append]
    simp only [List.map_cons, List.map_nil]
    rw [hd]

set_option maxRecDepth 100000 in
theorem figures_any (n : Int) (h0 : 0 ≤ n) (h1 : n ≤ 4294967295) (w : World) :
    Calls Tryd.prog 34 #[.int .u64 n] w fun e w' => e = .returned (.string (strOfNums (dec n.toNat))) ∧ Below w.heap.size w w' := by
  have HN := Lib.hid (And.intro h0 h1)
  clear h0 h1
  go_enter Tryd.func34, Tryd.ntmps34
  go_wp2
  go_loopg [0, 3] n.toNat (fun k v0 v3 wr => ∃ (m : Nat) (l : List Int), v0 = .int .u64 m ∧ v3 = .string (strOfNums l) ∧ Hid (k = m ∧ (m : Int) ≤ n ∧ dec n.toNat = dec m ++ l ∧ l.length + m ≤ 5000000000 ∧ Below w.heap.size w wr))
  case atStart =>
    have := HN.out
    exact ⟨n.toNat, [], by rw [Int.toNat_of_nonneg this.1], rfl, Lib.hid ⟨rfl, by omega, by simp, by simp; omega, Below.refl _ _⟩⟩
  case round =>
    obtain ⟨m, l, rfl, rfl, HR⟩ := hrel
    have hm : (m : Int) ≤ 4294967295 := by have := HN.out; have := HR.out.2.1; omega
    have e1 : IntKind.u64.wrap (48 + (m : Int) % 10) = 48 + (m : Int) % 10 := wraps_u64 _ (by omega) (by omega)
    have e2 : (48 + (m : Int) % 10) % 256 = 48 + (m : Int) % 10 := by omega
    have e3 : ((48 + m % 10 : Nat) : Int) = 48 + (m : Int) % 10 := by omega
    have hds := dec_step m
    rw [e3] at hds
    have HD := Lib.hid hds
    have hcv := (OwnB.lit wr wr.heap.size [48 + (m : Int) % 10] (Nat.le_refl _) (by simp) (cs := #[Value.int .u8 (48 + (m : Int) % 10)]) (by rfl)).string (P := Tryd.prog) Tryd.underlying26 Tryd.underlying5 Tryd.underlying9
    simp only [List.length_cons, List.length_nil, Nat.zero_add] at hcv
    have hap := str_app [48 + (m : Int) % 10] l
    have hsz : (strOfNums [48 + (m : Int) % 10]).size + (strOfNums l).size ≤ 9223372036854775807 := by
      have := HR.out.2.2.2.1
      simp [strOfNums, ByteArray.size]
      omega
    clear hds e3
    by_cases hz : m < 10
    · have hz2 : (m : Int) / 10 = 0 := by omega
      go_wp2
      go_ret
      have hd := HD.out
      rw [if_pos (by omega)] at hd
      refine ⟨?_, HR.out.2.2.2.2.alloc (HR.out.2.2.2.2).size _⟩
      rw [HR.out.2.2.1, hd]
      rfl
    · go_wp2
      go_roundg (m / 10)
      case measure =>
        have := HR.out.1
        omega
      case rel =>
        have hd := HD.out
        rw [if_neg (by omega)] at hd
        refine ⟨m / 10, (48 + (m : Int) % 10) :: l, by rw [show ((m / 10 : Nat) : Int) = (m : Int) / 10 by omega], rfl, Lib.hid ⟨rfl, by have := HR.out.2.1; omega, ?_, by have := HR.out.2.2.2.1; simp; omega, HR.out.2.2.2.2.alloc (HR.out.2.2.2.2).size _⟩⟩
        rw [HR.out.2.2.1, hd]
        simp

set_option maxRecDepth 100000 in
theorem dotted_any (arcs : List Int) (hx : ∀ x ∈ arcs, 0 ≤ x ∧ x ≤ 4294967295) (hl : arcs.length ≤ 1000) (A : Option Addr) (c : Nat) (w : World) (hC : Kd.C (Kd.int .u64) w A arcs.length arcs) :
    Calls Tryd.prog 32 #[.slice A arcs.length c] w fun e w' => e = .returned (.string (strOfNums (sDot arcs))) ∧ Below w.heap.size w w' := by
  have HH := Lib.hid (And.intro hx hC)
  clear hx hC
  go_enter Tryd.func32, Tryd.ntmps32
  go_wp2
  go_loopg [3, 8] arcs.length (fun k v3 v8 wr => ∃ i : Nat, v8 = .int .i64 i ∧ v3 = .string (strOfNums (sDot (arcs.take i))) ∧ Hid (i ≤ arcs.length ∧ k = arcs.length - i ∧ Below w.heap.size w wr))
  case atStart => exact ⟨0, rfl, rfl, Lib.hid ⟨Nat.zero_le _, rfl, Below.refl _ _⟩⟩
  case round =>
    obtain ⟨i, rfl, rfl, HR⟩ := hrel
    by_cases hi : (i : Int) < arcs.length
    · have hil : i < arcs.length := by omega
      obtain ⟨x0, x1⟩ := HH.out.1 arcs[i] (List.getElem_mem hil)
      obtain ⟨ad, rfl, g⟩ := Kd.at_int (Kd.C_below HH.out.2 HR.out.2.2) i (by omega) hi
      have hrd : rd arcs i = arcs[i] := by
        unfold Go.Proofs.YtangjgclpipjdaaDoorW.PrintWords.rd
        rw [Int.toNat_natCast, List.getD_eq_getElem?_getD, List.getElem?_eq_getElem hil]
        rfl
      rw [hrd, Int.toNat_natCast] at g
      have hst : sDot (arcs.take (i + 1)) = sDot (arcs.take i) ++ (46 :: dec (arcs[i]).toNat) := by
        rw [List.take_succ_eq_append_getElem hil, sDot_snoc]
        simp
      have hsl := sDot_len (arcs.take i) (fun x hx => HH.out.1 x (List.mem_of_mem_take hx))
      have hdl := dec_len arcs[i] x0 x1
      have hil' : (i < arcs.length) = True := eq_true hil
      rw [List.length_take] at hsl
      have hsl2 : (sDot (arcs.take i)).length ≤ 21000 := by omega
      clear hrd hsl
      generalize arcs[i] = x at *
      clear hil
      generalize hs : sDot (arcs.take i) = s at *
      generalize hs2 : sDot (arcs.take (i + 1)) = s2 at *
      subst hst
      have p1 : (ByteArray.mk #[46]) ++ strOfNums (dec x.toNat) = strOfNums (46 :: dec x.toNat) := str_app [46] _
      have p2 := str_app s (46 :: dec x.toNat)
      have q1 : (ByteArray.mk #[46]).size + (strOfNums (dec x.toNat)).size ≤ 9223372036854775807 := by simp [strOfNums, ByteArray.size]; omega
      have q2 : (strOfNums s).size + (strOfNums (46 :: dec x.toNat)).size ≤ 9223372036854775807 := by simp [strOfNums, ByteArray.size]; omega
      have HS := Lib.hid (And.intro hs hs2)
      clear hs hs2 hdl hsl2
      go_wp2_with fail
      refine (figures_any x x0 x1 wr).mono ?_
      rintro e w2 ⟨rfl, hb2⟩
      have HB := Lib.hid (below_step HR.out.2.2 hb2)
      clear hb2
      go_wp2
      go_roundg (arcs.length - (i + 1))
      case measure =>
        have := HR.out.2.1
        omega
      case rel => exact ⟨i + 1, by go_num, by rw [HS.out.2], Lib.hid ⟨by omega, rfl, HB.out⟩⟩
    · have HE := HR.out
      have hie : i = arcs.length := by omega
      rw [hie, List.take_length]
      clear hi HE
      go_wp2
      go_ret
      exact ⟨rfl, HR.out.2.2⟩
end Go.Proofs.YtangjgclpipjdaaDoor
set_option linter.unusedVariables false
namespace Go.Proofs.YtangjgclpipjdaaDoor
open Go.RowKit Go.Proofs.YtangjgclpipjdaaDoorW.PrintWords Go.Proofs.YtangjgclpipjdaaDoorW.PrintLast Go.Proofs.YtangjgclpipjdaaDoorW.PrintMore

/-- The numbers between the points; none where the text is no such. -/
def addrGo : List Int → List Int → Int → Bool → Option (List Int)
  | [], out, n, some_ => if some_ = true ∧ out.length ≠ 4 then some (out ++ [n]) else none
  | c :: l, out, n, some_ =>
    if c = 46 then (if some_ = true ∧ out.length ≠ 4 then addrGo l (out ++ [n]) 0 false else none)
    else if c < 48 ∨ c > 57 ∨ (some_ = true ∧ n = 0) ∨ 10 * n + (c - 48) > 255 then none
    else addrGo l out (10 * n + (c - 48)) true
def finD : Option (List Int) → List Int × Bool
  | none => ([], false)
  | some out => (out, decide (out.length = 4))
def sAddr (s : List Int) : List Int × Bool := finD (addrGo s [] 0 false)

/-- Figures without noughts ahead are those of their number. -/
theorem figs_dec (m : Nat) : ∀ (ds : List Int), ds.length ≤ m → ds ≠ [] → (∀ d ∈ ds, 48 ≤ d ∧ d ≤ 57) → (ds.head? = some 48 → ds.length = 1) → ds = dec (figs ds 0).toNat := by
  induction m with
  | zero => intro ds h hn; cases ds; exact absurd rfl hn; simp at h
  | succ m ih =>
    intro ds hm hn hd h0
    rcases List.eq_nil_or_concat ds with rfl | ⟨l, c, rfl⟩
    · exact absurd rfl hn
    rw [List.concat_eq_append] at *
    have hc := hd c (by simp)
    rw [figs_snoc]
    have hl : ∀ d ∈ l, 48 ≤ d ∧ d ≤ 57 := fun d h => hd d (by simp [h])
    by_cases hnil : l = []
    · subst hnil
      simp only [figs, List.nil_append]
      rw [dec_step, if_pos (by omega)]
      simp only [List.nil_append]
      congr 1
      omega
    · have h1 : l.head? = some 48 → l.length = 1 := by
        intro h
        cases l with
        | nil => simp at h
        | cons a t =>
          simp at h
          subst h
          have := h0 (by simp)
          simp at this
      have h2 : l.head? ≠ some 48 := by
        intro h
        cases l with
        | nil => simp at h
        | cons a t =>
          simp at h
          subst h
          have := h0 (by simp)
          simp at this
      have hi := ih l (by simp at hm; omega) hnil hl h1
      have hpos : 1 ≤ figs l 0 := by
        cases l with
        | nil => exact absurd rfl hnil
        | cons a t =>
          have ha := hl a (by simp)
          have hne : a ≠ 48 := by intro h; apply h2; simp [h]
          simp only [figs]
          have := figs_mono t (fun d h => hl d (by simp [h])) (10 * 0 + (a - 48)) (by omega)
          omega
      rw [dec_step, if_neg (by omega)]
      rw [show (10 * figs l 0 + (c - 48)).toNat / 10 = (figs l 0).toNat by omega, ← hi]
      congr 2
      omega

/-- d0.d1.d2.. -/
def dots : List Int → List Int
  | [] => []
  | [a] => dec a.toNat
  | a :: b :: l => dec a.toNat ++ 46 :: dots (b :: l)
theorem addrGo_dots (l : List Int) : ∀ (out : List Int) (n : Int) (sm : Bool) (pre r : List Int), addrGo l out n sm = some r → (∀ d ∈ pre, 48 ≤ d ∧ d ≤ 57) → figs pre 0 = n → (sm = true ↔ pre ≠ []) → (pre.head? = some 48 → pre.length = 1) → n ≤ 255 →
    ∃ post, r = out ++ post ∧ post ≠ [] ∧ pre ++ l = dots post ∧ (∀ x ∈ post, 0 ≤ x ∧ x ≤ 255) := by
  have hdec : ∀ (pre : List Int), (∀ d ∈ pre, 48 ≤ d ∧ d ≤ 57) → pre ≠ [] → (pre.head? = some 48 → pre.length = 1) → pre = dec (figs pre 0).toNat := fun pre h1 h2 h3 => figs_dec pre.length pre (Nat.le_refl _) h2 h1 h3
  induction l with
  | nil =>
    intro out n sm pre r h hd hf hs h0 hn
    simp only [addrGo] at h
    by_cases hc : sm = true ∧ out.length ≠ 4
    · rw [if_pos hc] at h
      injection h with h
      refine ⟨[n], h.symm, by simp, ?_, ?_⟩
      · simp only [dots, List.append_nil]
        rw [← hf]
        exact hdec pre hd (hs.1 hc.1) h0
      · intro x hx
        simp at hx
        subst hx
        have := figs_mono pre hd 0 (by omega)
        omega
    · rw [if_neg hc] at h; cases h
  | cons c l ih =>
    intro out n sm pre r h hd hf hs h0 hn
    have hn0 : 0 ≤ n := by have := figs_mono pre hd 0 (by omega); omega
    simp only [addrGo] at h
    by_cases h46 : c = 46
    · rw [if_pos h46] at h
      by_cases hc : sm = true ∧ out.length ≠ 4
      · rw [if_pos hc] at h
        obtain ⟨post, h1, h2, h3, h4⟩ := ih _ _ _ [] r h (by simp) rfl (by simp) (by simp) (by omega)
        refine ⟨n :: post, by rw [h1]; simp, by simp, ?_, ?_⟩
        · obtain ⟨b, t, rfl⟩ : ∃ b t, post = b :: t := by
            cases post with
            | nil => exact absurd rfl h2
            | cons b t => exact ⟨b, t, rfl⟩
          simp only [dots]
          rw [← hf, ← hdec pre hd (hs.1 hc.1) h0, h46]
          simp only [List.nil_append] at h3
          rw [h3]
        · intro x hx
          rcases List.mem_cons.1 hx with rfl | h'
          · omega
          · exact h4 x h'
      · rw [if_neg hc] at h; cases h
    · rw [if_neg h46] at h
      by_cases hg : c < 48 ∨ c > 57 ∨ (sm = true ∧ n = 0) ∨ 10 * n + (c - 48) > 255
      · rw [if_pos hg] at h; cases h
      · rw [if_neg hg] at h
        obtain ⟨post, h1, h2, h3, h4⟩ := ih out (10 * n + (c - 48)) true (pre ++ [c]) r h (by
          intro d hx
          rcases List.mem_append.1 hx with h' | h'
          · exact hd d h'
          · simp at h'; omega) (by rw [figs_snoc, hf]) (by simp) (by
          intro hh
          cases pre with
          | nil => rfl
          | cons a t =>
            exfalso
            simp at hh
            subst hh
            have := h0 (by simp)
            simp at this
            subst this
            simp [figs] at hf
            have hst := hs.2 (by simp)
            exact hg (.inr (.inr (.inl ⟨hst, hf.symm⟩)))) (by omega)
        exact ⟨post, h1, h2, by rw [← h3]; simp, h4⟩
/-- A text that is an address is its four numbers' figures. -/
theorem sAddr_text (s out : List Int) (h : sAddr s = (out, true)) : out.length = 4 ∧ s = dots out ∧ ∀ x ∈ out, 0 ≤ x ∧ x ≤ 255 := by
  unfold sAddr at h
  cases e : addrGo s [] 0 false with
  | none => rw [e] at h; simp [finD] at h
  | some r =>
    rw [e] at h
    simp only [finD, Prod.mk.injEq, decide_eq_true_eq] at h
    obtain ⟨rfl, h4⟩ := h
    obtain ⟨post, h1, h2, h3, h5⟩ := addrGo_dots s [] 0 false [] _ e (by simp) rfl (by simp) (by simp) (by omega)
    simp only [List.nil_append] at h1 h3
    subst h1
    exact ⟨h4, h3, h5⟩
end Go.Proofs.YtangjgclpipjdaaDoor
set_option linter.unusedVariables false
namespace Go.Proofs.YtangjgclpipjdaaDoor
open Go.RowKit Go.Proofs.YtangjgclpipjdaaDoorW.PrintWords Go.Proofs.YtangjgclpipjdaaDoorW.PrintLast Go.Proofs.YtangjgclpipjdaaDoorW.PrintMore

def ofGo : List Int → List Int → Int → Bool → Option (List Int × Bool)
  | [], out, _, op => some (out, op)
  | x :: l, out, n, op =>
    if (op = false ∧ x = 128) ∨ n ≥ 33554432 then none
    else if x ≤ 127 then ofGo l (out ++ [n * 128 + x % 128]) 0 false
    else ofGo l out (n * 128 + x % 128) true
def sOf (b : List Int) : List Int × Bool :=
  if b.length = 0 ∨ rd b 0 ≥ 120 ∨ b.length > 300 then ([], false)
  else match ofGo (b.drop 1) [rd b 0 / 40, rd b 0 % 40] 0 false with
    | none => ([], false)
    | some (out, op) => (out, !op && decide ((out.length : Int) ≤ 60))
/-- The bytes of a number that goes on. -/
def cont (n : Int) : List Int :=
  if n < 128 then [n + 128] else if n < 16384 then [n / 128 + 128, n % 128 + 128] else if n < 2097152 then [n / 16384 + 128, n / 128 % 128 + 128, n % 128 + 128]
  else [n / 2097152 + 128, n / 16384 % 128 + 128, n / 128 % 128 + 128, n % 128 + 128]
theorem cont_last (n x : Int) (h0 : 1 ≤ n) (h1 : n < 33554432) (x0 : 0 ≤ x) (x1 : x ≤ 127) : cont n ++ [x] = b128 (n * 128 + x) := by
  unfold cont b128
  have e1 : (n * 128 + x) / 128 = n := by omega
  have e2 : (n * 128 + x) / 16384 = n / 128 := by omega
  have e3 : (n * 128 + x) / 2097152 = n / 16384 := by omega
  have e4 : (n * 128 + x) / 268435456 = n / 2097152 := by omega
  have e5 : (n * 128 + x) % 128 = x := by omega
  rw [e1, e2, e3, e4, e5, if_neg (by omega : ¬ n * 128 + x < 128)]
  by_cases c1 : n < 128
  · rw [if_pos c1, if_pos (by omega)]; simp
  rw [if_neg c1, if_neg (by omega : ¬ n * 128 + x < 16384)]
  by_cases c2 : n < 16384
  · rw [if_pos c2, if_pos (by omega)]; simp
  rw [if_neg c2, if_neg (by omega : ¬ n * 128 + x < 2097152)]
  by_cases c3 : n < 2097152
  · rw [if_pos c3, if_pos (by omega)]; simp
  rw [if_neg c3, if_neg (by omega : ¬ n * 128 + x < 268435456)]
  simp
theorem cont_more (n x : Int) (h0 : 1 ≤ n) (h1 : n * 128 + (x - 128) < 33554432) (x0 : 128 ≤ x) (x1 : x ≤ 255) : cont n ++ [x] = cont (n * 128 + (x - 128)) := by
  unfold cont
  have e1 : (n * 128 + (x - 128)) / 128 = n := by omega
  have e2 : (n * 128 + (x - 128)) / 16384 = n / 128 := by omega
  have e3 : (n * 128 + (x - 128)) / 2097152 = n / 16384 := by omega
  have e5 : (n * 128 + (x - 128)) % 128 + 128 = x := by omega
  rw [e1, e2, e3, e5, if_neg (by omega : ¬ n * 128 + (x - 128) < 128)]
  by_cases c1 : n < 128
  · rw [if_pos c1, if_pos (by omega)]; simp
  rw [if_neg c1, if_neg (by omega : ¬ n * 128 + (x - 128) < 16384)]
  by_cases c2 : n < 16384
  · rw [if_pos c2, if_pos (by omega)]; simp
  rw [if_neg c2, if_pos (by omega : n < 2097152), if_neg (by omega : ¬ n * 128 + (x - 128) < 2097152)]
  simp
def Bnd (l : List Int) : Prop := ∀ x ∈ l, 0 ≤ x ∧ x ≤ 4294967295
theorem ofGo_text (l : List Int) (hb : IsB l) : (∀ out r, ofGo l out 0 false = some (r, false) → ∃ rest, r = out ++ rest ∧ l = b128s rest ∧ Bnd rest) ∧
    (∀ out n r, 1 ≤ n → n ≤ 4294967295 → ofGo l out n true = some (r, false) → n < 33554432 ∧ ∃ a rest, r = out ++ a :: rest ∧ cont n ++ l = b128 a ++ b128s rest ∧ Bnd (a :: rest)) := by
  induction l with
  | nil =>
    refine ⟨?_, ?_⟩
    · intro out r h
      simp [ofGo] at h
      exact ⟨[], by simp [h], rfl, fun x hx => by simp at hx⟩
    · intro out n r h0 h1 h
      simp [ofGo] at h
  | cons x l ih =>
    have hx := hb x (by simp)
    obtain ⟨ih1, ih2⟩ := ih (fun y hy => hb y (by simp [hy]))
    have bcons : ∀ a rest, 0 ≤ a → a ≤ 4294967295 → Bnd rest → Bnd (a :: rest) := by
      intro a rest h0 h1 h y hy
      rcases List.mem_cons.1 hy with rfl | h'
      · exact ⟨h0, h1⟩
      · exact h y h'
    refine ⟨?_, ?_⟩
    · intro out r h
      simp only [ofGo] at h
      by_cases c : x = 128
      · rw [if_pos (.inl (by simp [c]))] at h; cases h
      rw [if_neg (by rintro (h' | h'); exact c h'.2; exact absurd h' (by decide))] at h
      by_cases c2 : x ≤ 127
      · rw [if_pos c2] at h
        obtain ⟨rest, h1, h2, h3⟩ := ih1 _ _ h
        refine ⟨(0 * 128 + x % 128) :: rest, by rw [h1]; simp, ?_, bcons _ _ (by omega) (by omega) h3⟩
        rw [b128s_cons, ← h2, show (0 : Int) * 128 + x % 128 = x by omega]
        unfold b128
        rw [if_pos (by omega)]
        rfl
      · rw [if_neg c2] at h
        obtain ⟨hlt, a, rest, h1, h2, h3⟩ := ih2 _ _ _ (by omega) (by omega) h
        refine ⟨a :: rest, h1, ?_, h3⟩
        rw [b128s_cons, ← h2]
        unfold cont
        rw [if_pos (by omega), show (0 : Int) * 128 + x % 128 + 128 = x by omega]
        rfl
    · intro out n r h0 h1 h
      simp only [ofGo] at h
      by_cases c : n ≥ 33554432
      · rw [if_pos (.inr c)] at h; cases h
      rw [if_neg (by rintro (h' | h'); exact absurd h'.1 (by simp); exact c h')] at h
      refine ⟨by omega, ?_⟩
      by_cases c2 : x ≤ 127
      · rw [if_pos c2] at h
        obtain ⟨rest, e1, e2, e3⟩ := ih1 _ _ h
        refine ⟨n * 128 + x % 128, rest, by rw [e1]; simp, ?_, bcons _ _ (by omega) (by omega) e3⟩
        rw [← e2, show x % 128 = x by omega, ← cont_last n x h0 (by omega) hx.1 c2]
        simp
      · rw [if_neg c2] at h
        obtain ⟨hlt, a, rest, e1, e2, e3⟩ := ih2 _ _ _ (by omega) (by omega) h
        refine ⟨a, rest, e1, ?_, e3⟩
        rw [show x % 128 = x - 128 by omega] at e2 hlt
        rw [← e2, ← cont_more n x h0 hlt (by omega) hx.2]
        simp
/-- The content that is taken is that of its name. -/
theorem sOf_text (b : List Int) (hb : IsB b) (arcs : List Int) (h : sOf b = (arcs, true)) : ∃ x y rest, arcs = x :: y :: rest ∧ b = sName arcs ∧ 0 ≤ x ∧ x ≤ 2 ∧ 0 ≤ y ∧ y < 40 ∧ Bnd rest ∧ arcs.length ≤ 60 := by
  unfold sOf at h
  by_cases c : b.length = 0 ∨ rd b 0 ≥ 120 ∨ b.length > 300
  · rw [if_pos c] at h; simp at h
  rw [if_neg c] at h
  obtain ⟨v, l, rfl⟩ : ∃ v l, b = v :: l := List.exists_cons_of_ne_nil (by rintro rfl; exact c (.inl rfl))
  have hv : rd (v :: l) 0 = v := rfl
  rw [hv] at h c
  have hv0 := hb v (by simp)
  cases e : ofGo l [v / 40, v % 40] 0 false with
  | none => rw [show (v :: l).drop 1 = l from rfl, e] at h; simp at h
  | some p =>
    obtain ⟨out, op⟩ := p
    rw [show (v :: l).drop 1 = l from rfl, e] at h
    simp at h
    obtain ⟨rfl, rfl, h60⟩ := h
    obtain ⟨rest, e1, e2, e3⟩ := (ofGo_text l (fun y hy => hb y (by simp [hy]))).1 _ _ e
    refine ⟨v / 40, v % 40, rest, by rw [e1]; rfl, ?_, by omega, by omega, by omega, by omega, e3, by omega⟩
    rw [e1]
    show v :: l = ((40 * (v / 40) + v % 40) % 256) :: b128s rest
    rw [← e2]
    congr 1
    omega
end Go.Proofs.YtangjgclpipjdaaDoor
set_option linter.unusedVariables false
namespace Go.Proofs.YtangjgclpipjdaaDoor
open Go.ChangeShapes Go.WideShapes Go.ChangeAt Go.RowKit Go.Joins

theorem array5 {α : Type} {cs : Array α} (h : cs.size = 5) : ∃ c0 c1 c2 c3 c4, cs = #[c0, c1, c2, c3, c4] := by
  obtain ⟨l⟩ := cs
  match l, h with
  | [c0, c1, c2, c3, c4], _ => exact ⟨c0, c1, c2, c3, c4, rfl⟩
theorem cellsVar : Tryd.prog.cellsOf 24 = 5 := by kernel_rfl
theorem cellsVar5 : Tryd.prog.cellsOf 9 = 1 ∧ Tryd.prog.cellsOf 3 = 1 ∧ Tryd.prog.cellsOf 2 = 1 ∧ Tryd.prog.cellsOf 22 = 1 := ⟨by kernel_rfl, by kernel_rfl, by kernel_rfl, by kernel_rfl⟩

/-- impl.Var as a value. -/
abbrev varV (nm : ByteArray) (ty i u : Int) (tx : ByteArray) : Value := .agg #[.string nm, .int .i64 ty, .int .i64 i, .int .u64 u, .string tx]

set_option maxRecDepth 100000 in
theorem open_var {H : Type} {enc : TypeId × Value → H} {w : World} {base : Nat} {spare : Nat → Bool} {held : Bool} {r : Reach} {b0 : Nat} {v : Value} {d : DataW H} {p : List MemPlace}
    (hv : Value.okWide Tryd.prog w r b0 24 v) (h : DataW.Trod enc Tryd.prog w base spare held 24 v d p) :
    ∃ (nm tx : ByteArray) (ty i u : Int), v = varV nm ty i u tx ∧ nm.size ≤ maxLen ∧ tx.size ≤ maxLen ∧ (Lit.int .i64 ty).wf = true ∧ (Lit.int .i64 i).wf = true ∧ (Lit.int .u64 u).wf = true := by
  obtain ⟨cs, rfl, hsz⟩ := okWide_struct Tryd.underlying24 hv
  obtain ⟨c0, c1, c2, c3, c4, rfl⟩ := array5 (hsz.trans cellsVar)
  obtain ⟨fuel, hf⟩ := h
  obtain ⟨xs, n, _, _, hl, hlen, hf⟩ := DataW.trod_struct Tryd.underlying24 hf
  obtain ⟨k0, k1, k2, k3⟩ := cellsVar5
  have g0 : DataW.trod enc Tryd.prog w base spare held n 9 [c0] = xs[0]? := by
    have h0 := hf 0 _ rfl
    change DataW.trod enc _ w base spare held n 9 (List.take (Tryd.prog.cellsOf 9) [c0, c1, c2, c3, c4]) = _ at h0
    rw [k0] at h0
    exact h0
  have g1 : DataW.trod enc Tryd.prog w base spare held n 3 [c1] = xs[1]? := by
    have h0 := hf 1 _ rfl
    change DataW.trod enc _ w base spare held n 3 (List.take (Tryd.prog.cellsOf 3) [c1, c2, c3, c4]) = _ at h0
    rw [k1] at h0
    exact h0
  have g2 : DataW.trod enc Tryd.prog w base spare held n 2 [c2] = xs[2]? := by
    have h0 := hf 2 _ rfl
    change DataW.trod enc _ w base spare held n 2 (List.take (Tryd.prog.cellsOf 2) [c2, c3, c4]) = _ at h0
    rw [k2] at h0
    exact h0
  have g3 : DataW.trod enc Tryd.prog w base spare held n 22 [c3] = xs[3]? := by
    have h0 := hf 3 _ rfl
    change DataW.trod enc _ w base spare held n 22 (List.take (Tryd.prog.cellsOf 22) [c3, c4]) = _ at h0
    rw [k3] at h0
    exact h0
  have g4 : DataW.trod enc Tryd.prog w base spare held n 9 [c4] = xs[4]? := by
    have h0 := hf 4 _ rfl
    change DataW.trod enc _ w base spare held n 9 (List.take (Tryd.prog.cellsOf 9) [c4]) = _ at h0
    rw [k0] at h0
    exact h0
  have h5 : xs.length = 5 := hlen
  clear hf hlen hl hsz hv
  match xs, h5 with
  | [y0, y1, y2, y3, y4], _ =>
    obtain ⟨nm, e0, -, w0⟩ := DataW.trod_string Tryd.underlying9 g0
    obtain ⟨ty, e1, -, w1⟩ := DataW.trod_int Tryd.underlying3 g1
    obtain ⟨i, e2, -, w2⟩ := DataW.trod_int Tryd.underlying2 g2
    obtain ⟨u, e3, -, w3⟩ := DataW.trod_int Tryd.underlying22 g3
    obtain ⟨tx, e4, -, w4⟩ := DataW.trod_string Tryd.underlying9 g4
    injection e0 with e0; injection e1 with e1; injection e2 with e2; injection e3 with e3; injection e4 with e4
    subst e0 e1 e2 e3 e4
    exact ⟨nm, tx, ty, i, u, rfl, w0, w4, w1, w2, w3⟩
end Go.Proofs.YtangjgclpipjdaaDoor
