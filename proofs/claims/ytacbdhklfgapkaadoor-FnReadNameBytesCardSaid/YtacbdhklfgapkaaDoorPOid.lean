/- parseBase128Uint32, parseObjectIdentifier: the walks. -/
import Derived.Test.YtacbdhklfgapkaaDoorShelf
import Derived.Test.YtacbdhklfgapkaaDoorPLen
import Derived.Test.YtacbdhklfgapkaaDoorOid
import Derived.Test.YtacbdhklfgapkaaDoorClone
import Derived.Lib.EndianBits
set_option linter.unusedVariables false
namespace Go.Proofs.YtacbdhklfgapkaaDoor
open Go.RowKit Go.Proofs.YtacbdhklfgapkaaDoorW.PrintWords Go.Proofs.YtacbdhklfgapkaaDoorW.PrintLast Go.Proofs.YtacbdhklfgapkaaDoorW.PrintMore

/-- The bytes of b128. -/
theorem b128_at (n : Int) (h0 : 0 ≤ n) (h1 : n ≤ 4294967295) : 1 ≤ (b128 n).length ∧ (b128 n).length ≤ 5 ∧ n < 128 ^ (b128 n).length ∧ ∀ k, k < (b128 n).length → rd (b128 n) (k : Nat) = n / 128 ^ ((b128 n).length - 1 - k) % 128 + (if k + 1 = (b128 n).length then 0 else 128) := by
  unfold b128
  by_cases c1 : n < 128
  · rw [if_pos c1]
    refine ⟨by simp, by simp, by simpa using c1, ?_⟩
    intro k hk
    obtain rfl : k = 0 := by simpa using hk
    simp [Go.Proofs.YtacbdhklfgapkaaDoorW.PrintWords.rd]
    omega
  rw [if_neg c1]
  by_cases c2 : n < 16384
  · rw [if_pos c2]
    refine ⟨by simp, by simp, by simpa using c2, ?_⟩
    intro k hk
    have : k = 0 ∨ k = 1 := by simp at hk; omega
    rcases this with rfl | rfl <;> simp [Go.Proofs.YtacbdhklfgapkaaDoorW.PrintWords.rd] <;> omega
  rw [if_neg c2]
  by_cases c3 : n < 2097152
  · rw [if_pos c3]
    refine ⟨by simp, by simp, by simpa using c3, ?_⟩
    intro k hk
    have : k = 0 ∨ k = 1 ∨ k = 2 := by simp at hk; omega
    rcases this with rfl | rfl | rfl <;> simp [Go.Proofs.YtacbdhklfgapkaaDoorW.PrintWords.rd] <;> omega
  rw [if_neg c3]
  by_cases c4 : n < 268435456
  · rw [if_pos c4]
    refine ⟨by simp, by simp, by simpa using c4, ?_⟩
    intro k hk
    have : k = 0 ∨ k = 1 ∨ k = 2 ∨ k = 3 := by simp at hk; omega
    rcases this with rfl | rfl | rfl | rfl <;> simp [Go.Proofs.YtacbdhklfgapkaaDoorW.PrintWords.rd] <;> omega
  rw [if_neg c4]
  refine ⟨by simp, by simp, by simp; omega, ?_⟩
  intro k hk
  have : k = 0 ∨ k = 1 ∨ k = 2 ∨ k = 3 ∨ k = 4 := by simp at hk; omega
  rcases this with rfl | rfl | rfl | rfl | rfl <;> simp [Go.Proofs.YtacbdhklfgapkaaDoorW.PrintWords.rd] <;> omega

theorem u8_bit7b (b : Int) (h0 : 0 ≤ b) (h1 : b ≤ 255) : bits .and .u8 b 128 = if 128 ≤ b then 128 else 0 := by
  rw [u8_and b 128 h0 (by omega) (by omega) (by omega), show (128 : Int).toNat = 2 ^ 7 from rfl, nat_bit]
  split
  · have : b.toNat / 2 ^ 7 % 2 = 1 := by omega
    rw [this]; rfl
  · have : b.toNat / 2 ^ 7 % 2 = 0 := by omega
    rw [this]; rfl
theorem and127b (x : Int) (h0 : 0 ≤ x) (h1 : x < 256) : bits .and .u8 x 127 = x % 128 := by
  have := bits_mask .u8 8 (by decide) wraps_u8 7 (by decide) x h0 (by omega)
  simpa using this
theorem or_shl7 (m : Int) (h0 : 0 ≤ m) (h1 : m ≤ 4294967295) : bits .or .u64 (m / 128 * 128) (m % 128) = m := by
  rw [u64_or _ _ (by omega) (by omega) (by omega) (by omega), nat_join 7 _ _ (by omega) (by omega)]
  omega

set_option maxRecDepth 100000 in
theorem parseB128_any (A : Option Addr) (c : Nat) (xs : List Int) (w : World) (hr : Kd.C (Kd.int .u8) w A xs.length xs) (o : Nat) (n : Int) (h0 : 0 ≤ n) (h1 : n ≤ 4294967295) (rest : List Int) (h : xs.drop o = b128 n ++ rest) :
    Calls Tryd.prog 35 #[.slice A xs.length c, .int .i64 o] w fun e w' => e = .returned (.tuple #[.int .u32 n, .int .i64 ((o + (b128 n).length : Nat) : Int), .nilIface]) ∧ w = w' := by
  obtain ⟨l1, l5, hlt, hat⟩ := b128_at n h0 h1
  have hm := Kd.C_max hr
  have hlen : o + (b128 n).length ≤ xs.length := by
    have := congrArg List.length h
    rw [List.length_drop, List.length_append] at this
    omega
  have hbyte : ∀ k, k < (b128 n).length → rd xs ((o + k : Nat) : Int) = rd (b128 n) (k : Nat) := by
    intro k hk
    unfold Go.Proofs.YtacbdhklfgapkaaDoorW.PrintWords.rd
    rw [Int.toNat_natCast, Int.toNat_natCast, List.getD_eq_getElem?_getD, List.getD_eq_getElem?_getD, ← List.getElem?_drop, h, List.getElem?_append_left hk]
  obtain ⟨ad, rfl, -⟩ := cell_at hr 0 (by omega)
  have cells : ∀ k : Nat, k < (b128 n).length → w.cell? (ad.add (o + k)) = some (.int .u8 (n / 128 ^ ((b128 n).length - 1 - k) % 128 + (if k + 1 = (b128 n).length then 0 else 128))) := by
    intro k hk
    obtain ⟨ad', e, hx'⟩ := cell_at hr (o + k) (by omega)
    injection e with e
    subst e
    rw [hx', hbyte k hk, hat k hk]
  have hml : xs.length ≤ maxLen := hm
  generalize (b128 n).length = L at *
  have HC := Lib.hid cells
  have HL := Lib.hid hlt
  clear cells hr h hat hbyte hlt hm
  simp only [maxLen] at hml
  go_enter Tryd.func35, Tryd.ntmps35
  go_wp2
  go_loop [7, 8, 9] (fun v7 v8 _ => ∃ k : Nat, k < L ∧ v8 = .int .i64 ((o + k : Nat) : Int) ∧ v7 = .int .u64 (n / 128 ^ (L - k))) (fun _ v8 _ => o + L - (intOf v8).toNat)
  case atStart => exact ⟨0, by omega, rfl, by rw [Nat.sub_zero, Int.ediv_eq_zero_of_lt h0 HL.out]⟩
  case round =>
    obtain ⟨k, hk, rfl, rfl⟩ := hrel
    have hcl := HC.out k hk
    have e : n / 128 ^ (L - k) = n / 128 ^ (L - 1 - k) / 128 := by
      rw [show L - k = (L - 1 - k) + 1 by omega, Int.pow_succ, Int.ediv_ediv, if_neg (fun hh => absurd hh.1 (Int.not_lt.2 (Int.le_of_lt (Int.pow_pos (by decide))))), Int.sub_zero]
    rw [e]
    have hnn : 0 ≤ n / 128 ^ (L - 1 - k) := Int.ediv_nonneg h0 (Int.le_of_lt (Int.pow_pos (by decide)))
    have hle : n / 128 ^ (L - 1 - k) ≤ n := Int.ediv_le_self _ h0
    have hlast : k + 1 = L → n / 128 ^ (L - 1 - k) = n := by
      intro hh
      rw [show L - 1 - k = 0 by omega]
      simp
    have hnext : n / 128 ^ (L - (k + 1)) = n / 128 ^ (L - 1 - k) := by rw [show L - (k + 1) = L - 1 - k by omega]
    have HN := Lib.hid (And.intro hlast hnext)
    clear e hlast hnext
    generalize n / 128 ^ (L - 1 - k) = m at *
    have e1 : IntKind.u64.wrap (m / 128 * 128) = m / 128 * 128 := wraps_u64 _ (by omega) (by omega)
    have e2 := or_shl7 m hnn (by omega)
    have hok : o + k < xs.length := by omega
    have hokt : (o + k < xs.length) = True := eq_true hok
    by_cases hl : k + 1 = L
    · rw [if_pos hl, Int.add_zero] at hcl
      have a1 := and127b (m % 128) (by omega) (by omega)
      rw [show m % 128 % 128 = m % 128 by omega] at a1
      have a2 := u8_bit7b (m % 128) (by omega) (by omega)
      rw [if_neg (by omega)] at a2
      have hmn := HN.out.1 hl
      subst hmn
      have HE := Lib.hid hl
      clear hl
      go_wp2
      go_ret3
      refine ⟨?_, rfl⟩
      have hL : ((o + L : Nat) : Int) = (o : Int) + k + 1 := by have := HE.out; omega
      rw [← hL]
      rfl
    · rw [if_neg hl] at hcl
      have a1 := and127b (m % 128 + 128) (by omega) (by omega)
      rw [show (m % 128 + 128) % 128 = m % 128 by omega] at a1
      have a2 := u8_bit7b (m % 128 + 128) (by omega) (by omega)
      rw [if_pos (by omega)] at a2
      go_wp2
      go_round
      case rel => exact ⟨k + 1, by omega, by go_num, by rw [HN.out.2]⟩
      case measure => simp [intOf]; omega

theorem make_own2 (w : World) (n : Nat) (hn : n ≤ 9000) : ∃ w', (Instr.makeSlice 23 (.int .i64 0) (.int .i64 (n : Int))).run Tryd.prog w = .ok (.slice (some ⟨w.heap.size, 0, none⟩) 0 n) w' ∧ OwnB w' w.heap.size (.slice (some ⟨w.heap.size, 0, none⟩) 0 n) [] ∧ Below w.heap.size w w' := by
  obtain ⟨i, hi, hz⟩ := Option.map_eq_some_iff.1 infoB
  obtain ⟨h3, h4, h5⟩ : i.zero = some (.int .u8 0) ∧ i.size = 1 ∧ i.bytes = 1 := by simpa using hz
  obtain ⟨w', hrun, r1, r2⟩ := run_make_own (P := Tryd.prog) w w.heap.size 23 5 i (.int .u8 0) 1 Tryd.underlying23 hi h3 h4 .i64 .i64 n (by rw [h5]; omega) (by simp [maxLen]; omega) (Nat.le_refl _)
  exact ⟨w', hrun, Kd.R_of_own (enc := Value.int .u8) r1 (fun _ _ => trivial), (Below.refl _ _).grown r2 (by simp) (by simp)⟩
/-- A name in dotted figures. -/
def sDot (arcs : List Int) : List Int := (arcs.map fun n => 46 :: dec n.toNat).flatten
theorem sDot_snoc (l : List Int) (a : Int) : sDot (l ++ [a]) = sDot l ++ [46] ++ dec a.toNat := by simp [sDot]
theorem lit_C (w : World) (ys : List Int) (n : Nat) (hn : ys.length = n) (h : ys.length ≤ 100) {cs : Array Value} (hc : cs.toList = ys.map (Value.int .u8)) : Kd.C (Kd.int .u8) (w.alloc (.cells cs 5)) (some ⟨w.heap.size, 0, none⟩) n ys := by
  subst hn
  obtain ⟨A, c, e, _, hC⟩ := Kd.R_reads (OwnB.lit w w.heap.size ys (Nat.le_refl _) (by omega) hc)
  injection e with e1 e2 e3
  rw [e1]
  exact hC

theorem appendUint_int (w0 : World) (n : Int) (h0 : 0 ≤ n) (h1 : n ≤ 4294967295) (v : Value) (xs : List Int) (w : World) (ho : OwnB w w0.heap.size v xs) (hb : Below w0.heap.size w0 w) (hl : xs.length ≤ 1000000) (ht : PowTab w0) :
    Calls Tryd.prog 36 #[v, .int .u64 n, .int .i64 10] w fun e w' => ∃ v', e = .returned v' ∧ Hid (OwnB w' w0.heap.size v' (xs ++ dec n.toNat) ∧ Below w0.heap.size w0 w') := by
  obtain ⟨u, rfl⟩ := Int.eq_ofNat_of_zero_le h0
  refine (appendUint_any w0.heap.size u (by omega) v xs w ho hb.size hl (PowTab.on ht hb)).mono ?_
  rintro e w' ⟨v', rfl, h1, h2⟩
  exact ⟨v', rfl, Lib.hid ⟨h1, hb.trans h2⟩⟩
theorem app_end {w W w2 : World} {v : Value} {xs : List Int} {o : Obj} (hb : Below w.heap.size w W) (ho : OwnB W w.heap.size v xs) (hg : (W.alloc o).grownBy w2 v.ownBlock) : Below w.heap.size w w2 :=
  (hb.alloc hb.size o).grown hg (by have := hb.size; simp; omega) (fun k hk => ((Kd.R_bound ho).1 k hk).2.1)
theorem dec_len (n : Int) (h0 : 0 ≤ n) (h1 : n ≤ 4294967295) : (dec n.toNat).length ≤ 20 := by
  unfold dec
  rw [List.length_map, Lib.decDigits_length]
  by_cases h : n.toNat = 0
  · rw [h, Lib.nDigits_small (by omega)]; omega
  · have := Lib.numDigits_eq n.toNat (by omega) (by omega)
    split at this <;> omega
theorem sDot_len (l : List Int) (h : ∀ x ∈ l, 0 ≤ x ∧ x ≤ 4294967295) : (sDot l).length ≤ 21 * l.length := by
  induction l with
  | nil => simp [sDot]
  | cons a l ih =>
    have ih := ih (fun x hx => h x (by simp [hx]))
    have := dec_len a (h a (by simp)).1 (h a (by simp)).2
    unfold sDot at ih ⊢
    simp only [List.map_cons, List.flatten_cons, List.length_append, List.length_cons]
    omega

set_option maxRecDepth 100000 in
set_option maxHeartbeats 4000000 in
theorem parseOid_any (A : Option Addr) (c : Nat) (a b : Int) (rest : List Int) (a0 : 0 ≤ a) (a2 : a ≤ 2) (b0 : 0 ≤ b) (b40 : b < 40) (hrest : ∀ x ∈ rest, 0 ≤ x ∧ x ≤ 4294967295) (hl : rest.length ≤ 300) (w : World) (hr : Kd.C (Kd.int .u8) w A (sName (a :: b :: rest)).length (sName (a :: b :: rest))) (ht : PowTab w) :
    Calls Tryd.prog 32 #[.slice A (sName (a :: b :: rest)).length c] w fun e w' => e = .returned (.tuple #[.string (strOfNums (sDot (a :: b :: rest))), .nilIface]) ∧ Below w.heap.size w w' := by
  obtain ⟨xs, hxs⟩ : ∃ xs, xs = sName (a :: b :: rest) := ⟨_, rfl⟩
  have hxl : xs.length ≤ 2000 := by
    rw [hxs]
    have := sName_len (a :: b :: rest)
    simp at this
    omega
  have hx1 : xs = (40 * a + b) :: b128s rest := by
    rw [hxs]
    have : (40 * a + b) % 256 = 40 * a + b := by omega
    show ((40 * a + b) % 256) :: b128s rest = _
    rw [this]
  have hv : b128 (40 * a + b) = [40 * a + b] := by unfold b128; rw [if_pos (by omega)]
  have hpos : 1 ≤ xs.length := by rw [hx1]; simp
  rw [← hxs] at hr ⊢
  obtain ⟨w1, hmk, ho1, hb1⟩ := make_own2 w (xs.length * 4 + 1) (by omega)
  rw [show ((xs.length * 4 + 1 : Nat) : Int) = (xs.length : Int) * 4 + 1 by omega] at hmk
  have hp1 := parseB128_any A c xs w1 (Kd.C_below hr hb1) 0 (40 * a + b) (by omega) (by omega) (b128s rest) (by rw [hv]; exact hx1)
  rw [hv] at hp1
  have HH := Lib.hid (And.intro hxs (And.intro hx1 (And.intro ho1 (And.intro hb1 (And.intro hp1 (And.intro hr (And.intro ht hrest)))))))
  have d0 : ((xs.length : Int) == 0) = false := beq_eq_false_iff_ne.2 (by omega)
  clear hxs hx1 ho1 hb1 hp1 hr ht hrest hv
  go_enter Tryd.func32, Tryd.ntmps32
  go_wp2_with fail
  refine HH.out.2.2.2.2.1.mono ?_
  rintro e w' ⟨rfl, rfl⟩
  have hvv : 0 ≤ 40 * a + b ∧ 40 * a + b < 120 := by omega
  have f1 : (40 * a + b) / 40 = a := by omega
  have f2 : (40 * a + b) % 40 = b := by omega
  generalize hv : 40 * a + b = v at *
  have ho1 := HH.out.2.2.1
  have hb1 := HH.out.2.2.2.1
  have H1 := Lib.hid (And.intro ho1 hb1)
  have HV := Lib.hid hv
  have w1s := hb1.size
  clear ho1 hb1 hv
  by_cases h80 : v < 80
  · go_wp2_with (at_builtin; refine app_bytes rfl (.tmp 25) (.tmp 26) 23 rfl Tryd.underlying23 infoB w.heap.size (.slice (some ⟨w.heap.size, 0, none⟩) 0 (xs.length * 4 + 1)) [] [46] (some ⟨w1.heap.size, 0, none⟩) 1 1 rfl rfl (OwnB.alloc H1.out.1 _) (lit_C w1 [46] 1 rfl (by simp) (by rfl)) (by simp; omega) (by simp) ?_; intro v2 w2 ho2 hg2 hat2)
    have H2 := Lib.hid (And.intro ho2 (app_end H1.out.2 H1.out.1 hg2))
    clear ho2 hg2 hat2
    refine (appendUint_int w a a0 (by omega) v2 _ w2 H2.out.1 H2.out.2 (by simp) HH.out.2.2.2.2.2.2.1).mono ?_
    rintro e w3 ⟨v3, rfl, H3⟩
    go_wp2_with (at_builtin; refine app_bytes rfl (.tmp 35) (.tmp 36) 23 rfl Tryd.underlying23 infoB w.heap.size v3 ([] ++ [46] ++ dec a.toNat) [46] (some ⟨w3.heap.size, 0, none⟩) 1 1 rfl rfl (OwnB.alloc H3.out.1 _) (lit_C w3 [46] 1 rfl (by simp) (by rfl)) (by have := H3.out.2.size; simp; omega) (by have := dec_len a a0 (by omega); simp; omega) ?_; intro v4 w4 ho4 hg4 hat4)
    have H4 := Lib.hid (And.intro ho4 (app_end H3.out.2 H3.out.1 hg4))
    clear ho4 hg4 hat4
    refine (appendUint_int w b b0 (by omega) v4 _ w4 H4.out.1 H4.out.2 (by have := dec_len a a0 (by omega); simp; omega) HH.out.2.2.2.2.2.2.1).mono ?_
    rintro e w5 ⟨v5, rfl, H5⟩
    have H := Lib.hid (show OwnB w5 w.heap.size v5 (sDot [a, b]) ∧ Below w.heap.size w w5 from ⟨by have := H5.out.1; simpa [sDot] using this, H5.out.2⟩)
    clear H5 H4 H3 H2 H1
    go_wp2
    go_loopg [4, 5, 6, 7] rest.length (fun k u4 _ u6 u7 wr => ∃ pre post : List Int, u6 = .int .i64 ((1 + (b128s pre).length : Nat) : Int) ∧ u7 = .nilIface ∧ Hid (rest = pre ++ post ∧ k = post.length ∧ OwnB wr w.heap.size u4 (sDot (a :: b :: pre)) ∧ Below w.heap.size w wr))
    case atStart => exact ⟨[], rest, rfl, rfl, Lib.hid ⟨rfl, rfl, H.out⟩⟩
    case round =>
      obtain ⟨pre, post, rfl, rfl, HR⟩ := hrel
      have hdr : xs.drop (1 + (b128s pre).length) = b128s post := by
        rw [HH.out.2.1, HR.out.1]
        simp [b128s, Nat.add_comm 1]
      clear H
      cases post with
      | nil =>
        have hlen : ((1 + (b128s pre).length : Nat) : Int) = xs.length := by
          rw [HH.out.2.1, HR.out.1]; simp; omega
        rw [hlen]
        clear hdr hlen
        have hcs := HR.out.2.2.1.string (P := Tryd.prog) Tryd.underlying23 Tryd.underlying5 Tryd.underlying9
        go_wp2
        go_ret2
        refine ⟨?_, HR.out.2.2.2⟩
        have hre : rest = pre := by have := HR.out.1; simpa using this
        rw [hre]
        rfl
      | cons n post' =>
        have hn : 0 ≤ n ∧ n ≤ 4294967295 := HH.out.2.2.2.2.2.2.2 n (by rw [HR.out.1]; simp)
        have hb1 := b128_at n hn.1 hn.2
        have hsl : (sDot (a :: b :: pre)).length ≤ 21 * (2 + pre.length) := by
          have := sDot_len (a :: b :: pre) (by
            intro x hx
            rcases List.mem_cons.1 hx with rfl | hx
            · omega
            rcases List.mem_cons.1 hx with rfl | hx
            · omega
            exact HH.out.2.2.2.2.2.2.2 x (by rw [HR.out.1]; simp [hx]))
          simp at this ⊢
          omega
        have hpl : pre.length ≤ 300 := by have := congrArg List.length HR.out.1; simp at this; omega
        have hsl2 : (sDot (a :: b :: pre)).length ≤ 7000 := by omega
        rw [b128s_cons] at hdr
        have hoff : ((1 + (b128s pre).length : Nat) : Int) < xs.length := by
          have := congrArg List.length hdr
          rw [List.length_drop, List.length_append] at this
          omega
        obtain ⟨off, hof⟩ : ∃ off : Nat, off = 1 + (b128s pre).length := ⟨_, rfl⟩
        rw [← hof] at hdr hoff ⊢
        have hp := fun W hC => parseB128_any A c xs W hC off n hn.1 hn.2 (b128s post') hdr
        have HP := Lib.hid (And.intro hp hof)
        have hn0 := hn.1
        have hn1 := hn.2
        clear hdr hb1 hsl hp hof hn
        go_wp2_with (at_builtin; refine app_bytes rfl (.tmp 55) (.tmp 56) 23 rfl Tryd.underlying23 infoB w.heap.size u4 (sDot (a :: b :: pre)) [46] (some ⟨wr.heap.size, 0, none⟩) 1 1 rfl rfl (OwnB.alloc HR.out.2.2.1 _) (lit_C wr [46] 1 rfl (by simp) (by rfl)) (by have := HR.out.2.2.2.size; simp; omega) (by omega) ?_; intro v6 w6 ho6 hg6 hat6)
        have H6 := Lib.hid (And.intro ho6 (app_end HR.out.2.2.2 HR.out.2.2.1 hg6))
        clear ho6 hg6 hat6
        refine (HP.out.1 _ (Kd.C_below HH.out.2.2.2.2.2.1 H6.out.2)).mono ?_
        rintro e w7 ⟨rfl, rfl⟩
        go_wp2_with fail
        refine (appendUint_int w n hn0 hn1 v6 _ w6 H6.out.1 H6.out.2 (by simp; omega) HH.out.2.2.2.2.2.2.1).mono ?_
        rintro e w8 ⟨v8, rfl, H8⟩
        go_wp2
        go_roundg post'.length
        case measure =>
          have := HR.out.2.1
          simp at this
          omega
        case rel =>
          refine ⟨pre ++ [n], post', ?_, rfl, Lib.hid ⟨by rw [HR.out.1]; simp, rfl, ?_, H8.out.2⟩⟩
          · rw [b128s_snoc, List.length_append, HP.out.2]
            congr 1
            omega
          · have := H8.out.1
            rw [show a :: b :: (pre ++ [n]) = (a :: b :: pre) ++ [n] from rfl, sDot_snoc]
            exact this
  · have f3 : v - 80 = b := by have := HV.out; omega
    have f4 : a = 2 := by have := HV.out; omega
    have HA := Lib.hid f4
    clear f1 f2 f4
    go_wp2_with (first | (at_builtin; refine app_bytes rfl (.tmp 25) (.tmp 26) 23 rfl Tryd.underlying23 infoB w.heap.size (.slice (some ⟨w.heap.size, 0, none⟩) 0 (xs.length * 4 + 1)) [] [46] (some ⟨w1.heap.size, 0, none⟩) 1 1 rfl rfl (OwnB.alloc H1.out.1 _) (lit_C w1 [46] 1 rfl (by simp) (by rfl)) (by simp; omega) (by simp) ?_; intro v2 w2 ho2 hg2 hat2; have H2 := Lib.hid (And.intro ho2 (app_end H1.out.2 H1.out.1 hg2)); clear ho2 hg2 hat2) | (at_builtin; refine app_bytes rfl (.tmp 43) (.tmp 44) 23 rfl Tryd.underlying23 infoB w.heap.size v2 ([] ++ [46]) [50, 46] (some ⟨w2.heap.size, 0, none⟩) 2 2 rfl rfl (OwnB.alloc H2.out.1 _) (lit_C w2 [50, 46] 2 rfl (by simp) (by rfl)) (by have := H2.out.2.size; simp; omega) (by simp) ?_; intro v4 w4 ho4 hg4 hat4; have H4 := Lib.hid (And.intro ho4 (app_end H2.out.2 H2.out.1 hg4)); clear ho4 hg4 hat4))
    refine (appendUint_int w b b0 (by omega) v4 _ w4 H4.out.1 H4.out.2 (by simp) HH.out.2.2.2.2.2.2.1).mono ?_
    rintro e w5 ⟨v5, rfl, H5⟩
    have e2 : dec 2 = [50] := by simp [dec, Lib.decDigits_one]
    have hE : OwnB w5 w.heap.size v5 (sDot [a, b]) := by
      have := H5.out.1
      rw [HA.out]
      simpa [sDot, e2] using this
    have H := Lib.hid (And.intro hE H5.out.2)
    clear hE e2
    clear H5 H4 H2 H1
    go_wp2
    go_loopg [4, 5, 6, 7] rest.length (fun k u4 _ u6 u7 wr => ∃ pre post : List Int, u6 = .int .i64 ((1 + (b128s pre).length : Nat) : Int) ∧ u7 = .nilIface ∧ Hid (rest = pre ++ post ∧ k = post.length ∧ OwnB wr w.heap.size u4 (sDot (a :: b :: pre)) ∧ Below w.heap.size w wr))
    case atStart => exact ⟨[], rest, rfl, rfl, Lib.hid ⟨rfl, rfl, H.out⟩⟩
    case round =>
      obtain ⟨pre, post, rfl, rfl, HR⟩ := hrel
      have hdr : xs.drop (1 + (b128s pre).length) = b128s post := by
        rw [HH.out.2.1, HR.out.1]
        simp [b128s, Nat.add_comm 1]
      clear H
      cases post with
      | nil =>
        have hlen : ((1 + (b128s pre).length : Nat) : Int) = xs.length := by
          rw [HH.out.2.1, HR.out.1]; simp; omega
        rw [hlen]
        clear hdr hlen
        have hcs := HR.out.2.2.1.string (P := Tryd.prog) Tryd.underlying23 Tryd.underlying5 Tryd.underlying9
        go_wp2
        go_ret2
        refine ⟨?_, HR.out.2.2.2⟩
        have hre : rest = pre := by have := HR.out.1; simpa using this
        rw [hre]
        rfl
      | cons n post' =>
        have hn : 0 ≤ n ∧ n ≤ 4294967295 := HH.out.2.2.2.2.2.2.2 n (by rw [HR.out.1]; simp)
        have hb1 := b128_at n hn.1 hn.2
        have hsl : (sDot (a :: b :: pre)).length ≤ 21 * (2 + pre.length) := by
          have := sDot_len (a :: b :: pre) (by
            intro x hx
            rcases List.mem_cons.1 hx with rfl | hx
            · omega
            rcases List.mem_cons.1 hx with rfl | hx
            · omega
            exact HH.out.2.2.2.2.2.2.2 x (by rw [HR.out.1]; simp [hx]))
          simp at this ⊢
          omega
        have hpl : pre.length ≤ 300 := by have := congrArg List.length HR.out.1; simp at this; omega
        have hsl2 : (sDot (a :: b :: pre)).length ≤ 7000 := by omega
        rw [b128s_cons] at hdr
        have hoff : ((1 + (b128s pre).length : Nat) : Int) < xs.length := by
          have := congrArg List.length hdr
          rw [List.length_drop, List.length_append] at this
          omega
        obtain ⟨off, hof⟩ : ∃ off : Nat, off = 1 + (b128s pre).length := ⟨_, rfl⟩
        rw [← hof] at hdr hoff ⊢
        have hp := fun W hC => parseB128_any A c xs W hC off n hn.1 hn.2 (b128s post') hdr
        have HP := Lib.hid (And.intro hp hof)
        have hn0 := hn.1
        have hn1 := hn.2
        clear hdr hb1 hsl hp hof hn
        go_wp2_with (at_builtin; refine app_bytes rfl (.tmp 55) (.tmp 56) 23 rfl Tryd.underlying23 infoB w.heap.size u4 (sDot (a :: b :: pre)) [46] (some ⟨wr.heap.size, 0, none⟩) 1 1 rfl rfl (OwnB.alloc HR.out.2.2.1 _) (lit_C wr [46] 1 rfl (by simp) (by rfl)) (by have := HR.out.2.2.2.size; simp; omega) (by omega) ?_; intro v6 w6 ho6 hg6 hat6)
        have H6 := Lib.hid (And.intro ho6 (app_end HR.out.2.2.2 HR.out.2.2.1 hg6))
        clear ho6 hg6 hat6
        refine (HP.out.1 _ (Kd.C_below HH.out.2.2.2.2.2.1 H6.out.2)).mono ?_
        rintro e w7 ⟨rfl, rfl⟩
        go_wp2_with fail
        refine (appendUint_int w n hn0 hn1 v6 _ w6 H6.out.1 H6.out.2 (by simp; omega) HH.out.2.2.2.2.2.2.1).mono ?_
        rintro e w8 ⟨v8, rfl, H8⟩
        go_wp2
        go_roundg post'.length
        case measure =>
          have := HR.out.2.1
          simp at this
          omega
        case rel =>
          refine ⟨pre ++ [n], post', ?_, rfl, Lib.hid ⟨by rw [HR.out.1]; simp, rfl, ?_, H8.out.2⟩⟩
          · rw [b128s_snoc, List.length_append, HP.out.2]
            congr 1
            omega
          · have := H8.out.1
            rw [show a :: b :: (pre ++ [n]) = (a :: b :: pre) ++ [n] from rfl, sDot_snoc]
            exact this
end Go.Proofs.YtacbdhklfgapkaaDoor
