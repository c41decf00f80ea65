/- spec.Name: the walk. -/
import Derived.Test.YtacbdhklfgapkaaDoorOid
import Derived.Test.YtacbdhklfgapkaaDoorClone
import Derived.Lib.EndianBits
set_option linter.unusedVariables false
namespace Go.Proofs.YtacbdhklfgapkaaDoor
open Go.RowKit Go.Proofs.YtacbdhklfgapkaaDoorW.PrintWords Go.Proofs.YtacbdhklfgapkaaDoorW.PrintLast Go.Proofs.YtacbdhklfgapkaaDoorW.PrintMore

theorem and127u (x : Int) (h0 : 0 ≤ x) (h1 : x ≤ 18446744073709551615) : bits .and .u64 x 127 = x % 128 := by
  have := bits_mask .u64 64 (by decide) wraps_u64 7 (by decide) x h0 (by omega)
  simpa using this
theorem or128u (x : Int) (h0 : 0 ≤ x) (h1 : x < 128) : bits .or .u8 x 128 = x + 128 := by
  rw [u8_or x 128 h0 (by omega) (by omega) (by omega)]
  have := nat_join 7 128 x.toNat (by decide) (by omega)
  rw [Nat.or_comm, show (128 : Int).toNat = 128 from rfl, this]
  omega

theorem infoU64 : (Tryd.prog.info? 28).map (fun i => (i.zero, i.size, i.bytes)) = some (some (.int .u64 0), 1, 8) := by kernel_rfl
theorem infoU64' : ∃ i, Tryd.prog.info? 28 = some i ∧ i.size = 1 := by
  obtain ⟨i, hi, hz⟩ := Option.map_eq_some_iff.1 infoU64
  simp at hz
  exact ⟨i, hi, hz.2.1⟩
/-- What the rounds make of the number n and the bytes behind it. -/
def finK : Nat → Int → List Int → List Int
  | 0, _, part => part
  | k + 1, n, part => if n < 128 then part else finK k (n / 128) ((n / 128 % 128 + 128) :: part)
theorem finK_b128 (x : Int) (h0 : 0 ≤ x) (h1 : x ≤ 4294967295) : finK 4 x [x % 128] = b128 x := by
  have d2 : x / 128 / 128 = x / 16384 := by omega
  have d3 : x / 16384 / 128 = x / 2097152 := by omega
  have d4 : x / 2097152 / 128 = x / 268435456 := by omega
  simp only [finK, d2, d3, d4]
  unfold b128
  by_cases c1 : x < 128
  · rw [if_pos c1, if_pos c1, show x % 128 = x by omega]
  rw [if_neg c1, if_neg c1]
  by_cases c2 : x < 16384
  · rw [if_pos c2, if_pos (by omega), show x / 128 % 128 = x / 128 by omega]
  rw [if_neg c2, if_neg (by omega)]
  by_cases c3 : x < 2097152
  · rw [if_pos c3, if_pos (by omega), show x / 16384 % 128 = x / 16384 by omega]
  rw [if_neg c3, if_neg (by omega)]
  by_cases c4 : x < 268435456
  · rw [if_pos c4, if_pos (by omega), show x / 2097152 % 128 = x / 2097152 by omega]
  rw [if_neg c4, if_neg (by omega), show x / 268435456 % 128 = x / 268435456 by omega]

set_option maxRecDepth 100000 in
theorem specName_any (arcs : List Int) (h2 : 2 ≤ arcs.length) (h60 : arcs.length ≤ 60) (hx : ∀ x ∈ arcs, 0 ≤ x ∧ x ≤ 4294967295) (A : Option Addr) (c : Nat) (hc : arcs.length ≤ c) (w : World) (hC : Kd.C (Kd.int .u64) w A arcs.length arcs) :
    Calls Tryd.prog 17 #[.slice A arcs.length c] w fun e w' => ∃ v, e = .returned v ∧ OwnB w' w.heap.size v (sName arcs) ∧ Below w.heap.size w w' := by
  have hx0 := hx (rd arcs 0) (by unfold Go.Proofs.YtacbdhklfgapkaaDoorW.PrintWords.rd; rw [List.getD_eq_getElem?_getD, List.getElem?_eq_getElem (by simp; omega)]; simp)
  have hx1 := hx (rd arcs 1) (by unfold Go.Proofs.YtacbdhklfgapkaaDoorW.PrintWords.rd; rw [List.getD_eq_getElem?_getD, List.getElem?_eq_getElem (by simp; omega)]; simp)
  obtain ⟨ad, rfl, g0⟩ := Kd.at_int hC 0 (by omega) (by omega)
  obtain ⟨ad', ea, g1⟩ := Kd.at_int hC 1 (by omega) (by omega)
  obtain rfl : ad = ad' := by injection ea
  rw [show (0 : Int).toNat = 0 from rfl, Addr.add_zero'] at g0
  simp only [show (1 : Int).toNat = 1 from rfl, Go.Addr.add, Nat.reduceEqDiff, if_false] at g1
  generalize hq0 : rd arcs 0 = q0 at *
  generalize hq1 : rd arcs 1 = q1 at *
  have m0 : (0 < arcs.length) = True := eq_true (by omega)
  have m1 : (1 < arcs.length) = True := eq_true (by omega)
  have e1 : IntKind.u64.wrap (40 * q0) = 40 * q0 := by simp [IntKind.wrap, IntKind.bits, IntKind.signed]; omega
  have e2 : IntKind.u64.wrap (40 * q0 + q1) = 40 * q0 + q1 := by simp [IntKind.wrap, IntKind.bits, IntKind.signed]; omega
  have HH := Lib.hid (And.intro hq0 (And.intro hq1 (And.intro hx (And.intro hC hc))))
  clear hq0 hq1 hx hC ea hc
  have hal : ∀ o, Below w.heap.size w (w.alloc o).drew := fun o => below_drew ((Below.refl _ _).alloc (Nat.le_refl _) o)
  go_enter Tryd.func17, Tryd.ntmps17
  go_wp2_with fail
  go_region_held (fun w' => w'.cell? ad = some (.int .u64 q0) ∧ w'.cell? ⟨ad.block, ad.off + 1, none⟩ = some (.int .u64 q1)) (first | exact ⟨g0, g1⟩ | exact ⟨((hal _).cell (World.block_lt_of_cell? w _ g0)).trans g0, ((hal _).cell (World.block_lt_of_cell? w _ g1)).trans g1⟩) (fail)
  have ho0 : OwnB (w.alloc (.cells #[Value.int .u8 ((40 * q0 + q1) % 256)] 5)).drew w.heap.size (.slice (some ⟨w.heap.size, 0, none⟩) 1 1) [(40 * q0 + q1) % 256] := (OwnB.lit w _ [(40 * q0 + q1) % 256] (Nat.le_refl _) (by simp) (by rfl)).drew
  rw [IntKind.wrap_u8]
  obtain ⟨hq0, hq1, hx, hC, hc⟩ := HH.out
  obtain ⟨i8, hi8, hs8⟩ := infoU64'
  obtain ⟨A8, hcut, hA8, hC8⟩ := print_drop_of (P := Tryd.prog) (Value.int .u64) 0 35 28 .i64 Tryd.underlying35 hi8 hs8 (some ad) c arcs 2 (by omega) (by omega) hc
  have hCl := Kd.C_of_reads (h1 := fun _ => rfl) (hA8 _ (Kd.reads_of_C hC))
  have hle : sName arcs = (40 * q0 + q1) % 256 :: b128s (arcs.drop 2) := by unfold sName; rw [hq0, hq1]
  have hxl : ∀ x ∈ arcs.drop 2, 0 ≤ x ∧ x ≤ 4294967295 := fun x h => hx x (List.mem_of_mem_drop h)
  have hll : (arcs.drop 2).length ≤ 60 := by rw [List.length_drop]; omega
  rw [show (2 : Int).toNat = 2 from rfl] at hcut hCl
  have HB0 := Lib.hid (hal (.cells #[Value.int .u8 ((40 * q0 + q1) % 256)] 5))
  have HL := Lib.hid (And.intro hle (And.intro hxl hCl))
  have HO0 := Lib.hid ho0
  clear hle hxl hCl hA8 hC8 hx hC hc hq0 hq1 HH hs8 hi8 hx0 hx1 e1 e2 g0 g1 m0 m1 ho0 hal
  generalize (40 * q0 + q1) % 256 = q at *
  generalize arcs.drop 2 = l at *
  go_wp2
  go_loopg [3, 20] l.length (fun k v3 v20 wr => ∃ i : Nat, v20 = .int .i64 i ∧ Hid (i ≤ l.length ∧ k = l.length - i ∧ OwnB wr w.heap.size v3 (q :: b128s (l.take i)) ∧ Below w.heap.size w wr))
  case atStart => exact ⟨0, rfl, Lib.hid ⟨Nat.zero_le _, rfl, HO0.out, HB0.out⟩⟩
  case round =>
    obtain ⟨i, rfl, HR⟩ := hrel
    generalize wr = wo at *
    by_cases hi : (i : Int) < l.length
    · have hil : i < l.length := by omega
      obtain ⟨x0, x1⟩ := HL.out.2.1 l[i] (List.getElem_mem hil)
      have hb := HR.out.2.2.2
      obtain ⟨ad8, rfl, g⟩ := Kd.at_int (Kd.C_below HL.out.2.2 hb) i (by omega) hi
      have hrd : rd l i = l[i] := by
        unfold Go.Proofs.YtacbdhklfgapkaaDoorW.PrintWords.rd
        rw [Int.toNat_natCast, List.getD_eq_getElem?_getD, List.getElem?_eq_getElem hil]
        rfl
      rw [hrd, Int.toNat_natCast] at g
      have HX := Lib.hid (show l.take (i + 1) = l.take i ++ [l[i]] from List.take_succ_eq_append_getElem hil)
      have a1 := and127u l[i] x0 (by omega)
      have a2 : l[i] % 128 % 256 = l[i] % 128 := by omega
      clear hb hrd HO0 HB0
      generalize l[i] = x at *
      have hil' : (i < l.length) = True := eq_true hil
      clear hil
      go_wp2
      have hpart : OwnB (wo.alloc (.cells #[Value.int .u8 (x % 128)] 5)) wo.heap.size (.slice (some ⟨wo.heap.size, 0, none⟩) 1 1) [x % 128] := OwnB.lit wo _ [x % 128] (Nat.le_refl _) (by simp) (by rfl)
      have HP := Lib.hid (And.intro hpart ((Below.refl wo.heap.size wo).alloc (Nat.le_refl _) (.cells #[Value.int .u8 (x % 128)] 5)))
      have HF := Lib.hid (finK_b128 x x0 x1)
      clear hpart g hcut
      go_loopg [5, 6] 4 (fun k v5 v6 w2 => ∃ (n : Int) (part : List Int), v5 = .int .u64 n ∧ Hid (0 ≤ n ∧ n ≤ 4294967295 ∧ finK k n part = b128 x ∧ OwnB w2 wo.heap.size v6 part ∧ Below wo.heap.size wo w2 ∧ part.length + k ≤ 5 ∧ (k = 0 → n < 128) ∧ (k = 1 → n < 16384) ∧ (k = 2 → n < 2097152) ∧ (k = 3 → n < 268435456) ∧ k ≤ 4))
      case atStart => exact ⟨x, _, rfl, Lib.hid ⟨x0, x1, HF.out, HP.out.1, HP.out.2, by simp, by omega, by omega, by omega, by omega, by omega⟩⟩
      case round =>
        obtain ⟨n, part, rfl, HI⟩ := hrel
        obtain ⟨n0, n1, hf, ho, hb, hpl, k0, k1, k2, k3, k4⟩ := HI.out
        clear HP HF
        by_cases hn : n < 128
        · have hfin : part = b128 x := by
            rw [← hf]
            cases gk <;> simp [finK, hn]
          have HI := Lib.hid (And.intro ho hb)
          obtain ⟨A, cc, rfl, hcc, hC⟩ := Kd.R_reads ho
          subst hfin
          have HC := Lib.hid hC
          have hlb := b128_len x
          have hw := hb.size
          obtain ⟨h1, h2, h3, h4⟩ := HR.out
          have hww := h4.size
          have HO := Lib.hid (And.intro (OwnB.below h3 hb) (And.intro (below_step h4 hb) (show (q :: b128s (l.take i)).length ≤ 301 by have := b128s_len (l.take i); rw [List.length_take] at this; simp only [List.length_cons]; omega)))
          have HI2 := Lib.hid (And.intro h1 h2)
          have hi60 : i ≤ 60 := by omega
          clear hf ho hb k0 k1 k2 k3 k4 hpl hC h1 h2 h3 h4
          go_wp2_with (at_builtin; refine app_bytes rfl (.tmp 39) (.tmp 40) 23 rfl Tryd.underlying23 infoB w.heap.size u3 (q :: b128s (l.take i)) (b128 x) A (b128 x).length cc rfl rfl HO.out.1 HC.out (by omega) (by have := HO.out.2.2; omega) ?_; intro v1 w3 ho3 hg3 hat3)
          go_roundg (l.length - (i + 1))
          case measure =>
            have := HI2.out
            omega
          case rel =>
            have hi2 := HI2.out
            refine ⟨i + 1, by go_num, Lib.hid ⟨by omega, rfl, ?_, HO.out.2.1.grown hg3 (by omega) ?_⟩⟩
            · rw [HX.out, b128s_snoc]
              exact ho3
            · intro k hk
              exact ((Kd.R_bound HO.out.1).1 k hk).2.1
        · obtain ⟨k', rfl⟩ : ∃ k', gk = k' + 1 := ⟨gk - 1, by omega⟩
          have hnd : n / 128 ≤ 4294967295 := by omega
          have b1 := and127u (n / 128) (by omega) (by omega)
          have b2 : n / 128 % 128 % 256 = n / 128 % 128 := by omega
          have b3 := or128u (n / 128 % 128) (by omega) (by omega)
          have hw := hb.size
          obtain ⟨A, cc, rfl, hcc, hC⟩ := Kd.R_reads ho
          have hpl2 : part.length ≤ 5 := by omega
          simp only [finK, if_neg hn] at hf
          have HC := Lib.hid hC
          have HI := Lib.hid (And.intro hf (And.intro hb (And.intro hpl (And.intro k1 (And.intro k2 (And.intro k3 k4))))))
          clear hf ho hb hpl k0 k1 k2 k3 k4 hC HR
          go_wp2_with (at_builtin; refine app_bytes rfl (.tmp 36) (.tmp 37) 23 rfl Tryd.underlying23 infoB wr.heap.size (.slice (some ⟨wr.heap.size, 0, none⟩) 1 1) [n / 128 % 128 + 128] part A part.length cc rfl rfl (OwnB.lit wr _ [n / 128 % 128 + 128] (Nat.le_refl _) (by simp) (by rfl)) (Kd.C_alloc HC.out _) (by simp) (by simp; omega) ?_; intro v1 w3 ho3 hg3 hat3)
          go_roundg k'
          case measure => omega
          case rel =>
            obtain ⟨hf, hb, hpl, k1, k2, k3, k4⟩ := HI.out
            refine ⟨n / 128, _, by go_num, Lib.hid ⟨by omega, by omega, hf, ?_, ?_, by simp at hpl ⊢; omega, by omega, by omega, by omega, by omega, by omega⟩⟩
            · exact Kd.R_lower ho3 hw
            · exact (hb.alloc hw _).grown hg3 (by simp; omega) (fun k hk => by simp [Value.ownBlock] at hk; omega)
    · go_wp2
      go_ret
      obtain ⟨h1, h2, h3, h4⟩ := HR.out
      obtain ⟨hle, -, -⟩ := HL.out
      refine ⟨_, rfl, ?_, h4⟩
      rw [hle]
      rw [List.take_of_length_le (by omega)] at h3
      exact h3
end Go.Proofs.YtacbdhklfgapkaaDoor
