/- marshalUint64, marshalUint32: the walks. -/
import Derived.Test.YtacbdhklfgapkaaPFnUintx1
import Derived.Test.YtacbdhklfgapkaaUint
set_option linter.unusedVariables false
namespace Go.Proofs.Ytacbdhklfgapkaa
open Go.RowKit Go.Proofs.YtacbdhklfgapkaaW.PrintWords Go.Proofs.YtacbdhklfgapkaaW.PrintLast Go.Proofs.YtacbdhklfgapkaaW.PrintMore

theorem zzTrim_eq (l : List Int) : ∀ k, l.length < k → PFnUint.snmp_zzTrim.f k l = some (trim0 l) := by
  unfold PFnUint.snmp_zzTrim.f
  induction l with
  | nil =>
    intro k hk
    obtain ⟨k, rfl⟩ : ∃ m, k = m + 1 := ⟨k - 1, by simp at hk; omega⟩
    rw [PFnUint.snmp_zzTrim.l0, if_neg (by simp)]
    rfl
  | cons x l ih =>
    intro k hk
    obtain ⟨k, rfl⟩ : ∃ m, k = m + 1 := ⟨k - 1, by simp at hk; omega⟩
    have hk' : l.length < k := by simpa using hk
    rw [PFnUint.snmp_zzTrim.l0, if_pos (by simp), if_pos (by simp)]
    have hr : rd (x :: l) 0 = x := rfl
    rw [hr]
    unfold trim0
    by_cases hx : x = 0
    · rw [if_pos hx, if_pos hx, if_pos (by simp; omega)]
      exact ih k hk'
    · rw [if_neg hx, if_neg hx]

theorem as_u64 (v : Value) (w : World) : (Instr.typeAssert (.iface 37 v) 20 37 true).run Try.prog w = .ok (.tuple #[v, .bool true]) w := by kernel_rfl
theorem as_u32 (v : Value) (w : World) : (Instr.typeAssert (.iface 27 v) 20 27 true).run Try.prog w = .ok (.tuple #[v, .bool true]) w := by kernel_rfl
theorem as_uint (v : Value) (w : World) : (Instr.typeAssert (.iface 45 v) 20 45 true).run Try.prog w = .ok (.tuple #[v, .bool true]) w := by kernel_rfl
theorem as_u8 (v : Value) (w : World) : (Instr.typeAssert (.iface 5 v) 20 5 true).run Try.prog w = .ok (.tuple #[v, .bool true]) w := by kernel_rfl
theorem as_err (v : Value) (w : World) : (Instr.typeAssert (.iface 58 v) 20 58 true).run Try.prog w = .ok (.tuple #[v, .bool true]) w := by kernel_rfl
theorem as_uint_u32 (v : Value) (w : World) : (Instr.typeAssert (.iface 45 v) 20 27 true).run Try.prog w = .ok (.tuple #[.int .u32 0, .bool false]) w := by kernel_rfl
theorem as_u8_u32 (v : Value) (w : World) : (Instr.typeAssert (.iface 5 v) 20 27 true).run Try.prog w = .ok (.tuple #[.int .u32 0, .bool false]) w := by kernel_rfl
theorem as_u8_uint (v : Value) (w : World) : (Instr.typeAssert (.iface 5 v) 20 45 true).run Try.prog w = .ok (.tuple #[.int .u64 0, .bool false]) w := by kernel_rfl
theorem as_err_u32 (v : Value) (w : World) : (Instr.typeAssert (.iface 58 v) 20 27 true).run Try.prog w = .ok (.tuple #[.int .u32 0, .bool false]) w := by kernel_rfl
theorem as_err_uint (v : Value) (w : World) : (Instr.typeAssert (.iface 58 v) 20 45 true).run Try.prog w = .ok (.tuple #[.int .u64 0, .bool false]) w := by kernel_rfl
theorem as_err_u8 (v : Value) (w : World) : (Instr.typeAssert (.iface 58 v) 20 5 true).run Try.prog w = .ok (.tuple #[.int .u8 0, .bool false]) w := by kernel_rfl
attribute [local go_sem] as_u64 as_u32 as_uint as_u8 as_err as_uint_u32 as_u8_u32 as_u8_uint as_err_u32 as_err_uint as_err_u8

theorem bel_alloc (w : World) (o : Obj) : Below w.heap.size w (w.alloc o) := (Below.refl _ _).alloc (Nat.le_refl _) _

set_option maxHeartbeats 800000 in
theorem marshalUint64_any (n : Int) (h0 : 0 ≤ n) (h1 : n ≤ 18446744073709551615) (w : World) :
    Calls Try.prog 26 #[.iface 37 (.int .u64 n)] w fun e w' => GotV w w' (sUint n) e := by
  have hmk : ∀ w, (Instr.makeSlice 22 (.int .i64 8) (.int .i64 8)).run Try.prog w = .ok (.slice (some ⟨w.heap.size, 0, none⟩) 8 8) (w.alloc (.cells #[.int .u8 0, .int .u8 0, .int .u8 0, .int .u8 0, .int .u8 0, .int .u8 0, .int .u8 0, .int .u8 0] 5)) := fun _ => by kernel_rfl
  have ht := zzTrim_eq (be64 n) 9 (by simp [be64])
  rw [trim_be64 n h0 h1] at ht
  have HT := Lib.hid ht
  clear ht
  go_enter Try.func26, Try.ntmps26
  go_wp2_with fail
  refine (PutUint64_any n h0 h1 _ 5 _ _ (blk_new _ _) rfl).mono ?_
  rintro e w1 ⟨rfl, hb1, hg1⟩
  have hbel := (bel_alloc w _).grown hg1 (by simp) (fun k hk => by injection hk with hk; omega)
  have ho1 := OwnB.of_block (B := w.heap.size) hb1 rfl (Nat.le_refl _) (by simp [be64])
  have hV := OwnB.new ho1
  have hw1 : w.heap.size < w1.heap.size := blk_lt hb1
  have HH := Lib.hid (And.intro hV hbel)
  clear hb1 hg1 hbel ho1 hV
  go_wp2_with fail
  refine (PFnUint.snmp_zzTrim.calls 9 (fun k => w.heap.size ≤ k) (some ⟨w.heap.size, 0, none⟩) 8 (be64 n) _ _ HH.out.1 HT.out).mono ?_
  rintro e w2 ⟨v2, rfl, hv2, hb2⟩
  have hn2 : NewB w w2 v2 (if n = 0 then [] else uBytes n) := Kd.V_mono (e := 5) (base := 0) hv2 (fun k hk => hk.elim id (fun h => by omega))
  have hbw := below_step HH.out.2 hb2
  have hw2 := hb2.size
  clear hv2 hb2 HT HH
  by_cases c0 : n = 0
  · rw [if_pos c0] at hn2
    subst c0
    obtain ⟨A, c, rfl, hc, hC⟩ := hn2.reads
    have HB := Lib.hid hbw
    clear hn2 hC hbw
    simp only [List.length_nil]
    go_wp2
    go_ret2
    have e : sUint 0 = [0] := rfl
    rw [e]
    exact ⟨_, rfl, OwnB.newAt (OwnB.lit w2 w2.heap.size [0] (Nat.le_refl _) (by simp) rfl) (by omega), HB.out.alloc (by omega) _⟩
  · rw [if_neg c0] at hn2
    obtain ⟨A, c, rfl, hc, hC⟩ := hn2.reads
    have hln := uBytes_len n
    obtain ⟨ad, rfl, hcell⟩ := cell_at0 hC (by omega)
    have hbr := uBytes_isB n h0 h1 0
    have hu := u8_bit7 _ hbr.1 hbr.2
    have hs1 := Lib.hid (show rd (uBytes n) 0 > 127 → sUint n = 0 :: uBytes n from fun h => if_pos h)
    have hs2 := Lib.hid (show ¬ rd (uBytes n) 0 > 127 → sUint n = uBytes n from fun h => if_neg h)
    have HN := Lib.hid (And.intro hn2 (And.intro hbw hC))
    have l0 : (((uBytes n).length : Int) == 0) = false := beq_eq_false_iff_ne.2 (by omega)
    have l1 : (0 < (uBytes n).length) = True := eq_true (by omega)
    have l2 : (uBytes n).length ≤ 8 := hln.2
    clear hn2 hbw hC hln
    generalize uBytes n = xs at *
    generalize rd xs 0 = b at *
    by_cases c1 : 128 ≤ b
    · rw [if_pos c1] at hu
      go_wp2_with (at_builtin; refine app_bytes rfl (.tmp 32) (.tmp 33) 22 rfl Try.underlying22 infoB w2.heap.size (.slice (some ⟨w2.heap.size, 0, none⟩) 1 1) [0] xs (some ad) xs.length c rfl rfl (OwnB.lit w2 _ [0] (Nat.le_refl _) (by simp) (by rfl)) (Kd.C_alloc HN.out.2.2 _) (by simp) (by simp; omega) ?_; intro v1 w3 ho hg hat)
      go_ret2
      rw [hs1.out (by omega)]
      exact ⟨_, rfl, OwnB.newAt ho (by omega), (HN.out.2.1.alloc (by omega) _).grown hg (by simp; omega) (fun k hk => by simp [Value.ownBlock] at hk; omega)⟩
    · rw [if_neg c1] at hu
      go_wp2
      go_ret2
      rw [hs2.out (by omega)]
      exact ⟨_, rfl, HN.out.1, HN.out.2.1⟩
/-- Kinds of numbers that marshalUint32 takes. -/
def U32Arg (n : Int) (v : Value) : Prop := v = .iface 27 (.int .u32 n) ∨ v = .iface 45 (.int .u64 n) ∨ (v = .iface 5 (.int .u8 n) ∧ n ≤ 255) ∨ (v = .iface 58 (.int .u8 n) ∧ n ≤ 255)

set_option maxRecDepth 100000 in
set_option maxHeartbeats 2000000 in
theorem marshalUint32_at (n : Int) (h0 : 0 ≤ n) (h1 : n ≤ 4294967295) (v : Value) (hv : U32Arg n v) (s : Nat) (hs : s = 0 ∨ s = 1 ∨ s = 2 ∨ s = 3) (hz : ∀ j, j < s → (be32 n)[j]?.getD 0 = 0) (hnz : s < 3 → (be32 n)[s]?.getD 0 ≠ 0) (hd : (be32 n).drop s = uBytes n) (w : World) :
    Calls Try.prog 27 #[v] w fun e w' => GotV w w' (sUint n) e := by
  have hmk : ∀ w, (Instr.makeSlice 22 (.int .i64 4) (.int .i64 4)).run Try.prog w = .ok (.slice (some ⟨w.heap.size, 0, none⟩) 4 4) (w.alloc (.cells #[.int .u8 0, .int .u8 0, .int .u8 0, .int .u8 0] 5)) := fun _ => by kernel_rfl
  have HZ := Lib.hid (And.intro hz (And.intro hnz hd))
  have hs3 : s ≤ 3 := by omega
  have HS := Lib.hid hs
  clear hz hnz hd hs
  rcases hv with rfl | rfl | ⟨rfl, h255⟩ | ⟨rfl, h255⟩
  all_goals
    go_enter Try.func27, Try.ntmps27
    go_wp2_with fail
    refine (PutUint32_any n h0 h1 _ 5 _ _ (blk_new _ _) rfl).mono ?_
    rintro e w1 ⟨rfl, hb1, hg1⟩
    have hbel := (bel_alloc w _).grown hg1 (by simp) (fun k hk => by injection hk with hk; omega)
    have hw1 : w.heap.size < w1.heap.size := blk_lt hb1
    have HB := Lib.hid hb1
    have HL := Lib.hid hbel
    clear hb1 hg1 hbel
    go_wp2
    go_loop [11] (fun i => ∃ k : Nat, k ≤ s ∧ i = .int .i64 k) (fun i => 3 - (intOf i).toNat)
    case atStart => exact ⟨0, Nat.zero_le _, rfl⟩
    case round =>
      obtain ⟨k, hk, rfl⟩ := hrel
      have hc := be_cell' HB.out k (by show k < 4; omega)
      by_cases hlt : k < s
      · have hzk : ((be32 n)[k]?.getD 0 != 0) = false := by rw [HZ.out.1 k hlt]; rfl
        have hk3 : k < 3 := by omega
        go_wp2
        go_round
        case rel => exact ⟨k + 1, by omega, by go_num⟩
        case measure => simp [intOf]; omega
      · obtain rfl : k = s := by omega
        have eb : (be32 n)[k]?.getD 0 = rd (uBytes n) 0 := by
          rw [← HZ.out.2.2]
          simp [Go.Proofs.YtacbdhklfgapkaaW.PrintWords.rd, List.getD_eq_getElem?_getD]
        rw [eb] at hc
        have hnz := HZ.out.2.1
        rw [eb] at hnz
        have hbr := uBytes_isB n h0 (by omega) 0
        have hu := u8_bit7 _ hbr.1 hbr.2
        have hs1 := Lib.hid (show rd (uBytes n) 0 > 127 → sUint n = 0 :: uBytes n from fun h => if_pos h)
        have hs2 := Lib.hid (show ¬ rd (uBytes n) 0 > 127 → sUint n = uBytes n from fun h => if_neg h)
        have hul : (uBytes n).length = 4 - k := by rw [← HZ.out.2.2, List.length_drop]; rfl
        have hdr := Lib.hid HZ.out.2.2
        have HU := Lib.hid hul
        have HS' := HS.out
        clear HZ HS hul eb hlt hk hs3
        generalize rd (uBytes n) 0 = b at *
        rcases HS' with rfl | rfl | rfl | rfl
        · have hR := Lib.hid (readB_block (ok := fun k => w.heap.size ≤ k) HB.out hdr.out HU.out (by omega) (Nat.le_refl _))
          have hne : (b != 0) = true := bne_iff_ne.2 (hnz (by omega))
          by_cases c1 : 128 ≤ b
          · rw [if_pos c1] at hu
            go_wp2_with (at_builtin; refine app_bytes rfl (.tmp 60) (.tmp 61) 22 rfl Try.underlying22 infoB w1.heap.size (.slice (some ⟨w1.heap.size, 0, none⟩) 1 1) [0] (uBytes n) (some ⟨w.heap.size, 0, none⟩) 4 4 rfl rfl (OwnB.lit w1 _ [0] (Nat.le_refl _) (by simp) (by rfl)) (Kd.C_alloc (ReadB.C hR.out) _) (by simp) (by simp) ?_; intro v1 w3 ho hg hat)
            go_ret2
            rw [hs1.out (by omega)]
            exact ⟨_, rfl, OwnB.newAt ho (by omega), (HL.out.alloc (by omega) _).grown hg (by simp; omega) (fun k hk => by simp [Value.ownBlock] at hk; omega)⟩
          · rw [if_neg c1] at hu
            go_wp2
            go_ret2
            rw [hs2.out (by omega)]
            exact ⟨_, rfl, hR.out, HL.out⟩
        · have hR := Lib.hid (readB_block (ok := fun k => w.heap.size ≤ k) HB.out hdr.out HU.out (by omega) (Nat.le_refl _))
          have hne : (b != 0) = true := bne_iff_ne.2 (hnz (by omega))
          by_cases c1 : 128 ≤ b
          · rw [if_pos c1] at hu
            go_wp2_with (at_builtin; refine app_bytes rfl (.tmp 60) (.tmp 61) 22 rfl Try.underlying22 infoB w1.heap.size (.slice (some ⟨w1.heap.size, 0, none⟩) 1 1) [0] (uBytes n) (some ⟨w.heap.size, 1, none⟩) 3 3 rfl rfl (OwnB.lit w1 _ [0] (Nat.le_refl _) (by simp) (by rfl)) (Kd.C_alloc (ReadB.C hR.out) _) (by simp) (by simp) ?_; intro v1 w3 ho hg hat)
            go_ret2
            rw [hs1.out (by omega)]
            exact ⟨_, rfl, OwnB.newAt ho (by omega), (HL.out.alloc (by omega) _).grown hg (by simp; omega) (fun k hk => by simp [Value.ownBlock] at hk; omega)⟩
          · rw [if_neg c1] at hu
            go_wp2
            go_ret2
            rw [hs2.out (by omega)]
            exact ⟨_, rfl, hR.out, HL.out⟩
        · have hR := Lib.hid (readB_block (ok := fun k => w.heap.size ≤ k) HB.out hdr.out HU.out (by omega) (Nat.le_refl _))
          have hne : (b != 0) = true := bne_iff_ne.2 (hnz (by omega))
          by_cases c1 : 128 ≤ b
          · rw [if_pos c1] at hu
            go_wp2_with (at_builtin; refine app_bytes rfl (.tmp 60) (.tmp 61) 22 rfl Try.underlying22 infoB w1.heap.size (.slice (some ⟨w1.heap.size, 0, none⟩) 1 1) [0] (uBytes n) (some ⟨w.heap.size, 2, none⟩) 2 2 rfl rfl (OwnB.lit w1 _ [0] (Nat.le_refl _) (by simp) (by rfl)) (Kd.C_alloc (ReadB.C hR.out) _) (by simp) (by simp) ?_; intro v1 w3 ho hg hat)
            go_ret2
            rw [hs1.out (by omega)]
            exact ⟨_, rfl, OwnB.newAt ho (by omega), (HL.out.alloc (by omega) _).grown hg (by simp; omega) (fun k hk => by simp [Value.ownBlock] at hk; omega)⟩
          · rw [if_neg c1] at hu
            go_wp2
            go_ret2
            rw [hs2.out (by omega)]
            exact ⟨_, rfl, hR.out, HL.out⟩
        · have hR := Lib.hid (readB_block (ok := fun k => w.heap.size ≤ k) HB.out hdr.out HU.out (by omega) (Nat.le_refl _))
          by_cases c1 : 128 ≤ b
          · rw [if_pos c1] at hu
            go_wp2_with (at_builtin; refine app_bytes rfl (.tmp 60) (.tmp 61) 22 rfl Try.underlying22 infoB w1.heap.size (.slice (some ⟨w1.heap.size, 0, none⟩) 1 1) [0] (uBytes n) (some ⟨w.heap.size, 3, none⟩) 1 1 rfl rfl (OwnB.lit w1 _ [0] (Nat.le_refl _) (by simp) (by rfl)) (Kd.C_alloc (ReadB.C hR.out) _) (by simp) (by simp) ?_; intro v1 w3 ho hg hat)
            go_ret2
            rw [hs1.out (by omega)]
            exact ⟨_, rfl, OwnB.newAt ho (by omega), (HL.out.alloc (by omega) _).grown hg (by simp; omega) (fun k hk => by simp [Value.ownBlock] at hk; omega)⟩
          · rw [if_neg c1] at hu
            go_wp2
            go_ret2
            rw [hs2.out (by omega)]
            exact ⟨_, rfl, hR.out, HL.out⟩
theorem marshalUint32_any (n : Int) (h0 : 0 ≤ n) (h1 : n ≤ 4294967295) (v : Value) (hv : U32Arg n v) (w : World) :
    Calls Try.prog 27 #[v] w fun e w' => GotV w w' (sUint n) e := by
  have pt : ∀ j, (be32 n)[j]?.getD 0 = if j = 0 then n / 16777216 else if j = 1 then n / 65536 % 256 else if j = 2 then n / 256 % 256 else if j = 3 then n % 256 else 0 := by
    intro j
    match j with
    | 0 => rfl
    | 1 => rfl
    | 2 => rfl
    | 3 => rfl
    | j + 4 => simp [be32]
  by_cases c1 : n ≤ 255
  · refine marshalUint32_at n h0 h1 v hv 3 (by omega) (fun j hj => ?_) (fun h => by omega) ?_ w
    · rw [pt j]
      rcases (by omega : j = 0 ∨ j = 1 ∨ j = 2) with rfl | rfl | rfl
      · rw [if_pos rfl]; omega
      · rw [if_neg (by omega), if_pos rfl]; omega
      · rw [if_neg (by omega), if_neg (by omega), if_pos rfl]; omega
    · unfold uBytes be32
      rw [if_pos c1]
      simp; omega
  by_cases c2 : n ≤ 65535
  · refine marshalUint32_at n h0 h1 v hv 2 (by omega) (fun j hj => ?_) (fun h => ?_) ?_ w
    · rw [pt j]
      rcases (by omega : j = 0 ∨ j = 1) with rfl | rfl
      · rw [if_pos rfl]; omega
      · rw [if_neg (by omega), if_pos rfl]; omega
    · rw [pt 2, if_neg (by omega), if_neg (by omega), if_pos rfl]; omega
    · unfold uBytes be32
      rw [if_neg c1, if_pos c2]
      simp; omega
  by_cases c3 : n ≤ 16777215
  · refine marshalUint32_at n h0 h1 v hv 1 (by omega) (fun j hj => ?_) (fun h => ?_) ?_ w
    · rw [pt j]
      obtain rfl : j = 0 := by omega
      rw [if_pos rfl]; omega
    · rw [pt 1, if_neg (by omega), if_pos rfl]; omega
    · unfold uBytes be32
      rw [if_neg c1, if_neg c2, if_pos c3]
      simp; omega
  · refine marshalUint32_at n h0 h1 v hv 0 (by omega) (fun j hj => by omega) (fun h => ?_) ?_ w
    · rw [pt 0, if_pos rfl]; omega
    · unfold uBytes be32
      rw [if_neg c1, if_neg c2, if_neg c3, if_pos (by omega)]
      rfl
end Go.Proofs.Ytacbdhklfgapkaa
