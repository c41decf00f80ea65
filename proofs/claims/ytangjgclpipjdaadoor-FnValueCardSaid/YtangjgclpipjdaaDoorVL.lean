/- Addresses of four numbers: what the reading of one meets. Plain. net/netip: a text of four numbers is read; zzParse: the walks. net/netip.As16, zzParse: the walks. zzParse, ZZAddressOk, ipv4toBytes: the walks. -/
import Derived.Test.YtangjgclpipjdaaDoorVD
import Derived.Test.YtangjgclpipjdaaDoorVG
import Derived.Test.YtangjgclpipjdaaDoorVI
import Derived.Shelf.RegionOpenPlain
set_option linter.unusedVariables false
namespace Go.Proofs.YtangjgclpipjdaaDoor
open Go.RowKit Go.Proofs.YtangjgclpipjdaaDoorW.PrintWords Go.Proofs.YtangjgclpipjdaaDoorW.PrintLast Go.Proofs.YtangjgclpipjdaaDoorW.PrintMore

theorem addrGo_len (l : List Int) : ∀ (out : List Int) (n : Int) (sm : Bool) (r : List Int), addrGo l out n sm = some r → out.length + 1 ≤ r.length := by
  induction l with
  | nil =>
    intro out n sm r h
    unfold addrGo at h
    split at h
    · simp only [Option.some.injEq] at h; subst h; simp
    · simp at h
  | cons c l ih =>
    intro out n sm r h
    unfold addrGo at h
    split at h
    · split at h
      · have := ih _ _ _ _ h
        simp at this
        omega
      · simp at h
    · split at h
      · simp at h
      · exact ih _ _ _ _ h
theorem addrGo_dot {l out : List Int} {n : Int} {sm : Bool} {r : List Int} (h : addrGo (46 :: l) out n sm = some r) (h4 : r.length = 4) : sm = true ∧ out.length ≤ 2 ∧ l ≠ [] ∧ addrGo l (out ++ [n]) 0 false = some r := by
  unfold addrGo at h
  rw [if_pos rfl] at h
  split at h
  · rename_i hc
    have hl := addrGo_len _ _ _ _ _ h
    simp at hl
    refine ⟨hc.1, by omega, ?_, h⟩
    rintro rfl
    simp [addrGo] at h
  · simp at h
theorem addrGo_dig {c : Int} {l out : List Int} {n : Int} {sm : Bool} {r : List Int} (h : addrGo (c :: l) out n sm = some r) (hc : c ≠ 46) : 48 ≤ c ∧ c ≤ 57 ∧ ¬ (sm = true ∧ n = 0) ∧ 10 * n + (c - 48) ≤ 255 ∧ addrGo l out (10 * n + (c - 48)) true = some r := by
  unfold addrGo at h
  rw [if_neg hc] at h
  split at h
  · simp at h
  · rename_i hn
    simp only [not_or] at hn
    exact ⟨by omega, by omega, hn.2.2.1, by omega, h⟩
theorem addrGo_end {out : List Int} {n : Int} {sm : Bool} {r : List Int} (h : addrGo [] out n sm = some r) : sm = true ∧ r = out ++ [n] := by
  unfold addrGo at h
  split at h
  · rename_i hc
    simp only [Option.some.injEq] at h
    exact ⟨hc.1, h.symm⟩
  · simp at h
/-- The block of four fields, so far. -/
def fields (out : List Int) : List Int := out ++ List.replicate (4 - out.length) 0
theorem fields_set (out : List Int) (n : Int) (h : out.length ≤ 3) : (fields out).set out.length n = fields (out ++ [n]) := by
  unfold fields
  rw [List.length_append, List.length_singleton, show 4 - out.length = (4 - (out.length + 1)) + 1 by omega, List.replicate_succ, List.set_append_right _ _ (Nat.le_refl _)]
  simp
theorem fields_len (out : List Int) (h : out.length ≤ 4) : (fields out).length = 4 := by
  unfold fields
  simp
  omega
theorem fields_four (r : List Int) (h : r.length = 4) : fields r = r := by
  unfold fields
  rw [h]
  simp
theorem sAddr_go {tx out : List Int} (h : sAddr tx = (out, true)) : addrGo tx [] 0 false = some out ∧ out.length = 4 := by
  unfold sAddr finD at h
  cases hg : addrGo tx [] 0 false with
  | none => rw [hg] at h; simp at h
  | some r =>
    rw [hg] at h
    simp only [Prod.mk.injEq, decide_eq_true_eq] at h
    obtain ⟨rfl, h⟩ := h
    exact ⟨rfl, h⟩
end Go.Proofs.YtangjgclpipjdaaDoor
set_option linter.unusedVariables false
namespace Go.Proofs.YtangjgclpipjdaaDoor
open Go.RowKit Go.Proofs.YtangjgclpipjdaaDoorW.PrintWords Go.Proofs.YtangjgclpipjdaaDoorW.PrintLast Go.Proofs.YtangjgclpipjdaaDoorW.PrintMore

abbrev fldO (l : List Int) : Obj := .cells (l.map (Value.int .u8)).toArray 186 (0, 0)
theorem below_al2 (w : World) (o1 o2 : Obj) : Below w.heap.size w ((w.alloc o1).alloc o2) := ((Below.refl _ _).alloc (Nat.le_refl _) _).alloc (by simp) _
theorem fld_cell {W : World} {g : Nat} {out : List Int} (h : W.heap[g]? = some (fldO (fields out))) (hl : out.length ≤ 3) : W.cell? ⟨g, out.length, none⟩ = some (.int .u8 0) := by
  rw [blk_cell h out.length]
  have h3 : out.length = 0 ∨ out.length = 1 ∨ out.length = 2 ∨ out.length = 3 := by omega
  unfold fields
  rcases h3 with h3 | h3 | h3 | h3
  all_goals simp [h3]
theorem fld_put {W : World} {g : Nat} {out : List Int} (h : W.heap[g]? = some (fldO (fields out))) (n : Int) (hl : out.length ≤ 3) : (W.setCell ⟨g, out.length, none⟩ (.int .u8 n)).heap[g]? = some (fldO (fields (out ++ [n]))) := by
  rw [Lib.heap_setCell_same (i := out.length) h _, ← fields_set out n hl]
  congr 2
  simp [List.map_set]
set_option maxRecDepth 100000 in
set_option maxHeartbeats 8000000 in
theorem parseFields_any (t : ByteArray) (r : List Int) (h : sAddr (bs t) = (r, true)) (hz : t.size ≤ 1000) (g : Nat) (w : World) (hg : w.heap[g]? = some (fldO [0, 0, 0, 0])) :
    Calls Tryd.prog 128 #[.string t, .int .i64 0, .int .i64 t.size, .slice (some ⟨g, 0, none⟩) 4 4] w fun e w' => e = .returned .nilIface ∧ KB w w' g g ∧ w'.heap[g]? = some (fldO r) := by
  obtain ⟨hgo, h4⟩ := sAddr_go h
  have hx : t.extract 0 t.size = t := by simp
  have HH := Lib.hid (And.intro hgo (And.intro h4 hg))
  clear hgo h4 h hg
  go_enter Tryd.func128, Tryd.ntmps128
  go_wp2
  go_loopg [9, 10, 11, 13] t.size (fun k v9 v10 v11 v13 wr => ∃ (i : Nat) (out : List Int) (n : Int) (sm : Bool) (dl : Nat), v9 = .int .i64 n ∧ v10 = .int .i64 out.length ∧ v11 = .int .i64 dl ∧ v13 = .int .i64 i ∧ Hid (k = t.size - i ∧ i ≤ t.size ∧ 0 ≤ n ∧ n ≤ 255 ∧ dl ≤ i ∧ (1 ≤ dl ↔ sm = true) ∧ out.length ≤ 3 ∧ addrGo ((bs t).drop i) out n sm = some r ∧ KB w wr g g ∧ wr.heap[g]? = some (fldO (fields out)) ∧ (sm = true → ∃ j c, i = j + 1 ∧ c ≠ 46 ∧ ∃ hj : j < t.size, ((t[j]'hj).toNat : Int) = c)))
  case atStart => exact ⟨0, [], 0, false, 0, rfl, rfl, rfl, rfl, Lib.hid ⟨rfl, Nat.zero_le _, by omega, by omega, Nat.le_refl _, by simp, by simp, HH.out.1, KB.refl _ _ _, HH.out.2.2, by simp⟩⟩
  case round =>
    obtain ⟨i, out, n, sm, dl, rfl, rfl, rfl, rfl, HR⟩ := hrel
    obtain ⟨hk, hi, n0, n1, hdl, hsm, hol, hgo, hKB, hblk, hprev⟩ := HR.out
    have HW := Lib.hid (And.intro hKB hblk)
    have d0 : wr.cell? ⟨g, out.length, none⟩ = some (.int .u8 0) := fld_cell hblk hol
    have f0 : wr.frozen? ⟨g, out.length, none⟩ = false := Lib.frozen_of_heap hblk _
    clear hKB hblk HR
    by_cases hi2 : i = t.size
    · subst hi2
      rw [List.drop_of_length_le (by rw [bs_length]; exact Nat.le_refl _)] at hgo
      obtain ⟨rfl, rfl⟩ := addrGo_end hgo
      have h4 := HH.out.2.1
      simp at h4
      rw [h4] at d0 f0
      have HE := Lib.hid (And.intro h4 (fld_put HW.out.2 n hol))
      have h43 : (out.length : Int) = 3 := by omega
      clear hprev hsm hgo hk h4
      go_wp2
      go_ret
      refine ⟨rfl, HW.out.1.setCell (.inl rfl) _, ?_⟩
      have h5 := HE.out.2
      rw [HE.out.1, fields_four _ (by have := HE.out.1; simp; omega)] at h5
      exact h5
    · obtain ⟨c, l, hcl⟩ : ∃ c l, (bs t).drop i = c :: l := ⟨_, _, List.drop_eq_getElem_cons (by rw [bs_length]; omega)⟩
      obtain ⟨hit, hc, hdr⟩ := char_at t i c l hcl
      have hll : l.length = t.size - (i + 1) := by rw [← hdr, List.length_drop, bs_length]
      rw [hcl] at hgo
      by_cases c46 : c = 46
      · subst c46
        obtain ⟨rfl, ho2, hl, hgo⟩ := addrGo_dot hgo HH.out.2.1
        obtain ⟨j, c', rfl, hc46, hj, hcj⟩ := hprev rfl
        have hnl : j + 2 < t.size := by
          have : l.length ≠ 0 := fun e => hl (List.eq_nil_of_length_eq_zero e)
          omega
        have hpu := fld_put HW.out.2 n hol
        have HN := Lib.hid (And.intro hgo (And.intro hdr (And.intro hpu (And.intro hdl hk))))
        have e1 : ((j + 1 : Nat) : Int) - 1 = (j : Int) := by omega
        have d46 : (c' == 46) = false := beq_eq_false_iff_ne.2 hc46
        have n256 : n % 256 = n := by omega
        have k1 : ((j : Int) + 1 == 0) = false := beq_eq_false_iff_ne.2 (by omega)
        have k2 : ((j : Int) + 1 == (t.size : Int) - 1) = false := beq_eq_false_iff_ne.2 (by omega)
        have k3 : ((out.length : Int) == 3) = false := beq_eq_false_iff_ne.2 (by omega)
        clear hgo hdr hpu hll hcl hsm hprev hdl hk hl
        go_wp2
        go_roundg (t.size - (j + 2))
        case measure =>
          have := HN.out.2.2.2.2
          omega
        case rel => exact ⟨j + 2, out ++ [n], 0, false, 0, rfl, by simp, rfl, by go_num, Lib.hid ⟨rfl, by omega, by omega, by omega, Nat.zero_le _, by simp, by simp; omega, by exact HN.out.2.1 ▸ HN.out.1, HW.out.1.setCell (.inl rfl) _, HN.out.2.2.1, by simp⟩⟩
      · obtain ⟨c0, c1, hn0, hn1, hgo⟩ := addrGo_dig hgo c46
        have HN := Lib.hid (And.intro hgo (And.intro hdr (And.intro hsm (And.intro hdl hk))))
        have e2 : n * 10 + c - 48 = 10 * n + (c - 48) := by omega
        clear hgo hdr hll hcl hprev hk
        by_cases hd1 : dl = 1
        · have hn : n ≠ 0 := fun e => hn0 ⟨hsm.1 (by omega), e⟩
          have hd0 : (n == 0) = false := beq_eq_false_iff_ne.2 hn
          subst hd1
          clear hsm hdl
          go_wp2
          go_roundg (t.size - (i + 1))
          case measure =>
            have := HN.out.2.2.2.2
            omega
          case rel => exact ⟨i + 1, out, 10 * n + (c - 48), true, 2, rfl, rfl, by go_num, by go_num, Lib.hid ⟨rfl, by omega, by omega, by omega, by have := HN.out.2.2.2.1; omega, by simp, hol, by exact HN.out.2.1 ▸ HN.out.1, HW.out.1, HW.out.2, fun _ => ⟨i, c, rfl, c46, hit, hc⟩⟩⟩
        · have hd0 : ((dl : Int) == 1) = false := beq_eq_false_iff_ne.2 (by omega)
          clear hsm
          go_wp2
          go_roundg (t.size - (i + 1))
          case measure =>
            have := HN.out.2.2.2.2
            omega
          case rel => exact ⟨i + 1, out, 10 * n + (c - 48), true, dl + 1, rfl, rfl, by go_num, by go_num, Lib.hid ⟨rfl, by omega, by omega, by omega, by have := HN.out.2.2.2.1; omega, by simp, hol, by exact HN.out.2.1 ▸ HN.out.1, HW.out.1, HW.out.2, fun _ => ⟨i, c, rfl, c46, hit, hc⟩⟩⟩
set_option maxRecDepth 100000 in
set_option maxHeartbeats 4000000 in
theorem parseIPv4_any (t : ByteArray) (a b c d : Int) (h : sAddr (bs t) = ([a, b, c, d], true)) (hz : t.size ≤ 1000) (z : Addr) (w : World) (hZ : ZTab z w) :
    Calls Tryd.prog 104 #[.string t] w fun e w' => e = .returned (.tuple #[ipV (ip4 a b c d) z, .nilIface]) ∧ Below w.heap.size w w' := by
  have hbd := (sAddr_text _ _ h).2.2
  have HH := Lib.hid (And.intro h (And.intro hbd hZ))
  clear h hbd hZ
  go_enter Tryd.func104, Tryd.ntmps104
  go_wp2_with fail
  have hblk := blk_new (w.alloc (.cells #[.int .u64 0, .int .u64 0, .pointer none] 158)) (fldO [0, 0, 0, 0])
  rw [show (w.alloc (.cells #[.int .u64 0, .int .u64 0, .pointer none] 158)).heap.size = w.heap.size + 1 by simp] at hblk
  have hb2 := below_al2 w (.cells #[.int .u64 0, .int .u64 0, .pointer none] 158) (fldO [0, 0, 0, 0])
  have hip := blk_alloc (blk_new w (.cells #[.int .u64 0, .int .u64 0, .pointer none] 158)) (fldO [0, 0, 0, 0])
  refine (parseFields_any t [a, b, c, d] HH.out.1 hz (w.heap.size + 1) _ hblk).mono ?_
  rintro e w3 ⟨rfl, K3, B3⟩
  have hip3 := K3.blk hip (by omega) (by omega)
  have hb3 := hb2.trans (K3.below (by omega) (by omega) hb2.size)
  have hs3 := K3.size
  have hz3 := HH.out.2.2.on hb3
  have m0 := blk_cell B3 0
  have m1 := blk_cell B3 1
  have m2 := blk_cell B3 2
  have m3 := blk_cell B3 3
  simp only [List.map_cons, List.map_nil] at m0 m1 m2 m3
  have q0 : w3.cell? ⟨w.heap.size + 1, 0, none⟩ = some (.int .u8 a) := m0
  have q1 : w3.cell? ⟨w.heap.size + 1, 1, none⟩ = some (.int .u8 b) := m1
  have q2 : w3.cell? ⟨w.heap.size + 1, 2, none⟩ = some (.int .u8 c) := m2
  have q3 : w3.cell? ⟨w.heap.size + 1, 3, none⟩ = some (.int .u8 d) := m3
  have H3 := Lib.hid (And.intro hb3 (And.intro hz3 (And.intro hip3 B3)))
  clear hb2 hip K3 B3 hip3 hb3 hz3 m0 m1 m2 m3 hblk
  go_wp2_with fail
  refine (addrFrom4_any a b c d z w3 (HH.out.2.1 a (by simp)) (HH.out.2.1 b (by simp)) (HH.out.2.1 c (by simp)) (HH.out.2.1 d (by simp)) H3.out.2.1).mono ?_
  rintro e w4 ⟨rfl, hb4⟩
  have hr := blk_below H3.out.2.2.1 hb4
  have r0 : w4.cell? ⟨w.heap.size, 0, none⟩ = some (.int .u64 0) := (blk_cell hr 0).trans rfl
  have r1 : w4.cell? ⟨w.heap.size, 1, none⟩ = some (.int .u64 0) := (blk_cell hr 1).trans rfl
  have r2 : w4.cell? ⟨w.heap.size, 2, none⟩ = some (.pointer none) := (blk_cell hr 2).trans rfl
  have f0 := blk_frozen hr 0
  have f1 := blk_frozen hr 1
  have f2 := blk_frozen hr 2
  have H4 := Lib.hid (And.intro hr (below_step H3.out.1 hb4))
  clear hr hb4
  go_wp2
  have g0 := blk_put (cs' := #[.int .u64 0, .int .u64 0, .pointer none]) H4.out.1 0 (.int .u64 0) rfl
  have g1 := blk_put (cs' := #[.int .u64 0, .int .u64 (281470681743360 + ip4 a b c d), .pointer none]) g0 1 (.int .u64 (281470681743360 + ip4 a b c d)) rfl
  have g2 := blk_put (cs' := #[.int .u64 0, .int .u64 (281470681743360 + ip4 a b c d), .pointer (some z)]) g1 2 (.pointer (some z)) rfl
  exact bodyPost_ret (results_ct rfl _ _ w.heap.size 158 #[.int .u64 0, .int .u64 (281470681743360 + ip4 a b c d), .pointer (some z)] (0, 0) _ rfl g2 Tryd.underlying158 rfl (by kernel_rfl)) rfl ⟨rfl, below_set (below_set (below_set H4.out.2 (by omega)) (by omega)) (by omega)⟩
set_option maxRecDepth 100000 in
set_option maxHeartbeats 4000000 in
theorem parseAddr_any (t : ByteArray) (a b c d : Int) (h : sAddr (bs t) = ([a, b, c, d], true)) (hz : t.size ≤ 1000) (z : Addr) (w : World) (hZ : ZTab z w) :
    Calls Tryd.prog 80 #[.string t] w fun e w' => e = .returned (.tuple #[ipV (ip4 a b c d) z, .nilIface]) ∧ Below w.heap.size w w' := by
  have HH := Lib.hid (And.intro h hZ)
  have hgo := (sAddr_go h).1
  have HG := Lib.hid hgo
  clear h hZ hgo
  go_enter Tryd.func80, Tryd.ntmps80
  have hb2 := (Below.refl w.heap.size w).alloc (Nat.le_refl _) (.cells #[.int .u64 0, .int .u64 0, .pointer none] 158)
  have hip := blk_new w (.cells #[.int .u64 0, .int .u64 0, .pointer none] 158)
  have HB := Lib.hid (And.intro hb2 (And.intro hip (HH.out.2.on hb2)))
  clear hb2 hip
  go_wp2
  generalize (w.alloc (.cells #[.int .u64 0, .int .u64 0, .pointer none] 158)) = w2 at *
  go_loopg [4] t.size (fun k v4 wr => wr = w2 ∧ ∃ (i : Nat) (n : Int) (sm : Bool), v4 = .int .i64 i ∧ Hid (k = t.size - i ∧ i ≤ t.size ∧ addrGo ((bs t).drop i) [] n sm = some [a, b, c, d]))
  case atStart => exact ⟨rfl, 0, 0, false, rfl, Lib.hid ⟨rfl, Nat.zero_le _, HG.out⟩⟩
  case round =>
    obtain ⟨rfl, i, n, sm, rfl, HR⟩ := hrel
    obtain ⟨hk, hi, hgo⟩ := HR.out
    clear HR
    by_cases hi2 : i = t.size
    · subst hi2
      rw [List.drop_of_length_le (by rw [bs_length]; exact Nat.le_refl _)] at hgo
      have := (addrGo_end hgo).2
      simp at this
    · obtain ⟨x, l, hcl⟩ : ∃ x l, (bs t).drop i = x :: l := ⟨_, _, List.drop_eq_getElem_cons (by rw [bs_length]; omega)⟩
      obtain ⟨hit, hc, hdr⟩ := char_at t i x l hcl
      rw [hcl] at hgo
      by_cases c46 : x = 46
      · subst c46
        clear hgo hdr hcl hk HG
        go_wp2_with fail
        refine (parseIPv4_any t a b c d HH.out.1 hz z _ HB.out.2.2).mono ?_
        rintro e w4 ⟨rfl, hb4⟩
        have hr := blk_below HB.out.2.1 hb4
        have r0 : w4.cell? ⟨w.heap.size, 0, none⟩ = some (.int .u64 0) := (blk_cell hr 0).trans rfl
        have r1 : w4.cell? ⟨w.heap.size, 1, none⟩ = some (.int .u64 0) := (blk_cell hr 1).trans rfl
        have r2 : w4.cell? ⟨w.heap.size, 2, none⟩ = some (.pointer none) := (blk_cell hr 2).trans rfl
        have f0 := blk_frozen hr 0
        have f1 := blk_frozen hr 1
        have f2 := blk_frozen hr 2
        have H4 := Lib.hid (And.intro hr (below_step HB.out.1 hb4))
        clear hr hb4
        go_wp2
        have g0 := blk_put (cs' := #[.int .u64 0, .int .u64 0, .pointer none]) H4.out.1 0 (.int .u64 0) rfl
        have g1 := blk_put (cs' := #[.int .u64 0, .int .u64 (281470681743360 + ip4 a b c d), .pointer none]) g0 1 (.int .u64 (281470681743360 + ip4 a b c d)) rfl
        have g2 := blk_put (cs' := #[.int .u64 0, .int .u64 (281470681743360 + ip4 a b c d), .pointer (some z)]) g1 2 (.pointer (some z)) rfl
        exact bodyPost_ret (results_ct rfl _ _ w.heap.size 158 #[.int .u64 0, .int .u64 (281470681743360 + ip4 a b c d), .pointer (some z)] (0, 0) _ rfl g2 Tryd.underlying158 rfl (by kernel_rfl)) rfl ⟨rfl, below_set (below_set (below_set H4.out.2 (by omega)) (by omega)) (by omega)⟩
      · obtain ⟨c0, c1, -, -, hgo⟩ := addrGo_dig hgo c46
        have HN := Lib.hid (And.intro hgo (And.intro hdr hk))
        have d46 : (x == 46) = false := beq_eq_false_iff_ne.2 c46
        have d58 : (x == 58) = false := beq_eq_false_iff_ne.2 (by omega)
        have d37 : (x == 37) = false := beq_eq_false_iff_ne.2 (by omega)
        clear hgo hdr hcl hk HG
        go_wp2
        go_roundg (t.size - (i + 1))
        case measure =>
          have := HN.out.2.2
          omega
        case rel => exact ⟨rfl, i + 1, _, _, by go_num, Lib.hid ⟨rfl, by omega, HN.out.2.1 ▸ HN.out.1⟩⟩
/-- The tables, and what z4 points to: no zone. -/
def ZZone (z : Addr) (w : World) : Prop := ZTab z w ∧ (∃ b, w.cell? z = some (.bool b)) ∧ w.cell? (z.add 1) = some (.string ⟨#[]⟩)
theorem ZZone.on {z : Addr} {w w' : World} (h : ZZone z w) (hb : Below w.heap.size w w') : ZZone z w' := ⟨h.1.on hb, by obtain ⟨v, hv⟩ := h.2.1; exact ⟨v, cell_up' hv hb⟩, cell_up' h.2.2 hb⟩
set_option maxRecDepth 100000 in
set_option maxHeartbeats 4000000 in
theorem handle_any (z : Addr) (b : Bool) (w : World) (hv0 : w.cell? z = some (.bool b)) (hzz : w.cell? (z.add 1) = some (.string ⟨#[]⟩)) :
    Calls Tryd.prog 106 #[.agg #[.pointer (some z)]] w fun e w' => e = .returned (.agg #[.bool b, .string ⟨#[]⟩]) ∧ Below w.heap.size w w' := by
  have z3 := cell_al (cell_al hzz (.cells #[.pointer (some z)] 156)) (.cells #[.bool false, .string ⟨#[]⟩] 201)
  have z4 := cell_al (cell_al hv0 (.cells #[.pointer (some z)] 156)) (.cells #[.bool false, .string ⟨#[]⟩] 201)
  simp only [Go.Addr.add, Nat.reduceEqDiff, if_false] at z3
  go_enter Tryd.func106, Tryd.ntmps106
  go_wp2
  have hr := blk_new (w.alloc (.cells #[.pointer (some z)] 156)) (.cells #[.bool b, .string ⟨#[]⟩] 201)
  rw [show (w.alloc (.cells #[.pointer (some z)] 156)).heap.size = w.heap.size + 1 by simp] at hr
  exact bodyPost_ret (results_cell_row rfl _ _ (w.heap.size + 1) 201 #[.bool b, .string ⟨#[]⟩] (0, 0) _ rfl hr Tryd.underlying201 rfl (by kernel_rfl)) rfl ⟨rfl, below_al2 w _ _⟩
theorem field_zone (b : Bool) (W : World) : (Instr.field 201 (.agg #[.bool b, .string ⟨#[]⟩]) 1).run Tryd.prog W = .ok (.string ⟨#[]⟩) W := by kernel_rfl
set_option maxRecDepth 100000 in
set_option maxHeartbeats 4000000 in
theorem zone_any (n : Int) (z : Addr) (w : World) (hZ : ZZone z w) :
    Calls Tryd.prog 81 #[ipV n z] w fun e w' => e = .returned (.string ⟨#[]⟩) ∧ Below w.heap.size w w' := by
  obtain ⟨hZ, ⟨b0, hb0⟩, hzz⟩ := hZ
  have z1 := cell_al hZ.1 (ipO n z)
  have z2 := cell_al hZ.2 (ipO n z)
  have q1 := fun W => eq_nil 9998 W z
  have q2 := fun W => eq_self 9998 W z
  simp only [Nat.reduceAdd] at q1 q2
  have HZ := Lib.hid (And.intro (cell_al hb0 (ipO n z)) (cell_al hzz (ipO n z)))
  clear hZ hb0 hzz
  go_enter Tryd.func81, Tryd.ntmps81
  go_wp2_with fail
  refine (handle_any z b0 _ HZ.out.1 HZ.out.2).mono ?_
  rintro e w3 ⟨rfl, hb3⟩
  have H3 := Lib.hid (below_step ((Below.refl w.heap.size w).alloc (Nat.le_refl _) (ipO n z)) hb3)
  clear hb3
  have hfz := fun W => field_zone b0 W
  go_wp2
  go_ret
  exact ⟨rfl, H3.out⟩
end Go.Proofs.YtangjgclpipjdaaDoor
set_option linter.unusedVariables false
namespace Go.Proofs.YtangjgclpipjdaaDoor
open Go.RowKit Go.Proofs.YtangjgclpipjdaaDoorW.PrintWords Go.Proofs.YtangjgclpipjdaaDoorW.PrintLast Go.Proofs.YtangjgclpipjdaaDoorW.PrintMore

theorem KB.put {w w1 : World} {b g : Nat} (h : KB w w1 b g) (i : Nat) (u : Value) : KB w (w1.setCell ⟨g, i, none⟩ u) b g := h.setCell (.inr (.inl rfl)) u
theorem put16_0 {w : World} {g t : Nat} {c0 c1 c2 c3 c4 c5 c6 c7 c8 c9 c10 c11 c12 c13 c14 c15 : Value} (h : w.heap[g]? = some (.cells #[c0, c1, c2, c3, c4, c5, c6, c7, c8, c9, c10, c11, c12, c13, c14, c15] t (0, 0))) (x0 x1 x2 x3 x4 x5 x6 x7 : Value) :
    ((((((((w.setCell ⟨g, 0, none⟩ x0).setCell ⟨g, 1, none⟩ x1).setCell ⟨g, 2, none⟩ x2).setCell ⟨g, 3, none⟩ x3).setCell ⟨g, 4, none⟩ x4).setCell ⟨g, 5, none⟩ x5).setCell ⟨g, 6, none⟩ x6).setCell ⟨g, 7, none⟩ x7).heap[g]? = some (.cells #[x0, x1, x2, x3, x4, x5, x6, x7, c8, c9, c10, c11, c12, c13, c14, c15] t (0, 0)) := by
  have b := (blk_set (blk_set (blk_set (blk_set (blk_set (blk_set (blk_set (blk_set h 0 x0) 1 x1) 2 x2) 3 x3) 4 x4) 5 x5) 6 x6) 7 x7)
  simpa only [List.setIfInBounds_toArray, List.set_cons_zero, List.set_cons_succ] using b
theorem put16_8 {w : World} {g t : Nat} {c0 c1 c2 c3 c4 c5 c6 c7 c8 c9 c10 c11 c12 c13 c14 c15 : Value} (h : w.heap[g]? = some (.cells #[c0, c1, c2, c3, c4, c5, c6, c7, c8, c9, c10, c11, c12, c13, c14, c15] t (0, 0))) (x0 x1 x2 x3 x4 x5 x6 x7 : Value) :
    ((((((((w.setCell ⟨g, 8, none⟩ x0).setCell ⟨g, 9, none⟩ x1).setCell ⟨g, 10, none⟩ x2).setCell ⟨g, 11, none⟩ x3).setCell ⟨g, 12, none⟩ x4).setCell ⟨g, 13, none⟩ x5).setCell ⟨g, 14, none⟩ x6).setCell ⟨g, 15, none⟩ x7).heap[g]? = some (.cells #[c0, c1, c2, c3, c4, c5, c6, c7, x0, x1, x2, x3, x4, x5, x6, x7] t (0, 0)) := by
  have b := (blk_set (blk_set (blk_set (blk_set (blk_set (blk_set (blk_set (blk_set h 8 x0) 9 x1) 10 x2) 11 x3) 12 x4) 13 x5) 14 x6) 15 x7)
  simpa only [List.setIfInBounds_toArray, List.set_cons_zero, List.set_cons_succ] using b
set_option maxRecDepth 100000 in
set_option maxHeartbeats 4000000 in
theorem bePut0 (n : Int) (h0 : 0 ≤ n) (h1 : n ≤ 18446744073709551615) (g t : Nat) (c0 c1 c2 c3 c4 c5 c6 c7 c8 c9 c10 c11 c12 c13 c14 c15 : Value) (w : World) (hg : w.heap[g]? = some (.cells #[c0, c1, c2, c3, c4, c5, c6, c7, c8, c9, c10, c11, c12, c13, c14, c15] t (0, 0))) :
    Calls Tryd.prog 107 #[.slice (some ⟨g, 0, none⟩) 8 16, .int .u64 n] w fun e w' => e = .returned (.tuple #[]) ∧ w'.heap[g]? = some (.cells #[.int .u8 (n / 72057594037927936), .int .u8 (n / 281474976710656 % 256), .int .u8 (n / 1099511627776 % 256), .int .u8 (n / 4294967296 % 256), .int .u8 (n / 16777216 % 256), .int .u8 (n / 65536 % 256), .int .u8 (n / 256 % 256), .int .u8 (n % 256), c8, c9, c10, c11, c12, c13, c14, c15] t (0, 0)) ∧ KB w w' g g := by
  have k0 := blk_cell hg 0
  have z0 := blk_frozen hg 0
  have k1 := blk_cell hg 1
  have z1 := blk_frozen hg 1
  have k2 := blk_cell hg 2
  have z2 := blk_frozen hg 2
  have k3 := blk_cell hg 3
  have z3 := blk_frozen hg 3
  have k4 := blk_cell hg 4
  have z4 := blk_frozen hg 4
  have k5 := blk_cell hg 5
  have z5 := blk_frozen hg 5
  have k6 := blk_cell hg 6
  have z6 := blk_frozen hg 6
  have k7 := blk_cell hg 7
  have z7 := blk_frozen hg 7
  simp at k0 k1 k2 k3 k4 k5 k6 k7
  have HG := Lib.hid hg
  have hlt := blk_lt hg
  clear hg
  go_enter Tryd.func107, Tryd.ntmps107
  go_wp2
  go_end0
  refine ⟨rfl, ?_, (((((((((KB.refl _ _ _).put 0 _).put 1 _).put 2 _).put 3 _).put 4 _).put 5 _).put 6 _).put 7 _)⟩
  exact put16_0 HG.out _ _ _ _ _ _ _ _
set_option maxRecDepth 100000 in
set_option maxHeartbeats 4000000 in
theorem bePut8 (n : Int) (h0 : 0 ≤ n) (h1 : n ≤ 18446744073709551615) (g t : Nat) (c0 c1 c2 c3 c4 c5 c6 c7 c8 c9 c10 c11 c12 c13 c14 c15 : Value) (w : World) (hg : w.heap[g]? = some (.cells #[c0, c1, c2, c3, c4, c5, c6, c7, c8, c9, c10, c11, c12, c13, c14, c15] t (0, 0))) :
    Calls Tryd.prog 107 #[.slice (some ⟨g, 8, none⟩) 8 8, .int .u64 n] w fun e w' => e = .returned (.tuple #[]) ∧ w'.heap[g]? = some (.cells #[c0, c1, c2, c3, c4, c5, c6, c7, .int .u8 (n / 72057594037927936), .int .u8 (n / 281474976710656 % 256), .int .u8 (n / 1099511627776 % 256), .int .u8 (n / 4294967296 % 256), .int .u8 (n / 16777216 % 256), .int .u8 (n / 65536 % 256), .int .u8 (n / 256 % 256), .int .u8 (n % 256)] t (0, 0)) ∧ KB w w' g g := by
  have k0 := blk_cell hg 8
  have z0 := blk_frozen hg 8
  have k1 := blk_cell hg 9
  have z1 := blk_frozen hg 9
  have k2 := blk_cell hg 10
  have z2 := blk_frozen hg 10
  have k3 := blk_cell hg 11
  have z3 := blk_frozen hg 11
  have k4 := blk_cell hg 12
  have z4 := blk_frozen hg 12
  have k5 := blk_cell hg 13
  have z5 := blk_frozen hg 13
  have k6 := blk_cell hg 14
  have z6 := blk_frozen hg 14
  have k7 := blk_cell hg 15
  have z7 := blk_frozen hg 15
  simp at k0 k1 k2 k3 k4 k5 k6 k7
  have HG := Lib.hid hg
  have hlt := blk_lt hg
  clear hg
  go_enter Tryd.func107, Tryd.ntmps107
  go_wp2
  go_end0
  refine ⟨rfl, ?_, (((((((((KB.refl _ _ _).put 8 _).put 9 _).put 10 _).put 11 _).put 12 _).put 13 _).put 14 _).put 15 _)⟩
  exact put16_8 HG.out _ _ _ _ _ _ _ _
abbrev a16O (a b c d : Int) : Obj := .cells #[.int .u8 0, .int .u8 0, .int .u8 0, .int .u8 0, .int .u8 0, .int .u8 0, .int .u8 0, .int .u8 0, .int .u8 0, .int .u8 0, .int .u8 255, .int .u8 255, .int .u8 a, .int .u8 b, .int .u8 c, .int .u8 d] 161 (0, 0)
set_option maxRecDepth 100000 in
set_option maxHeartbeats 4000000 in
theorem as16_any (a b c d : Int) (z : Addr) (w : World) (ha : 0 ≤ a ∧ a ≤ 255) (hb : 0 ≤ b ∧ b ≤ 255) (hc : 0 ≤ c ∧ c ≤ 255) (hd : 0 ≤ d ∧ d ≤ 255) :
    Calls Tryd.prog 82 #[ipV (ip4 a b c d) z] w fun e w' => e = .returned (.agg #[.int .u8 0, .int .u8 0, .int .u8 0, .int .u8 0, .int .u8 0, .int .u8 0, .int .u8 0, .int .u8 0, .int .u8 0, .int .u8 0, .int .u8 255, .int .u8 255, .int .u8 a, .int .u8 b, .int .u8 c, .int .u8 d]) ∧ Below w.heap.size w w' := by
  have mixed : Tryd.prog.follows Departure.mixedOrders = true := by kernel_rfl
  have e0 : (281470681743360 + ip4 a b c d) / 72057594037927936 = 0 := by unfold ip4; omega
  have e1 : (281470681743360 + ip4 a b c d) / 281474976710656 % 256 = 0 := by unfold ip4; omega
  have e2 : (281470681743360 + ip4 a b c d) / 1099511627776 % 256 = 255 := by unfold ip4; omega
  have e3 : (281470681743360 + ip4 a b c d) / 4294967296 % 256 = 255 := by unfold ip4; omega
  have e4 : (281470681743360 + ip4 a b c d) / 16777216 % 256 = a := by unfold ip4; omega
  have e5 : (281470681743360 + ip4 a b c d) / 65536 % 256 = b := by unfold ip4; omega
  have e6 : (281470681743360 + ip4 a b c d) / 256 % 256 = c := by unfold ip4; omega
  have e7 : (281470681743360 + ip4 a b c d) % 256 = d := by unfold ip4; omega
  have h0 : 0 ≤ ip4 a b c d := by unfold ip4; omega
  have h1 : ip4 a b c d ≤ 4294967295 := by unfold ip4; omega
  generalize ip4 a b c d = n at *
  have hblk := blk_new (w.alloc (ipO n z)) (.cells #[.int .u8 0, .int .u8 0, .int .u8 0, .int .u8 0, .int .u8 0, .int .u8 0, .int .u8 0, .int .u8 0, .int .u8 0, .int .u8 0, .int .u8 0, .int .u8 0, .int .u8 0, .int .u8 0, .int .u8 0, .int .u8 0] 161)
  rw [show (w.alloc (ipO n z)).heap.size = w.heap.size + 1 by simp] at hblk
  have hb2 := below_al2 w (ipO n z) (.cells #[.int .u8 0, .int .u8 0, .int .u8 0, .int .u8 0, .int .u8 0, .int .u8 0, .int .u8 0, .int .u8 0, .int .u8 0, .int .u8 0, .int .u8 0, .int .u8 0, .int .u8 0, .int .u8 0, .int .u8 0, .int .u8 0] 161)
  have hib := blk_alloc (blk_new w (ipO n z)) (.cells #[.int .u8 0, .int .u8 0, .int .u8 0, .int .u8 0, .int .u8 0, .int .u8 0, .int .u8 0, .int .u8 0, .int .u8 0, .int .u8 0, .int .u8 0, .int .u8 0, .int .u8 0, .int .u8 0, .int .u8 0, .int .u8 0] 161)
  obtain ⟨p0, p1, -⟩ := ip_cells hib
  go_enter Tryd.func82, Tryd.ntmps82
  go_wp2_with fail
  generalize ((w.alloc (ipO n z)).alloc (.cells #[.int .u8 0, .int .u8 0, .int .u8 0, .int .u8 0, .int .u8 0, .int .u8 0, .int .u8 0, .int .u8 0, .int .u8 0, .int .u8 0, .int .u8 0, .int .u8 0, .int .u8 0, .int .u8 0, .int .u8 0, .int .u8 0] 161)) = W0 at *
  have hs0 : w.heap.size + 1 < W0.heap.size := blk_lt hblk
  go_region_with_o (go_at_call 107; refine (bePut0 0 (by omega) (by omega) (w.heap.size + 1) 161 (.int .u8 0) (.int .u8 0) (.int .u8 0) (.int .u8 0) (.int .u8 0) (.int .u8 0) (.int .u8 0) (.int .u8 0) (.int .u8 0) (.int .u8 0) (.int .u8 0) (.int .u8 0) (.int .u8 0) (.int .u8 0) (.int .u8 0) (.int .u8 0) _ ?_).mono ?_; exact hblk; rintro e w3 ⟨rfl, hg3, k3⟩; have hib3 := k3.blk hib (by omega) (by omega); obtain ⟨r0, r1, -⟩ := ip_cells hib3)
  simp only [Int.zero_ediv, Int.zero_emod] at hg3
  have hb3 : Below w.heap.size w w3 := hb2.trans (KB.below (KB.pre (below_drew (Below.refl _ _)) k3) (by omega) (by omega) hb2.size)
  have hs3 : w.heap.size + 1 < w3.heap.size := blk_lt hg3
  clear p0 p1 hblk k3 hib hb2
  go_wp2_with fail
  go_region_with_o (go_at_call 107; refine (bePut8 (281470681743360 + n) (by omega) (by omega) (w.heap.size + 1) 161 (.int .u8 0) (.int .u8 0) (.int .u8 0) (.int .u8 0) (.int .u8 0) (.int .u8 0) (.int .u8 0) (.int .u8 0) (.int .u8 0) (.int .u8 0) (.int .u8 0) (.int .u8 0) (.int .u8 0) (.int .u8 0) (.int .u8 0) (.int .u8 0) _ ?_).mono ?_; exact hg3; rintro e w4 ⟨rfl, hg4, k4⟩)
  rw [e0, e1, e2, e3, e4, e5, e6, e7] at hg4
  have hb4 : Below w.heap.size w w4 := hb3.trans (KB.below (KB.pre (below_drew (Below.refl _ _)) k4) (by omega) (by omega) hb3.size)
  have H4 := Lib.hid (And.intro hg4 hb4)
  clear hg4 hb4 hg3 hb3 k4
  have m0 : w4.cell? ⟨w.heap.size + 1, 0, none⟩ = some (.int .u8 0) := (blk_cell H4.out.1 0).trans rfl
  have f0 := blk_frozen H4.out.1 0
  have m1 : w4.cell? ⟨w.heap.size + 1, 1, none⟩ = some (.int .u8 0) := (blk_cell H4.out.1 1).trans rfl
  have f1 := blk_frozen H4.out.1 1
  have m2 : w4.cell? ⟨w.heap.size + 1, 2, none⟩ = some (.int .u8 0) := (blk_cell H4.out.1 2).trans rfl
  have f2 := blk_frozen H4.out.1 2
  have m3 : w4.cell? ⟨w.heap.size + 1, 3, none⟩ = some (.int .u8 0) := (blk_cell H4.out.1 3).trans rfl
  have f3 := blk_frozen H4.out.1 3
  have m4 : w4.cell? ⟨w.heap.size + 1, 4, none⟩ = some (.int .u8 0) := (blk_cell H4.out.1 4).trans rfl
  have f4 := blk_frozen H4.out.1 4
  have m5 : w4.cell? ⟨w.heap.size + 1, 5, none⟩ = some (.int .u8 0) := (blk_cell H4.out.1 5).trans rfl
  have f5 := blk_frozen H4.out.1 5
  have m6 : w4.cell? ⟨w.heap.size + 1, 6, none⟩ = some (.int .u8 0) := (blk_cell H4.out.1 6).trans rfl
  have f6 := blk_frozen H4.out.1 6
  have m7 : w4.cell? ⟨w.heap.size + 1, 7, none⟩ = some (.int .u8 0) := (blk_cell H4.out.1 7).trans rfl
  have f7 := blk_frozen H4.out.1 7
  have m8 : w4.cell? ⟨w.heap.size + 1, 8, none⟩ = some (.int .u8 0) := (blk_cell H4.out.1 8).trans rfl
  have f8 := blk_frozen H4.out.1 8
  have m9 : w4.cell? ⟨w.heap.size + 1, 9, none⟩ = some (.int .u8 0) := (blk_cell H4.out.1 9).trans rfl
  have f9 := blk_frozen H4.out.1 9
  have m10 : w4.cell? ⟨w.heap.size + 1, 10, none⟩ = some (.int .u8 255) := (blk_cell H4.out.1 10).trans rfl
  have f10 := blk_frozen H4.out.1 10
  have m11 : w4.cell? ⟨w.heap.size + 1, 11, none⟩ = some (.int .u8 255) := (blk_cell H4.out.1 11).trans rfl
  have f11 := blk_frozen H4.out.1 11
  have m12 : w4.cell? ⟨w.heap.size + 1, 12, none⟩ = some (.int .u8 a) := (blk_cell H4.out.1 12).trans rfl
  have f12 := blk_frozen H4.out.1 12
  have m13 : w4.cell? ⟨w.heap.size + 1, 13, none⟩ = some (.int .u8 b) := (blk_cell H4.out.1 13).trans rfl
  have f13 := blk_frozen H4.out.1 13
  have m14 : w4.cell? ⟨w.heap.size + 1, 14, none⟩ = some (.int .u8 c) := (blk_cell H4.out.1 14).trans rfl
  have f14 := blk_frozen H4.out.1 14
  have m15 : w4.cell? ⟨w.heap.size + 1, 15, none⟩ = some (.int .u8 d) := (blk_cell H4.out.1 15).trans rfl
  have f15 := blk_frozen H4.out.1 15
  go_wp2
  have g0 := blk_put (cs' := #[.int .u8 0, .int .u8 0, .int .u8 0, .int .u8 0, .int .u8 0, .int .u8 0, .int .u8 0, .int .u8 0, .int .u8 0, .int .u8 0, .int .u8 255, .int .u8 255, .int .u8 a, .int .u8 b, .int .u8 c, .int .u8 d]) H4.out.1 0 (.int .u8 0) rfl
  have g1 := blk_put (cs' := #[.int .u8 0, .int .u8 0, .int .u8 0, .int .u8 0, .int .u8 0, .int .u8 0, .int .u8 0, .int .u8 0, .int .u8 0, .int .u8 0, .int .u8 255, .int .u8 255, .int .u8 a, .int .u8 b, .int .u8 c, .int .u8 d]) g0 1 (.int .u8 0) rfl
  have g2 := blk_put (cs' := #[.int .u8 0, .int .u8 0, .int .u8 0, .int .u8 0, .int .u8 0, .int .u8 0, .int .u8 0, .int .u8 0, .int .u8 0, .int .u8 0, .int .u8 255, .int .u8 255, .int .u8 a, .int .u8 b, .int .u8 c, .int .u8 d]) g1 2 (.int .u8 0) rfl
  have g3 := blk_put (cs' := #[.int .u8 0, .int .u8 0, .int .u8 0, .int .u8 0, .int .u8 0, .int .u8 0, .int .u8 0, .int .u8 0, .int .u8 0, .int .u8 0, .int .u8 255, .int .u8 255, .int .u8 a, .int .u8 b, .int .u8 c, .int .u8 d]) g2 3 (.int .u8 0) rfl
  have g4 := blk_put (cs' := #[.int .u8 0, .int .u8 0, .int .u8 0, .int .u8 0, .int .u8 0, .int .u8 0, .int .u8 0, .int .u8 0, .int .u8 0, .int .u8 0, .int .u8 255, .int .u8 255, .int .u8 a, .int .u8 b, .int .u8 c, .int .u8 d]) g3 4 (.int .u8 0) rfl
  have g5 := blk_put (cs' := #[.int .u8 0, .int .u8 0, .int .u8 0, .int .u8 0, .int .u8 0, .int .u8 0, .int .u8 0, .int .u8 0, .int .u8 0, .int .u8 0, .int .u8 255, .int .u8 255, .int .u8 a, .int .u8 b, .int .u8 c, .int .u8 d]) g4 5 (.int .u8 0) rfl
  have g6 := blk_put (cs' := #[.int .u8 0, .int .u8 0, .int .u8 0, .int .u8 0, .int .u8 0, .int .u8 0, .int .u8 0, .int .u8 0, .int .u8 0, .int .u8 0, .int .u8 255, .int .u8 255, .int .u8 a, .int .u8 b, .int .u8 c, .int .u8 d]) g5 6 (.int .u8 0) rfl
  have g7 := blk_put (cs' := #[.int .u8 0, .int .u8 0, .int .u8 0, .int .u8 0, .int .u8 0, .int .u8 0, .int .u8 0, .int .u8 0, .int .u8 0, .int .u8 0, .int .u8 255, .int .u8 255, .int .u8 a, .int .u8 b, .int .u8 c, .int .u8 d]) g6 7 (.int .u8 0) rfl
  have g8 := blk_put (cs' := #[.int .u8 0, .int .u8 0, .int .u8 0, .int .u8 0, .int .u8 0, .int .u8 0, .int .u8 0, .int .u8 0, .int .u8 0, .int .u8 0, .int .u8 255, .int .u8 255, .int .u8 a, .int .u8 b, .int .u8 c, .int .u8 d]) g7 8 (.int .u8 0) rfl
  have g9 := blk_put (cs' := #[.int .u8 0, .int .u8 0, .int .u8 0, .int .u8 0, .int .u8 0, .int .u8 0, .int .u8 0, .int .u8 0, .int .u8 0, .int .u8 0, .int .u8 255, .int .u8 255, .int .u8 a, .int .u8 b, .int .u8 c, .int .u8 d]) g8 9 (.int .u8 0) rfl
  have g10 := blk_put (cs' := #[.int .u8 0, .int .u8 0, .int .u8 0, .int .u8 0, .int .u8 0, .int .u8 0, .int .u8 0, .int .u8 0, .int .u8 0, .int .u8 0, .int .u8 255, .int .u8 255, .int .u8 a, .int .u8 b, .int .u8 c, .int .u8 d]) g9 10 (.int .u8 255) rfl
  have g11 := blk_put (cs' := #[.int .u8 0, .int .u8 0, .int .u8 0, .int .u8 0, .int .u8 0, .int .u8 0, .int .u8 0, .int .u8 0, .int .u8 0, .int .u8 0, .int .u8 255, .int .u8 255, .int .u8 a, .int .u8 b, .int .u8 c, .int .u8 d]) g10 11 (.int .u8 255) rfl
  have g12 := blk_put (cs' := #[.int .u8 0, .int .u8 0, .int .u8 0, .int .u8 0, .int .u8 0, .int .u8 0, .int .u8 0, .int .u8 0, .int .u8 0, .int .u8 0, .int .u8 255, .int .u8 255, .int .u8 a, .int .u8 b, .int .u8 c, .int .u8 d]) g11 12 (.int .u8 a) rfl
  have g13 := blk_put (cs' := #[.int .u8 0, .int .u8 0, .int .u8 0, .int .u8 0, .int .u8 0, .int .u8 0, .int .u8 0, .int .u8 0, .int .u8 0, .int .u8 0, .int .u8 255, .int .u8 255, .int .u8 a, .int .u8 b, .int .u8 c, .int .u8 d]) g12 13 (.int .u8 b) rfl
  have g14 := blk_put (cs' := #[.int .u8 0, .int .u8 0, .int .u8 0, .int .u8 0, .int .u8 0, .int .u8 0, .int .u8 0, .int .u8 0, .int .u8 0, .int .u8 0, .int .u8 255, .int .u8 255, .int .u8 a, .int .u8 b, .int .u8 c, .int .u8 d]) g13 14 (.int .u8 c) rfl
  have g15 := blk_put (cs' := #[.int .u8 0, .int .u8 0, .int .u8 0, .int .u8 0, .int .u8 0, .int .u8 0, .int .u8 0, .int .u8 0, .int .u8 0, .int .u8 0, .int .u8 255, .int .u8 255, .int .u8 a, .int .u8 b, .int .u8 c, .int .u8 d]) g14 15 (.int .u8 d) rfl
  exact bodyPost_ret (results_cell_row rfl _ _ (w.heap.size + 1) 161 #[.int .u8 0, .int .u8 0, .int .u8 0, .int .u8 0, .int .u8 0, .int .u8 0, .int .u8 0, .int .u8 0, .int .u8 0, .int .u8 0, .int .u8 255, .int .u8 255, .int .u8 a, .int .u8 b, .int .u8 c, .int .u8 d] (0, 0) _ rfl g15 Tryd.underlying161 rfl (by kernel_rfl)) rfl ⟨rfl, (below_set (below_set (below_set (below_set (below_set (below_set (below_set (below_set (below_set (below_set (below_set (below_set (below_set (below_set (below_set (below_set H4.out.2 (by omega)) (by omega)) (by omega)) (by omega)) (by omega)) (by omega)) (by omega)) (by omega)) (by omega)) (by omega)) (by omega)) (by omega)) (by omega)) (by omega)) (by omega)) (by omega))⟩
end Go.Proofs.YtangjgclpipjdaaDoor
set_option linter.unusedVariables false
namespace Go.Proofs.YtangjgclpipjdaaDoor
open Go.RowKit Go.Proofs.YtangjgclpipjdaaDoorW.PrintWords Go.Proofs.YtangjgclpipjdaaDoorW.PrintLast Go.Proofs.YtangjgclpipjdaaDoorW.PrintMore

/-- The sixteen bytes of an address. -/
def ip16 (l : List Int) : List Int := [0, 0, 0, 0, 0, 0, 0, 0, 0, 0, 255, 255] ++ l
set_option maxRecDepth 100000 in
set_option maxHeartbeats 4000000 in
theorem zzParse_any (t : ByteArray) (a b c d : Int) (h : sAddr (bs t) = ([a, b, c, d], true)) (hz : t.size ≤ 1000) (z : Addr) (w : World) (hZ : ZZone z w) :
    Calls Tryd.prog 52 #[.string t] w fun e w' => ∃ g, e = .returned (.slice (some ⟨g, 0, none⟩) 16 16) ∧ w.heap.size ≤ g ∧ w'.heap[g]? = some (.cells ((ip16 [a, b, c, d]).map (Value.int .u8)).toArray 161 (0, 0)) ∧ Below w.heap.size w w' := by
  have hbd := (sAddr_text _ _ h).2.2
  have HH := Lib.hid (And.intro h (And.intro hbd hZ))
  clear h hbd hZ
  go_enter Tryd.func52, Tryd.ntmps52
  go_wp2_with fail
  refine (parseAddr_any t a b c d HH.out.1 hz z w HH.out.2.2.1).mono ?_
  rintro e w1 ⟨rfl, hb1⟩
  have H1 := Lib.hid (And.intro hb1 (HH.out.2.2.on hb1))
  clear hb1
  go_wp2_with fail
  have b2 := (Below.refl w1.heap.size w1).alloc (Nat.le_refl _) (ipO (ip4 a b c d) z)
  refine (zone_any (ip4 a b c d) z _ (H1.out.2.on b2)).mono ?_
  rintro e w3 ⟨rfl, hb3⟩
  have hr3 := blk_below (blk_new w1 (ipO (ip4 a b c d) z)) hb3
  obtain ⟨p0, p1, p2⟩ := ip_cells hr3
  have H3 := Lib.hid (below_step (below_step H1.out.1 b2) hb3)
  clear hb3 b2 hr3
  go_wp2_with fail
  refine (as16_any a b c d z w3 (HH.out.2.1 a (by simp)) (HH.out.2.1 b (by simp)) (HH.out.2.1 c (by simp)) (HH.out.2.1 d (by simp))).mono ?_
  rintro e w4 ⟨rfl, hb4⟩
  have H4 := Lib.hid (below_step H3.out hb4)
  clear hb4 p0 p1 p2
  go_wp2
  go_ret
  exact ⟨w4.heap.size, rfl, H4.out.size, blk_new _ _, H4.out.alloc H4.out.size _⟩
set_option maxRecDepth 100000 in
set_option maxHeartbeats 4000000 in
theorem addressOk_any (t : ByteArray) (a b c d : Int) (h : sAddr (bs t) = ([a, b, c, d], true)) (hz : t.size ≤ 1000) (z : Addr) (w : World) (hZ : ZZone z w) :
    Calls Tryd.prog 39 #[.string t] w fun e w' => e = .returned (.bool true) ∧ Below w.heap.size w w' := by
  have HH := Lib.hid (And.intro h hZ)
  clear h hZ
  go_enter Tryd.func39, Tryd.ntmps39
  go_wp2_with fail
  refine (zzParse_any t a b c d HH.out.1 hz z w HH.out.2).mono ?_
  rintro e w1 ⟨g, rfl, hg, hblk, hb1⟩
  have hnil : ∀ W, (binOp .eql 26 (.slice (some ⟨g, 0, none⟩) 16 16) (.slice none 0 0)).run Tryd.prog W = .ok (.bool false) W := fun W => Lib.run_eql_slice_some_nil W _ _ _ Tryd.underlying26
  have hnil2 : ∀ W, (binOp .neq 26 (.slice (some ⟨g, 0, none⟩) 16 16) (.slice none 0 0)).run Tryd.prog W = .ok (.bool true) W := fun W => by kernel_rfl
  have H1 := Lib.hid hb1
  clear hb1 hblk
  go_wp2
  go_ret
  exact ⟨rfl, H1.out⟩
end Go.Proofs.YtangjgclpipjdaaDoor
