/- The lemmas and walks that FnDecode and FnCut and FnRead rests on, part 22: Cut MsgB. -/
import Derived.Test.YtangjgclpipjdaaDoorQM15
import Derived.Test.YtangjgclpipjdaaDoorQM17
import Derived.Test.YtangjgclpipjdaaDoorQM19
import Derived.Test.YtangjgclpipjdaaDoorQM20
import Derived.Test.YtangjgclpipjdaaDoorQM21
set_option linter.unusedVariables false
namespace Go.Proofs.YtangjgclpipjdaaDoor
open Go.RowKit Go.Proofs.YtangjgclpipjdaaDoorW.PrintWords Go.Proofs.YtangjgclpipjdaaDoorW.PrintLast Go.Proofs.YtangjgclpipjdaaDoorW.PrintMore
theorem C_head {w : World} {A : Option Addr} {xs : List Int} (h : Kd.C (Kd.int .u8) w A xs.length xs) (k : Nat) (hk : k ≤ xs.length) : Kd.C (Kd.int .u8) w A k (xs.take k) := by
  have := Kd.C_take h hk
  rwa [show (xs.take k).length = k by rw [List.length_take]; omega] at this
/-- An answer of no message. -/
def GotNo (w w' : World) (e : Ending) : Prop := Below w.heap.size w w' ∧ e = .returned (.tuple #[.agg (zeroM.arr (.slice none 0 0)), .bool false])
set_option maxRecDepth 100000 in
set_option maxHeartbeats 4000000 in
theorem decode_none (xs : List Int) (ho : sOpen xs = none) (h0 : xs.length ≠ 0) (A : Option Addr) (cc : Nat) (hcc : xs.length ≤ cc) (hB : IsB xs) (hx : xs.length ≤ 16384) (w : World) (hr : Kd.C (Kd.int .u8) w A xs.length xs) :
    Calls Tryd.prog 20 #[.slice A xs.length cc] w fun e w' => GotNo w w' e := by
  have HH := Lib.hid hr
  have b0 := (Below.refl w.heap.size w).alloc (Nat.le_refl _) (msgO zeroM (.slice none 0 0))
  have r0 := blk_new w (msgO zeroM (.slice none 0 0))
  clear hr
  go_enter Tryd.func20, Tryd.ntmps20
  go_wp2_with fail
  refine (whole_no 10 (by omega) (by omega) xs ho h0 A cc hcc hB (by omega) _ (Kd.C_below HH.out b0)).mono ?_
  rintro e w1 ⟨rfl, hb1⟩
  have H1 := Lib.hid (And.intro (below_step b0 hb1) (blk_below r0 hb1))
  clear b0 r0 hb1
  obtain ⟨r0, r1, r2, r3, r4, r5, r6, r7, r8, r9, r10, r11⟩ := msg_cells H1.out.2
  have hfr := fun i => blk_frozen H1.out.2 i
  have f0 := hfr 0
  have f1 := hfr 1
  have f2 := hfr 2
  have f3 := hfr 3
  have f4 := hfr 4
  have f5 := hfr 5
  have f6 := hfr 6
  have f7 := hfr 7
  have f8 := hfr 8
  have f9 := hfr 9
  have f10 := hfr 10
  have f11 := hfr 11
  clear hfr
  go_wp2
  refine msg_ret (m := zeroM) (v := .slice none 0 0) rfl rfl rfl H1.out.2 ?_
  exact ⟨setMsg_below H1.out.1 (Nat.le_refl _) _ _, rfl⟩
theorem errorsNew_any (s : ByteArray) (w : World) : Calls Tryd.prog 61 #[.string s] w fun e w' => (∃ t v, e = .returned (.iface t v)) ∧ Below w.heap.size w w' := by
  go_enter Tryd.func61, Tryd.ntmps61
  go_wp2
  go_ret
  exact ⟨⟨_, _, rfl⟩, (Below.refl _ _).alloc (Nat.le_refl _) _⟩
set_option maxRecDepth 100000 in
set_option maxHeartbeats 4000000 in
theorem version_empty (A : Option Addr) (cc : Nat) (gx g : Nat) (w : World) : Calls Tryd.prog 87 #[.pointer (some ⟨gx, 0, none⟩), .slice A 0 cc, .pointer (some ⟨g, 0, none⟩)] w fun e w' => (∃ t v, e = .returned (.tuple #[.int .u8 0, .int .i64 0, .iface t v])) ∧ Below w.heap.size w w' := by
  go_enter Tryd.func87, Tryd.ntmps87
  go_wp2_with fail
  refine (errorsNew_any _ w).mono ?_
  rintro e w1 ⟨⟨t, v, rfl⟩, hb⟩
  go_wp2
  go_ret3
  exact ⟨⟨_, _, rfl⟩, hb⟩
set_option maxRecDepth 100000 in
set_option maxHeartbeats 4000000 in
theorem header_empty (A : Option Addr) (cc : Nat) (gx g : Nat) (w : World) : Calls Tryd.prog 54 #[.pointer (some ⟨gx, 0, none⟩), .slice A 0 cc, .pointer (some ⟨g, 0, none⟩)] w fun e w' => (∃ t v, e = .returned (.tuple #[.int .i64 0, .iface t v])) ∧ Below w.heap.size w w' := by
  go_enter Tryd.func54, Tryd.ntmps54
  go_wp2_with fail
  refine (version_empty A cc gx g w).mono ?_
  rintro e w1 ⟨⟨t, v, rfl⟩, hb⟩
  go_wp2
  go_ret2
  exact ⟨⟨_, _, rfl⟩, hb⟩
set_option maxRecDepth 100000 in
set_option maxHeartbeats 4000000 in
theorem packet_empty (A : Option Addr) (cc : Nat) (gx : Nat) (w : World) (hgx : w.heap[gx]? = some (.cells #[] 103 (0, 0))) : Calls Tryd.prog 44 #[.pointer (some ⟨gx, 0, none⟩), .slice A 0 cc] w fun e w' => (∃ p t v, e = .returned (.tuple #[p, .iface t v])) ∧ Below w.heap.size w w' := by
  have b0 := (Below.refl w.heap.size w).alloc (Nat.le_refl _) (pktO zeroPk (.slice none 0 0))
  have hg0 := blk_new w (pktO zeroPk (.slice none 0 0))
  have hgx1 := blk_alloc hgx (pktO zeroPk (.slice none 0 0))
  have hpart := fun W => part_zero W gx
  have hpp := part_pkt _ _ _ _ hg0
  clear hgx
  go_enter Tryd.func44, Tryd.ntmps44
  go_wp2_with fail
  refine (header_empty A cc gx w.heap.size _).mono ?_
  rintro e w2 ⟨⟨t, v, rfl⟩, hb⟩
  have HB := Lib.hid (below_step b0 hb)
  clear hb b0 hg0 hgx1 hpart hpp
  go_wp2
  go_ret2
  exact ⟨⟨_, _, _, rfl⟩, HB.out⟩
set_option maxRecDepth 100000 in
set_option maxHeartbeats 4000000 in
theorem decode_empty (A : Option Addr) (cc : Nat) (w : World) (hr : Kd.C (Kd.int .u8) w A 0 []) :
    Calls Tryd.prog 20 #[.slice A 0 cc] w fun e w' => GotNo w w' e := by
  have HH := Lib.hid hr
  have b0 := (Below.refl w.heap.size w).alloc (Nat.le_refl _) (msgO zeroM (.slice none 0 0))
  have r0 := blk_new w (msgO zeroM (.slice none 0 0))
  clear hr
  go_enter Tryd.func20, Tryd.ntmps20
  go_wp2_with fail
  refine (whole_ok 10 (by omega) [] (.nil _) A cc (Nat.zero_le _) isB_nil (by simp) _ (Kd.C_below HH.out b0)).mono ?_
  rintro e w1 ⟨rfl, hb1⟩
  have H1 := Lib.hid (And.intro (below_step b0 hb1) (blk_below r0 hb1))
  clear b0 r0 hb1
  go_wp2_with fail
  have bg := H1.out.1.alloc H1.out.1.size (.cells #[] 103)
  have hgx := blk_new w1 (.cells #[] 103)
  refine (Clone_any _ [] _ _ (readB_of (Nat.zero_le _) (Kd.C_below HH.out bg)) (by simp)).mono ?_
  rintro e w2 ⟨v2, rfl, ho2, hb2⟩
  obtain ⟨A2, c2, rfl, hc2, hC2⟩ := Kd.R_reads ho2
  have b2 := below_step bg hb2
  have H2 := Lib.hid (And.intro b2 (And.intro (blk_below (blk_alloc H1.out.2 (.cells #[] 103)) hb2) (blk_below hgx hb2)))
  clear bg hgx ho2 hb2 b2 hC2
  go_wp2_with fail
  refine (packet_empty A2 c2 w1.heap.size w2 H2.out.2.2).mono ?_
  rintro e w3 ⟨⟨p, t, v, rfl⟩, hb3⟩
  have H3 := Lib.hid (And.intro (below_step H2.out.1 hb3) (blk_below H2.out.2.1 hb3))
  clear hb3
  obtain ⟨r0, r1, r2, r3, r4, r5, r6, r7, r8, r9, r10, r11⟩ := msg_cells H3.out.2
  have hfr := fun i => blk_frozen H3.out.2 i
  have f0 := hfr 0
  have f1 := hfr 1
  have f2 := hfr 2
  have f3 := hfr 3
  have f4 := hfr 4
  have f5 := hfr 5
  have f6 := hfr 6
  have f7 := hfr 7
  have f8 := hfr 8
  have f9 := hfr 9
  have f10 := hfr 10
  have f11 := hfr 11
  clear hfr
  go_wp2
  refine msg_ret (m := zeroM) (v := .slice none 0 0) rfl rfl rfl H3.out.2 ?_
  exact ⟨setMsg_below H3.out.1 (Nat.le_refl _) _ _, rfl⟩
/-- Decode at a message's bytes that are cut. -/
theorem decode_cut (xs : List Int) (p : MsgP) (hm : sMsg xs = some p) (k : Nat) (hk : k < xs.length) (A : Option Addr) (cc : Nat) (hcc : k ≤ cc) (hB : IsB xs) (hx : xs.length ≤ 16384) (w : World) (hr : Kd.C (Kd.int .u8) w A k (xs.take k)) :
    Calls Tryd.prog 20 #[.slice A k cc] w fun e w' => GotNo w w' e := by
  obtain ⟨inn, cv, in1, in2, body, ci, b1, cs, b2, cx, b3, list, hp⟩ := sMsg_parts hm
  have hl : (xs.take k).length = k := by rw [List.length_take]; omega
  rcases Nat.eq_zero_or_pos k with rfl | h0
  · rw [List.take_zero] at hr
    exact decode_empty A cc w hr
  · have hn := sOpen_cut (sNext_open hp.n1) hB k hk
    have := decode_none (xs.take k) hn (by omega) A cc (by omega) (isB_take hB k) (by omega) w (by rw [hl]; exact hr)
    rwa [hl] at this
end Go.Proofs.YtangjgclpipjdaaDoor
set_option linter.unusedVariables false
namespace Go.Proofs.YtangjgclpipjdaaDoor
open Go.RowKit Go.Proofs.YtangjgclpipjdaaDoorW.PrintWords Go.Proofs.YtangjgclpipjdaaDoorW.PrintLast Go.Proofs.YtangjgclpipjdaaDoorW.PrintMore
theorem strOfNums_len (l : List Int) : (strOfNums l).size = l.length := by simp [strOfNums, ByteArray.size]
theorem sTold_bounds {tag i u : Int} {tx c : List Int} (h : sTold tag c = some (i, u, tx)) (hB : IsB c) (hl : c.length ≤ 2147483647) : (-9223372036854775808 ≤ i ∧ i ≤ 9223372036854775807) ∧ (0 ≤ u ∧ u ≤ 18446744073709551615) ∧ tx.length ≤ 2147483647 := by
  unfold sTold at h
  split at h
  · split at h
    · simp only [Option.some.injEq, Prod.mk.injEq] at h
      obtain ⟨rfl, rfl, rfl⟩ := h
      exact ⟨sVal_bnd c, by omega, by simp⟩
    · simp at h
  split at h
  · simp only [Option.some.injEq, Prod.mk.injEq] at h
    obtain ⟨rfl, rfl, rfl⟩ := h
    exact ⟨by omega, by omega, hl⟩
  split at h
  · split at h
    · simp only [Option.some.injEq, Prod.mk.injEq] at h
      obtain ⟨rfl, rfl, rfl⟩ := h
      exact ⟨by omega, by omega, by simp⟩
    · simp at h
  split at h
  · split at h
    · rename_i hf
      simp only [Option.some.injEq, Prod.mk.injEq] at h
      obtain ⟨rfl, rfl, rfl⟩ := h
      obtain ⟨x, y, l, ha, -, x0, x2, y0, y2, hbd, hll⟩ := sOf_text c hB (sOf c).1 (Prod.ext rfl hf)
      have := sDot_len (sOf c).1 (fun z hz => by
        rw [ha] at hz
        rcases List.mem_cons.1 hz with rfl | hz
        · omega
        rcases List.mem_cons.1 hz with rfl | hz
        · omega
        · exact hbd z hz)
      exact ⟨by omega, by omega, by omega⟩
    · simp at h
  split at h
  · split at h
    · rename_i h4
      simp only [Option.some.injEq, Prod.mk.injEq] at h
      obtain ⟨rfl, rfl, rfl⟩ := h
      have := dots_len c (fun x hx => hB x hx)
      exact ⟨by omega, by omega, by omega⟩
    · simp at h
  split at h
  · split at h
    · rename_i hl8
      simp only [Option.some.injEq, Prod.mk.injEq] at h
      obtain ⟨rfl, rfl, rfl⟩ := h
      obtain ⟨hv, -, -, v0, v1⟩ := uPart_val c hB hl8
      rw [← hv]
      exact ⟨by omega, by omega, by simp⟩
    · simp at h
  · simp at h
theorem sOfVar_ok {b rest : List Int} {v : VarP} (ho : sOfVar b = some (v, rest)) (hB : IsB b) (hl : b.length ≤ 2147483647) : VarOk v.t := by
  obtain ⟨inn, nm, in2, c, hp⟩ := sOfVar_parts ho
  have h1 := sOpen_isB hB (sNext_open hp.n1)
  have h2 := sOpen_isB h1.1 (sNext_open hp.n2)
  have h3 := sOpen_isB h2.2.1 hp.n3
  have l1 := sOpen_len hB (sNext_open hp.n1)
  have l2 := sOpen_len h1.1 (sNext_open hp.n2)
  have l3 := sOpen_len h2.2.1 hp.n3
  obtain ⟨a, b', c'⟩ := sTold_bounds hp.told h3.1 (by omega)
  obtain ⟨x, y, l, ha, -, x0, x2, y0, y2, hbd, hll⟩ := sOf_text nm h2.1 v.1 hp.nm
  have := sDot_len v.1 (fun z hz => by
    rw [ha] at hz
    rcases List.mem_cons.1 hz with rfl | hz
    · omega
    rcases List.mem_cons.1 hz with rfl | hz
    · omega
    · exact hbd z hz)
  exact ⟨a.1, a.2, b'.1, b'.2, by show (strOfNums (sDot v.1)).size ≤ _; rw [strOfNums_len]; omega, by show (strOfNums v.2.2.2.2).size ≤ _; rw [strOfNums_len]; omega⟩
theorem sVars_ok : ∀ (n : Nat) (b : List Int) (vs : List VarP), IsB b → b.length ≤ 2147483647 → sVars n b = some vs → ∀ v ∈ vs, VarOk v.t
  | n, [], vs, _, _, h => by
    have : sVars n [] = some [] := by cases n <;> rfl
    rw [this] at h
    injection h with h
    subst h
    simp
  | 0, _ :: _, _, _, _, h => by simp [sVars] at h
  | n + 1, x :: l, vs, hb, hl, h => by
    simp only [sVars] at h
    rcases ho : sOfVar (x :: l) with _ | ⟨v, rest⟩
    · rw [ho] at h; simp at h
    rw [ho] at h
    simp only at h
    obtain ⟨vs', hv, rfl⟩ := Option.map_eq_some_iff.1 h
    obtain ⟨h1, h2⟩ := sOfVar_rest ho hb
    intro u hu
    rcases List.mem_cons.1 hu with rfl | hu
    · exact sOfVar_ok ho hb hl
    · exact sVars_ok n rest vs' h2 (by omega) hv u hu
theorem sMsg_ok {xs : List Int} {p : MsgP} (hB : IsB xs) (hl : xs.length ≤ 2147483647) (h : sMsg xs = some p) : ∀ v ∈ p.vars.map VarP.t, VarOk v := by
  obtain ⟨inn, cv, in1, in2, body, ci, b1, cs, b2, cx, b3, list, hp⟩ := sMsg_parts h
  have h1 := sOpen_isB hB (sNext_open hp.n1)
  have h2 := sOpen_isB h1.1 (sNext_open hp.n2)
  have h3 := sOpen_isB h2.2.1 (sNext_open hp.n3)
  have h4 := sOpen_isB h3.2.1 hp.n4
  have h5 := sOpen_isB h4.1 (sNext_open hp.n5)
  have h6 := sOpen_isB h5.2.1 (sNext_open hp.n6)
  have h7 := sOpen_isB h6.2.1 (sNext_open hp.n7)
  have h8 := sOpen_isB h7.2.1 (sNext_open hp.n8)
  have l1 := sOpen_len hB (sNext_open hp.n1)
  have l2 := sOpen_len h1.1 (sNext_open hp.n2)
  have l3 := sOpen_len h2.2.1 (sNext_open hp.n3)
  have l4 := sOpen_len h3.2.1 hp.n4
  have l5 := sOpen_len h4.1 (sNext_open hp.n5)
  have l6 := sOpen_len h5.2.1 (sNext_open hp.n6)
  have l7 := sOpen_len h6.2.1 (sNext_open hp.n7)
  have l8 := sOpen_len h7.2.1 (sNext_open hp.n8)
  intro v hv
  obtain ⟨q, hq, rfl⟩ := List.mem_map.1 hv
  exact sVars_ok _ _ _ h8.1 (by omega) hp.vs q hq
theorem cont_lim {ty i u : Int} {tx c : List Int} {i' u' : Int} {tx' : List Int} (h : Cont ty i u tx c i' u' tx') (h67 : ty = 67) : u' ≤ 4294967295 := by
  cases h <;> omega
/-- A message that is read and asked can be decoded. -/
theorem decIn_of {p : MsgP} {n : Nat} (hok : MsgOk (msgP p) n) {qs : List (VarT × Ask)} (hq : ∀ q ∈ qs, okQ q) (he : p.vars.map VarP.t = qs.map toldQ) : DecIn p :=
  ⟨hok.v0, hok.v1, hok.k0, hok.k1, hok.k4, hok.s0, hok.s1, hok.x0, hok.x1, fun v hv h67 => by
    have h1 : v.t ∈ qs.map toldQ := by rw [← he]; exact List.mem_map.2 ⟨v, hv, rfl⟩
    obtain ⟨q, hq1, hqe⟩ := List.mem_map.1 h1
    have e1 : q.1.ty = v.2.1 := congrArg VarT.ty hqe
    have e2 : q.2.u = v.2.2.2.1 := congrArg VarT.u hqe
    rw [← e2]
    exact cont_lim (hq q hq1).cont (e1.trans h67)⟩
end Go.Proofs.YtangjgclpipjdaaDoor
