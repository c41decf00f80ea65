/- The lemmas and walks that FnDecode and FnCut and FnRead rests on, part 18: OMsg. -/
import Derived.Test.YtangjgclpipjdaaDoorQM15
import Derived.Test.YtangjgclpipjdaaDoorQM16
set_option linter.unusedVariables false
namespace Go.Proofs.YtangjgclpipjdaaDoor
open Go.RowKit Go.Proofs.YtangjgclpipjdaaDoorW.PrintWords Go.Proofs.YtangjgclpipjdaaDoorW.PrintLast Go.Proofs.YtangjgclpipjdaaDoorW.PrintMore
theorem sVal_bnd (xs : List Int) : -9223372036854775808 ≤ sVal xs ∧ sVal xs ≤ 9223372036854775807 := by
  unfold sVal wrap64
  split <;> omega
/-- What whole gives. -/
def Numbered (A : Option Addr) (xs : List Int) (e : Ending) : Prop := ∃ n y A2 c2 ok, e = .returned (.tuple #[.int .i64 n, .slice A2 y.length c2, .bool ok]) ∧
  Cut A xs A2 c2 y ∧ IsB y ∧ y.length ≤ xs.length ∧ -9223372036854775808 ≤ n ∧ n ≤ 9223372036854775807 ∧ sNum xs = if ok = true then some (n, y) else none
set_option maxRecDepth 100000 in
set_option maxHeartbeats 4000000 in
theorem specWhole_any (A : Option Addr) (c : Nat) (xs : List Int) (w : World) (hr : Kd.C (Kd.int .u8) w A xs.length xs) (hc : xs.length ≤ c) (hb : IsB xs) :
    Calls Tryd.prog 41 #[.slice A xs.length c] w fun e w' => Below w.heap.size w w' ∧ Numbered A xs e := by
  have HR := Lib.hid (And.intro hr hb)
  clear hr hb
  go_enter Tryd.func41, Tryd.ntmps41
  go_wp2_with fail
  refine (next_any A c xs 2 w HR.out.1 hc HR.out.2).mono ?_
  rintro e w1 ⟨hbl, x, y, A1, c1, A2, c2, ok, rfl, k1, k2, b1, b2, hl, ho⟩
  cases ok with
  | false =>
    have HN := Lib.hid (show sNum xs = none by unfold sNum; rw [ho]; rfl)
    clear k1 k2 b1 b2 hl ho
    go_wp2
    go_ret3
    exact ⟨hbl, 0, [], none, 0, false, rfl, Cut.nil _ _, isB_nil, Nat.zero_le _, by omega, by omega, HN.out⟩
  | true =>
    have HO := Lib.hid (And.intro hbl (And.intro k1 (And.intro k2 (And.intro b1 (And.intro b2 (And.intro hl ho))))))
    clear hbl k1 k2 b1 b2 hl ho
    go_wp2_with fail
    refine (specOfInt_any A1 c1 x w1 (HO.out.2.1.2 w1 (Kd.C_below HR.out.1 HO.out.1)) HO.out.2.1.1 HO.out.2.2.2.1).mono ?_
    rintro e w2 ⟨hb2, n, ok, rfl, hn⟩
    have H2 := Lib.hid (And.intro (below_step HO.out.1 hb2) hn)
    clear hb2 hn
    go_wp2
    go_ret3
    refine ⟨H2.out.1, n, y, A2, c2, ok, rfl, HO.out.2.2.1, HO.out.2.2.2.2.1, by have := HO.out.2.2.2.2.2.1; omega, ?_⟩
    have hn := H2.out.2
    have ho := HO.out.2.2.2.2.2.2
    have hs := sVal_bnd x
    unfold sNum
    rw [ho]
    by_cases h : 1 ≤ x.length ∧ x.length ≤ 8
    · rw [if_pos h] at hn
      obtain ⟨rfl, rfl⟩ := hn
      refine ⟨hs.1, hs.2, ?_⟩
      simp only [if_true]
      rw [if_pos h]
    · rw [if_neg h] at hn
      obtain ⟨rfl, rfl⟩ := hn
      refine ⟨by omega, by omega, ?_⟩
      simp only [if_true]
      rw [if_neg h]
      rfl
def msgP (m : MsgP) : MsgT := ⟨m.ver, strOfNums m.com, m.kind, m.id, m.st, m.ix, ⟨#[]⟩, ⟨#[]⟩, 0, 0, 0⟩
def GotOM (xs : List Int) (w w' : World) (e : Ending) : Prop := Below w.heap.size w w' ∧ ((sMsg xs = none ∧ e = .returned (.tuple #[.agg (zeroM.arr (.slice none 0 0)), .bool false])) ∨
  ∃ m v, sMsg xs = some m ∧ e = .returned (.tuple #[.agg ((msgP m).arr v), .bool true]) ∧ OwnV w' w.heap.size v (m.vars.map VarP.t))
theorem om_no {xs : List Int} {fn : Func} {p u : Tmp} (h : fn.results = #[.cell p 40, .tmp u]) {a : Act} {w W : World} (hp : a.tmps.getD p undef = .pointer (some ⟨w.heap.size, 0, none⟩)) (hu : a.tmps.getD u undef = .bool false) (hd : a.defers = [])
    (hres : W.heap[w.heap.size]? = some (msgO zeroM (.slice none 0 0))) (hb : Below w.heap.size w W) (hn : sMsg xs = none) : bodyPost Tryd.prog fn (fun e w' => GotOM xs w w' e) .ret a (setMsg W w.heap.size zeroM (.slice none 0 0)) :=
  msg_ret (m := zeroM) (v := .slice none 0 0) h hp hd hres ⟨setMsg_below hb (Nat.le_refl _) zeroM (.slice none 0 0), .inl ⟨hn, by rw [hu]⟩⟩
set_option maxRecDepth 100000 in
set_option maxHeartbeats 16000000 in
theorem ofMessage_any (A : Option Addr) (c : Nat) (xs : List Int) (w : World) (hr : Kd.C (Kd.int .u8) w A xs.length xs) (hc : xs.length ≤ c) (hb : IsB xs) (hl : xs.length ≤ 2147483647) :
    Calls Tryd.prog 17 #[.slice A xs.length c] w fun e w' => GotOM xs w w' e := by
  have HR := Lib.hid (And.intro hr hb)
  clear hr hb
  go_enter Tryd.func17, Tryd.ntmps17
  go_wp2_with fail
  have b0 := (Below.refl w.heap.size w).alloc (Nat.le_refl _) (msgO zeroM (.slice none 0 0))
  have r0 := blk_new w (msgO zeroM (.slice none 0 0))
  refine (next_any A c xs 48 _ (Kd.C_below HR.out.1 b0) hc HR.out.2).mono ?_
  rintro e w1 ⟨hb1, x1, y1, A1, c1, B1, d1, ok1, rfl, k1, k2, i1, i2, l1, ho1⟩
  have H1 := Lib.hid (And.intro (below_step b0 hb1) (And.intro (blk_below r0 hb1) (And.intro k1 (And.intro i1 (show sMsg xs = sMsg1 (if ok1 = true then some (x1, y1) else none) by unfold sMsg; rw [ho1])))))
  clear b0 r0 hb1 k1 k2 i1 i2 ho1
  cases ok1 with
  | false =>
    have HN := Lib.hid (show sMsg xs = none by rw [H1.out.2.2.2.2]; rfl)
    obtain ⟨r0, r1, r2, r3, r4, r5, r6, r7, r8, r9, r10, r11⟩ := msg_cells H1.out.2.1
    have hfr := fun i => blk_frozen H1.out.2.1 i
    have f0 := hfr 0
    have f1 := hfr 1
    have f2 := hfr 2
    have f3 := hfr 3
    have f4 := hfr 4
    have f5 := hfr 5
    have f6 := hfr 6
    have f7 := hfr 7
    have f8 := hfr 8
    have f9 := hfr 9
    have f10 := hfr 10
    have f11 := hfr 11
    clear hfr
    go_wp2
    exact om_no rfl rfl rfl rfl H1.out.2.1 H1.out.1 HN.out
  | true =>
  by_cases hy1 : y1.length = 0
  case neg =>
    have hyp : 0 < (y1.length : Int) := by omega
    have HN := Lib.hid (show sMsg xs = none by rw [H1.out.2.2.2.2]; simp only [if_true, sMsg1]; rw [if_neg hy1])
    obtain ⟨r0, r1, r2, r3, r4, r5, r6, r7, r8, r9, r10, r11⟩ := msg_cells H1.out.2.1
    have hfr := fun i => blk_frozen H1.out.2.1 i
    have f0 := hfr 0
    have f1 := hfr 1
    have f2 := hfr 2
    have f3 := hfr 3
    have f4 := hfr 4
    have f5 := hfr 5
    have f6 := hfr 6
    have f7 := hfr 7
    have f8 := hfr 8
    have f9 := hfr 9
    have f10 := hfr 10
    have f11 := hfr 11
    clear hfr
    go_wp2
    exact om_no rfl rfl rfl rfl H1.out.2.1 H1.out.1 HN.out
  rw [hy1]
  have HM2 := Lib.hid (show sMsg xs = sMsg2 (sNum x1) by rw [H1.out.2.2.2.2]; simp only [if_true, sMsg1]; rw [if_pos hy1])
  go_wp2_with fail
  refine (specWhole_any A1 c1 x1 w1 (H1.out.2.2.1.2 w1 (Kd.C_below HR.out.1 H1.out.1)) H1.out.2.2.1.1 H1.out.2.2.2.1).mono ?_
  rintro e w2 ⟨hb2, n2, y2, A2, c2, ok2, rfl, k2, i2, l2, nl2, nu2, ho⟩
  have H2 := Lib.hid (And.intro (below_step H1.out.1 hb2) (And.intro (blk_below H1.out.2.1 hb2) (And.intro (H1.out.2.2.1.trans k2) (And.intro i2 (show sMsg xs = sMsg2 (if ok2 = true then some (n2, y2) else none) by rw [HM2.out, ho])))))
  clear hb2 k2 i2 ho HM2 H1
  cases ok2 with
  | false =>
    have HN := Lib.hid (show sMsg xs = none by rw [H2.out.2.2.2.2]; rfl)
    obtain ⟨r0, r1, r2, r3, r4, r5, r6, r7, r8, r9, r10, r11⟩ := msg_cells H2.out.2.1
    have hfr := fun i => blk_frozen H2.out.2.1 i
    have f0 := hfr 0
    have f1 := hfr 1
    have f2 := hfr 2
    have f3 := hfr 3
    have f4 := hfr 4
    have f5 := hfr 5
    have f6 := hfr 6
    have f7 := hfr 7
    have f8 := hfr 8
    have f9 := hfr 9
    have f10 := hfr 10
    have f11 := hfr 11
    clear hfr
    go_wp2
    exact om_no rfl rfl rfl rfl H2.out.2.1 H2.out.1 HN.out
  | true =>
  have HM3 := Lib.hid (show sMsg xs = sMsg3 n2 (sNext y2 4) by rw [H2.out.2.2.2.2]; rfl)
  go_wp2_with fail
  refine (next_any A2 c2 y2 4 w2 (H2.out.2.2.1.2 w2 (Kd.C_below HR.out.1 H2.out.1)) H2.out.2.2.1.1 H2.out.2.2.2.1).mono ?_
  rintro e w3 ⟨hb3, x3, y3, A3, c3, B3, d3, ok3, rfl, k1, k2, i1, i2, l3, ho⟩
  have HC3 := Lib.hid (And.intro (H2.out.2.2.1.trans k1) i1)
  have H3 := Lib.hid (And.intro (below_step H2.out.1 hb3) (And.intro (blk_below H2.out.2.1 hb3) (And.intro (H2.out.2.2.1.trans k2) (And.intro i2 (show sMsg xs = sMsg3 n2 (if ok3 = true then some (x3, y3) else none) by rw [HM3.out, ho])))))
  clear hb3 k1 k2 i1 i2 ho HM3 H2
  cases ok3 with
  | false =>
    have HN := Lib.hid (show sMsg xs = none by rw [H3.out.2.2.2.2]; rfl)
    obtain ⟨r0, r1, r2, r3, r4, r5, r6, r7, r8, r9, r10, r11⟩ := msg_cells H3.out.2.1
    have hfr := fun i => blk_frozen H3.out.2.1 i
    have f0 := hfr 0
    have f1 := hfr 1
    have f2 := hfr 2
    have f3 := hfr 3
    have f4 := hfr 4
    have f5 := hfr 5
    have f6 := hfr 6
    have f7 := hfr 7
    have f8 := hfr 8
    have f9 := hfr 9
    have f10 := hfr 10
    have f11 := hfr 11
    clear hfr
    go_wp2
    exact om_no rfl rfl rfl rfl H3.out.2.1 H3.out.1 HN.out
  | true =>
  have HM4 := Lib.hid (show sMsg xs = sMsg4 n2 x3 (sOpen y3) by rw [H3.out.2.2.2.2]; rfl)
  go_wp2_with fail
  refine (opened_any B3 d3 y3 w3 (H3.out.2.2.1.2 w3 (Kd.C_below HR.out.1 H3.out.1)) H3.out.2.2.1.1 H3.out.2.2.2.1).mono ?_
  rintro e w4 ⟨hb4, t4, x4, y4, A4, c4, B4, d4, ok4, rfl, k1, k2, i1, i2, t40, t41, l4, ho⟩
  have H4 := Lib.hid (And.intro (below_step H3.out.1 hb4) (And.intro (blk_below H3.out.2.1 hb4) (And.intro (H3.out.2.2.1.trans k1) (And.intro i1 (show sMsg xs = sMsg4 n2 x3 (if ok4 = true then some (t4, x4, y4) else none) by rw [HM4.out, ho])))))
  clear hb4 k1 k2 i1 i2 ho HM4 H3
  cases ok4 with
  | false =>
    have HN := Lib.hid (show sMsg xs = none by rw [H4.out.2.2.2.2]; rfl)
    obtain ⟨r0, r1, r2, r3, r4, r5, r6, r7, r8, r9, r10, r11⟩ := msg_cells H4.out.2.1
    have hfr := fun i => blk_frozen H4.out.2.1 i
    have f0 := hfr 0
    have f1 := hfr 1
    have f2 := hfr 2
    have f3 := hfr 3
    have f4 := hfr 4
    have f5 := hfr 5
    have f6 := hfr 6
    have f7 := hfr 7
    have f8 := hfr 8
    have f9 := hfr 9
    have f10 := hfr 10
    have f11 := hfr 11
    clear hfr
    go_wp2
    exact om_no rfl rfl rfl rfl H4.out.2.1 H4.out.1 HN.out
  | true =>
  by_cases hy4 : y4.length = 0
  case neg =>
    have hyp : 0 < (y4.length : Int) := by omega
    have HN := Lib.hid (show sMsg xs = none by rw [H4.out.2.2.2.2]; simp only [if_true, sMsg4]; rw [if_neg hy4])
    obtain ⟨r0, r1, r2, r3, r4, r5, r6, r7, r8, r9, r10, r11⟩ := msg_cells H4.out.2.1
    have hfr := fun i => blk_frozen H4.out.2.1 i
    have f0 := hfr 0
    have f1 := hfr 1
    have f2 := hfr 2
    have f3 := hfr 3
    have f4 := hfr 4
    have f5 := hfr 5
    have f6 := hfr 6
    have f7 := hfr 7
    have f8 := hfr 8
    have f9 := hfr 9
    have f10 := hfr 10
    have f11 := hfr 11
    clear hfr
    go_wp2
    exact om_no rfl rfl rfl rfl H4.out.2.1 H4.out.1 HN.out
  rw [hy4]
  have HM5 := Lib.hid (show sMsg xs = sMsg5 n2 x3 t4 (sNum x4) by rw [H4.out.2.2.2.2]; simp only [if_true, sMsg4]; rw [if_pos hy4])
  go_wp2_with fail
  refine (specWhole_any A4 c4 x4 w4 (H4.out.2.2.1.2 w4 (Kd.C_below HR.out.1 H4.out.1)) H4.out.2.2.1.1 H4.out.2.2.2.1).mono ?_
  rintro e w5 ⟨hb5, n5, y5, A5, c5, ok5, rfl, k2, i2, l5, nl5, nu5, ho⟩
  have H5 := Lib.hid (And.intro (below_step H4.out.1 hb5) (And.intro (blk_below H4.out.2.1 hb5) (And.intro (H4.out.2.2.1.trans k2) (And.intro i2 (show sMsg xs = sMsg5 n2 x3 t4 (if ok5 = true then some (n5, y5) else none) by rw [HM5.out, ho])))))
  clear hb5 k2 i2 ho HM5 H4
  cases ok5 with
  | false =>
    have HN := Lib.hid (show sMsg xs = none by rw [H5.out.2.2.2.2]; rfl)
    obtain ⟨r0, r1, r2, r3, r4, r5, r6, r7, r8, r9, r10, r11⟩ := msg_cells H5.out.2.1
    have hfr := fun i => blk_frozen H5.out.2.1 i
    have f0 := hfr 0
    have f1 := hfr 1
    have f2 := hfr 2
    have f3 := hfr 3
    have f4 := hfr 4
    have f5 := hfr 5
    have f6 := hfr 6
    have f7 := hfr 7
    have f8 := hfr 8
    have f9 := hfr 9
    have f10 := hfr 10
    have f11 := hfr 11
    clear hfr
    go_wp2
    exact om_no rfl rfl rfl rfl H5.out.2.1 H5.out.1 HN.out
  | true =>
  by_cases hi0 : n5 < 0
  · skip
    have HN := Lib.hid (show sMsg xs = none by rw [H5.out.2.2.2.2]; simp only [if_true, sMsg5]; rw [if_neg (by omega)])
    obtain ⟨r0, r1, r2, r3, r4, r5, r6, r7, r8, r9, r10, r11⟩ := msg_cells H5.out.2.1
    have hfr := fun i => blk_frozen H5.out.2.1 i
    have f0 := hfr 0
    have f1 := hfr 1
    have f2 := hfr 2
    have f3 := hfr 3
    have f4 := hfr 4
    have f5 := hfr 5
    have f6 := hfr 6
    have f7 := hfr 7
    have f8 := hfr 8
    have f9 := hfr 9
    have f10 := hfr 10
    have f11 := hfr 11
    clear hfr
    go_wp2
    exact om_no rfl rfl rfl rfl H5.out.2.1 H5.out.1 HN.out
  by_cases hi1 : 2147483648 ≤ n5
  · skip
    have HN := Lib.hid (show sMsg xs = none by rw [H5.out.2.2.2.2]; simp only [if_true, sMsg5]; rw [if_neg (by omega)])
    obtain ⟨r0, r1, r2, r3, r4, r5, r6, r7, r8, r9, r10, r11⟩ := msg_cells H5.out.2.1
    have hfr := fun i => blk_frozen H5.out.2.1 i
    have f0 := hfr 0
    have f1 := hfr 1
    have f2 := hfr 2
    have f3 := hfr 3
    have f4 := hfr 4
    have f5 := hfr 5
    have f6 := hfr 6
    have f7 := hfr 7
    have f8 := hfr 8
    have f9 := hfr 9
    have f10 := hfr 10
    have f11 := hfr 11
    clear hfr
    go_wp2
    exact om_no rfl rfl rfl rfl H5.out.2.1 H5.out.1 HN.out
  have HM6 := Lib.hid (show sMsg xs = sMsg6 n2 x3 t4 n5 (sNum y5) by rw [H5.out.2.2.2.2]; simp only [if_true, sMsg5]; rw [if_pos (by omega)])
  go_wp2_with fail
  refine (specWhole_any A5 c5 y5 w5 (H5.out.2.2.1.2 w5 (Kd.C_below HR.out.1 H5.out.1)) H5.out.2.2.1.1 H5.out.2.2.2.1).mono ?_
  rintro e w6 ⟨hb6, n6, y6, A6, c6, ok6, rfl, k2, i2, l6, nl6, nu6, ho⟩
  have H6 := Lib.hid (And.intro (below_step H5.out.1 hb6) (And.intro (blk_below H5.out.2.1 hb6) (And.intro (H5.out.2.2.1.trans k2) (And.intro i2 (show sMsg xs = sMsg6 n2 x3 t4 n5 (if ok6 = true then some (n6, y6) else none) by rw [HM6.out, ho])))))
  clear hb6 k2 i2 ho HM6 H5
  cases ok6 with
  | false =>
    have HN := Lib.hid (show sMsg xs = none by rw [H6.out.2.2.2.2]; rfl)
    obtain ⟨r0, r1, r2, r3, r4, r5, r6, r7, r8, r9, r10, r11⟩ := msg_cells H6.out.2.1
    have hfr := fun i => blk_frozen H6.out.2.1 i
    have f0 := hfr 0
    have f1 := hfr 1
    have f2 := hfr 2
    have f3 := hfr 3
    have f4 := hfr 4
    have f5 := hfr 5
    have f6 := hfr 6
    have f7 := hfr 7
    have f8 := hfr 8
    have f9 := hfr 9
    have f10 := hfr 10
    have f11 := hfr 11
    clear hfr
    go_wp2
    exact om_no rfl rfl rfl rfl H6.out.2.1 H6.out.1 HN.out
  | true =>
  have HM7 := Lib.hid (show sMsg xs = sMsg7 n2 x3 t4 n5 n6 (sNum y6) by rw [H6.out.2.2.2.2]; rfl)
  go_wp2_with fail
  refine (specWhole_any A6 c6 y6 w6 (H6.out.2.2.1.2 w6 (Kd.C_below HR.out.1 H6.out.1)) H6.out.2.2.1.1 H6.out.2.2.2.1).mono ?_
  rintro e w7 ⟨hb7, n7, y7, A7, c7, ok7, rfl, k2, i2, l7, nl7, nu7, ho⟩
  have H7 := Lib.hid (And.intro (below_step H6.out.1 hb7) (And.intro (blk_below H6.out.2.1 hb7) (And.intro (H6.out.2.2.1.trans k2) (And.intro i2 (show sMsg xs = sMsg7 n2 x3 t4 n5 n6 (if ok7 = true then some (n7, y7) else none) by rw [HM7.out, ho])))))
  clear hb7 k2 i2 ho HM7 H6
  cases ok7 with
  | false =>
    have HN := Lib.hid (show sMsg xs = none by rw [H7.out.2.2.2.2]; rfl)
    obtain ⟨r0, r1, r2, r3, r4, r5, r6, r7, r8, r9, r10, r11⟩ := msg_cells H7.out.2.1
    have hfr := fun i => blk_frozen H7.out.2.1 i
    have f0 := hfr 0
    have f1 := hfr 1
    have f2 := hfr 2
    have f3 := hfr 3
    have f4 := hfr 4
    have f5 := hfr 5
    have f6 := hfr 6
    have f7 := hfr 7
    have f8 := hfr 8
    have f9 := hfr 9
    have f10 := hfr 10
    have f11 := hfr 11
    clear hfr
    go_wp2
    exact om_no rfl rfl rfl rfl H7.out.2.1 H7.out.1 HN.out
  | true =>
  have HM8 := Lib.hid (show sMsg xs = sMsg8 n2 x3 t4 n5 n6 n7 (sNext y7 48) by rw [H7.out.2.2.2.2]; rfl)
  go_wp2_with fail
  refine (next_any A7 c7 y7 48 w7 (H7.out.2.2.1.2 w7 (Kd.C_below HR.out.1 H7.out.1)) H7.out.2.2.1.1 H7.out.2.2.2.1).mono ?_
  rintro e w8 ⟨hb8, x8, y8, A8, c8, B8, d8, ok8, rfl, k1, k2, i1, i2, l8, ho⟩
  have H8 := Lib.hid (And.intro (below_step H7.out.1 hb8) (And.intro (blk_below H7.out.2.1 hb8) (And.intro (H7.out.2.2.1.trans k1) (And.intro i1 (show sMsg xs = sMsg8 n2 x3 t4 n5 n6 n7 (if ok8 = true then some (x8, y8) else none) by rw [HM8.out, ho])))))
  clear hb8 k1 k2 i1 i2 ho HM8 H7
  cases ok8 with
  | false =>
    have HN := Lib.hid (show sMsg xs = none by rw [H8.out.2.2.2.2]; rfl)
    obtain ⟨r0, r1, r2, r3, r4, r5, r6, r7, r8, r9, r10, r11⟩ := msg_cells H8.out.2.1
    have hfr := fun i => blk_frozen H8.out.2.1 i
    have f0 := hfr 0
    have f1 := hfr 1
    have f2 := hfr 2
    have f3 := hfr 3
    have f4 := hfr 4
    have f5 := hfr 5
    have f6 := hfr 6
    have f7 := hfr 7
    have f8 := hfr 8
    have f9 := hfr 9
    have f10 := hfr 10
    have f11 := hfr 11
    clear hfr
    go_wp2
    exact om_no rfl rfl rfl rfl H8.out.2.1 H8.out.1 HN.out
  | true =>
  by_cases hy8 : y8.length = 0
  case neg =>
    have hyp : 0 < (y8.length : Int) := by omega
    have HN := Lib.hid (show sMsg xs = none by rw [H8.out.2.2.2.2]; simp only [if_true, sMsg8]; rw [if_neg hy8])
    obtain ⟨r0, r1, r2, r3, r4, r5, r6, r7, r8, r9, r10, r11⟩ := msg_cells H8.out.2.1
    have hfr := fun i => blk_frozen H8.out.2.1 i
    have f0 := hfr 0
    have f1 := hfr 1
    have f2 := hfr 2
    have f3 := hfr 3
    have f4 := hfr 4
    have f5 := hfr 5
    have f6 := hfr 6
    have f7 := hfr 7
    have f8 := hfr 8
    have f9 := hfr 9
    have f10 := hfr 10
    have f11 := hfr 11
    clear hfr
    go_wp2
    exact om_no rfl rfl rfl rfl H8.out.2.1 H8.out.1 HN.out
  rw [hy8]
  have HM9 := Lib.hid (show sMsg xs = (sVars x8.length x8).map (fun vs => ⟨n2, x3, t4, n5, n6, n7, vs⟩) by rw [H8.out.2.2.2.2]; simp only [if_true, sMsg8]; rw [if_pos hy8])
  have hcv := Kd.C_string (P := Tryd.prog) Tryd.underlying26 Tryd.underlying5 Tryd.underlying9 (HC3.out.1.2 w8 (Kd.C_below HR.out.1 H8.out.1)) (c := c3)
  have hal : ∀ o, Below w.heap.size w (w8.alloc o) := fun o => H8.out.1.alloc H8.out.1.size o
  generalize hcs : strOfNums x3 = cs at *
  have wn2 : IntKind.i64.wrap n2 = n2 := by simp [IntKind.wrap, IntKind.bits, IntKind.signed]; omega
  have wn5 : IntKind.u32.wrap n5 = n5 := by simp [IntKind.wrap, IntKind.bits, IntKind.signed]; omega
  have HX := Lib.hid (And.intro hal hcs)
  clear hal hcs
  go_wp2_with fail
  have hg := blk_new w8 (msgO (⟨n2, cs, t4, n5, n6, n7, ⟨#[]⟩, ⟨#[]⟩, 0, 0, 0⟩ : MsgT) (.slice none 0 0))
  have hr9 := blk_alloc H8.out.2.1 (msgO (⟨n2, cs, t4, n5, n6, n7, ⟨#[]⟩, ⟨#[]⟩, 0, 0, 0⟩ : MsgT) (.slice none 0 0))
  have hb9 := HX.out.1 (msgO (⟨n2, cs, t4, n5, n6, n7, ⟨#[]⟩, ⟨#[]⟩, 0, 0, 0⟩ : MsgT) (.slice none 0 0))
  have hz8 := blk_lt H8.out.2.1
  have hM : sMsg xs = (sVars x8.length x8).map (fun r => ⟨n2, x3, t4, n5, n6, n7, [] ++ r⟩) := HM9.out
  have H9 := Lib.hid (And.intro H8.out.2.2.1 (And.intro H8.out.2.2.2.1 (And.intro hg (And.intro hr9 (And.intro hb9 hM)))))
  have hl8 : x8.length ≤ xs.length := by omega
  clear hg hr9 hb9 hM HM9 HC3 hcv wn2 wn5 H8 l1 l2 l3 l4 l5 l6 l7 l8 nl2 nu2 nl5 nu5 nl6 nu6 nl7 nu7 t40 t41 hi0 hi1 hy1 hy4 hy8
  generalize w8.alloc (msgO (⟨n2, cs, t4, n5, n6, n7, ⟨#[]⟩, ⟨#[]⟩, 0, 0, 0⟩ : MsgT) (.slice none 0 0)) = w9 at *
  go_loopg [20, 23, 24, 25] x8.length (fun k v20 v23 v24 v25 wr => ∃ (z : List Int) (Az : Option Addr) (cz : Nat), v20 = .slice Az z.length cz ∧ Hid (∃ (vs : List VarP) (V : Value), k = z.length ∧ Cut A xs Az cz z ∧ IsB z ∧ vs.length + z.length ≤ xs.length ∧ wr.heap[w8.heap.size]? = some (msgO (⟨n2, cs, t4, n5, n6, n7, ⟨#[]⟩, ⟨#[]⟩, 0, 0, 0⟩ : MsgT) V) ∧ wr.heap[w.heap.size]? = some (msgO zeroM (.slice none 0 0)) ∧ Below w.heap.size w wr ∧ OwnV wr (w8.heap.size + 1) V (vs.map VarP.t) ∧ sMsg xs = (sVars z.length z).map (fun r => ⟨n2, x3, t4, n5, n6, n7, vs ++ r⟩)))
  case atStart => exact ⟨x8, A8, c8, rfl, Lib.hid ⟨[], _, rfl, H9.out.1, H9.out.2.1, by simpa using hl8, H9.out.2.2.1, H9.out.2.2.2.1, H9.out.2.2.2.2.1, OwnV.nil _ _, H9.out.2.2.2.2.2⟩⟩
  case round =>
    obtain ⟨z, Az, cz, rfl, HJ⟩ := hrel
    obtain ⟨vs, V, hk, hcut, hzB, hzl, hout, hres, hbw, hown, hM⟩ := HJ.out
    clear HJ H9
    by_cases hz0 : z.length = 0
    · obtain rfl := List.eq_nil_of_length_eq_zero hz0
      rw [show sVars (([] : List Int)).length [] = some [] from rfl] at hM
      simp only [Option.map_some, List.append_nil] at hM
      obtain ⟨A', c', rfl, -⟩ := Kd.R_slice hown
      rw [List.length_map] at hout hown
      have hmp : msgP ⟨n2, x3, t4, n5, n6, n7, vs⟩ = ⟨n2, cs, t4, n5, n6, n7, ⟨#[]⟩, ⟨#[]⟩, 0, 0, 0⟩ := by unfold msgP; rw [HX.out.2]
      have HP := Lib.hid hmp
      clear hmp
      obtain ⟨o0, o1, o2, o3, o4, o5, o6, o7, o8, o9, o10, o11⟩ := msg_cells hout
      obtain ⟨r0, r1, r2, r3, r4, r5, r6, r7, r8, r9, r10, r11⟩ := msg_cells hres
      have hfr := fun i => blk_frozen hres i
      have HE := Lib.hid (And.intro hres (And.intro hbw (And.intro hown (And.intro hM hout))))
      have f0 := hfr 0
      have f1 := hfr 1
      have f2 := hfr 2
      have f3 := hfr 3
      have f4 := hfr 4
      have f5 := hfr 5
      have f6 := hfr 6
      have f7 := hfr 7
      have f8 := hfr 8
      have f9 := hfr 9
      have f10 := hfr 10
      have f11 := hfr 11
      have hne : w8.heap.size ≠ w.heap.size := by omega
      clear hk hcut hzB hzl hout hres hbw hown hM hfr
      simp only [List.length_nil]
      go_wp2
      refine msg_ret (m := (⟨n2, cs, t4, n5, n6, n7, ⟨#[]⟩, ⟨#[]⟩, 0, 0, 0⟩ : MsgT)) (v := .slice A' vs.length c') rfl rfl rfl HE.out.1 ?_
      exact ⟨setMsg_below HE.out.2.1 (Nat.le_refl _) _ _, .inr ⟨⟨n2, x3, t4, n5, n6, n7, vs⟩, _, HE.out.2.2.2.1, by rw [HP.out]; rfl, Kd.R_lower (OwnV.setMsg HE.out.2.2.1 w.heap.size (by omega) _ _) (by omega)⟩⟩
    · have hpos : 0 < (z.length : Int) := by omega
      have HJ := Lib.hid (And.intro hk (And.intro hcut (And.intro hzB (And.intro hzl (And.intro hout (And.intro hres (And.intro hbw (And.intro hown hM))))))))
      clear hk hcut hzB hout hres hbw hown hM
      go_wp2_with fail
      refine (ofVar_any Az cz z wr (HJ.out.2.1.2 wr (Kd.C_below HR.out.1 HJ.out.2.2.2.2.2.2.1)) HJ.out.2.1.1 HJ.out.2.2.1 (by omega)).mono ?_
      rintro e w4 ⟨hb4, h4⟩
      have hz9 := blk_lt HJ.out.2.2.2.2.1
      have hz4 : w8.heap.size < w4.heap.size := by have := hb4.size; omega
      have H4 := Lib.hid (And.intro (blk_below HJ.out.2.2.2.2.1 hb4) (And.intro (blk_below HJ.out.2.2.2.2.2.1 hb4) (And.intro (below_step HJ.out.2.2.2.2.2.2.1 hb4) (HJ.out.2.2.2.2.2.2.2.1.below hb4))))
      have hz9b : w.heap.size < w4.heap.size := by omega
      clear hb4 hz9
      rcases h4 with ⟨hn, fnm, fty, fi, fu, ftx, v2, rfl⟩ | ⟨arcs, ty, i, u, tx, rest, A2, c2, ho, rfl, kc⟩
      · have HN := Lib.hid (show sMsg xs = none by rw [HJ.out.2.2.2.2.2.2.2.2, sVars_none hz0 hn]; rfl)
        clear hn
        obtain ⟨r0, r1, r2, r3, r4, r5, r6, r7, r8, r9, r10, r11⟩ := msg_cells H4.out.2.1
        have hfr := fun i => blk_frozen H4.out.2.1 i
        have f0 := hfr 0
        have f1 := hfr 1
        have f2 := hfr 2
        have f3 := hfr 3
        have f4 := hfr 4
        have f5 := hfr 5
        have f6 := hfr 6
        have f7 := hfr 7
        have f8 := hfr 8
        have f9 := hfr 9
        have f10 := hfr 10
        have f11 := hfr 11
        clear hfr
        go_wp2
        refine msg_ret2 (m := zeroM) (v := .slice none 0 0) rfl rfl rfl H4.out.2.1 ?_
        have hb6 := setMsg_below H4.out.2.2.1 (Nat.le_refl _) zeroM (.slice none 0 0)
        exact ⟨hb6.alloc hb6.size _, .inl ⟨HN.out, rfl⟩⟩
      · have hs := sVars_step HJ.out.2.2.1 ho
        have HS := Lib.hid (And.intro hs.1 (And.intro hs.2.2 kc))
        have hs2 := hs.2.1
        obtain ⟨dn, hdn⟩ : ∃ dn, dn = strOfNums (sDot arcs) := ⟨_, rfl⟩
        obtain ⟨dt, hdt⟩ : ∃ dt, dt = strOfNums tx := ⟨_, rfl⟩
        rw [← hdn, ← hdt]
        have HV := Lib.hid (show VarP.t (arcs, ty, i, u, tx) = ⟨dn, ty, i, u, dt⟩ by rw [hdn, hdt]; rfl)
        obtain ⟨hout, hres, hbw, hown⟩ := H4.out
        obtain ⟨A', c', rfl, -⟩ := Kd.R_slice hown
        have hlm : (vs.map VarP.t).length = vs.length := List.length_map _
        rw [hlm] at hout hown
        obtain ⟨o0, o1, o2, o3, o4, o5, o6, o7, o8, o9, o10, o11⟩ := msg_cells hout
        have fo6 := blk_frozen hout 6
        have ba := (Below.refl w4.heap.size w4).alloc (Nat.le_refl _) (varO dn ty i u dt)
        have HA := Lib.hid (And.intro (hown.below ba) (And.intro (blk_alloc hout (varO dn ty i u dt)) (And.intro (blk_alloc hres (varO dn ty i u dt)) (below_step hbw ba))))
        have hl5 : (vs.map VarP.t ++ [(⟨dn, ty, i, u, dt⟩ : VarT)]).length = vs.length + 1 := by simp
        clear hs ho kc hdn hdt o0 o1 o2 o3 o4 o5 o7 o8 o9 o10 o11 hout hres hbw hown ba H4
        have HLM := Lib.hid hlm
        clear hlm
        go_wp2_with (at_builtin; refine app_var rfl (.tmp 144) (.tmp 146) rfl (w8.heap.size + 1) _ (vs.map VarP.t) ⟨dn, ty, i, u, dt⟩ rfl rfl (by simp) HA.out.1 (by simp; omega) (by rw [HLM.out]; omega) ?_; intro v1 w5 ho5 hg5 hat5; obtain ⟨A5, c5, rfl, -⟩ := Kd.R_slice ho5; rw [hl5] at ho5 ⊢; have hout5 := grown_blk hg5 HA.out.2.1 (fun k hk => by have := HA.out.1.block k hk; omega); have hres5 := grown_blk hg5 HA.out.2.2.1 (fun k hk => by have := HA.out.1.block k hk; omega); have z6 := (msg_cells hout5).2.2.2.2.2.2.1; have zf6 := blk_frozen hout5 6; refine Hid.out ?_)
        have hb6 := HA.out.2.2.2.grown hg5 (by simp; omega) (fun k hk => by have := HA.out.1.block k hk; omega)
        have hput : (w5.setCell ⟨w8.heap.size, 6, none⟩ (.slice A5 (vs.length + 1) c5)).heap[w8.heap.size]? = some (msgO (⟨n2, cs, t4, n5, n6, n7, ⟨#[]⟩, ⟨#[]⟩, 0, 0, 0⟩ : MsgT) (.slice A5 (vs.length + 1) c5)) := blk_put (cs' := (⟨n2, cs, t4, n5, n6, n7, ⟨#[]⟩, ⟨#[]⟩, 0, 0, 0⟩ : MsgT).arr (.slice A5 (vs.length + 1) c5)) hout5 6 _ rfl
        have hres6 : (w5.setCell ⟨w8.heap.size, 6, none⟩ (.slice A5 (vs.length + 1) c5)).heap[w.heap.size]? = some (msgO zeroM (.slice none 0 0)) := (Below.heap_setCell _ _ _ _ (by show w.heap.size ≠ w8.heap.size; omega)).trans hres5
        have ho6 : OwnV (w5.setCell ⟨w8.heap.size, 6, none⟩ (.slice A5 (vs.length + 1) c5)) (w8.heap.size + 1) (.slice A5 (vs.length + 1) c5) (vs.map VarP.t ++ [⟨dn, ty, i, u, dt⟩]) := ho5.move (fun k hk => Below.heap_setCell _ _ _ _ (by have := ho5.block k hk; show k ≠ w8.heap.size; omega))
        have H6 := Lib.hid (And.intro hput (And.intro hres6 (And.intro (below_set (j := 6) (v := .slice A5 (vs.length + 1) c5) hb6 (show w.heap.size ≤ w8.heap.size by omega)) ho6)))
        clear hb6 hput hres6 ho6 ho5 hg5 hat5 hout5 hres5
        refine Lib.hid ?_
        go_wp2
        go_roundg rest.length
        case measure =>
          have := HJ.out.1
          omega
        case rel => exact ⟨rest, A2, c2, rfl, Lib.hid ⟨vs ++ [(arcs, ty, i, u, tx)], _, rfl, HJ.out.2.1.trans HS.out.2.2, HS.out.2.1, by simp; omega, H6.out.1, H6.out.2.1, H6.out.2.2.1, by
          rw [List.map_append, List.map_cons, List.map_nil, HV.out]
          exact H6.out.2.2.2, by
          rw [HJ.out.2.2.2.2.2.2.2.2, HS.out.1, Option.map_map]
          congr 1
          funext r
          simp⟩⟩
end Go.Proofs.YtangjgclpipjdaaDoor
