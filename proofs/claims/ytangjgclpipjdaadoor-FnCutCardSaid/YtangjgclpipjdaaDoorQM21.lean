/- The lemmas and walks that FnDecode and FnCut and FnRead rests on, part 21: Bytes WholeN. -/
import Derived.Shelf.RegionOpenPlain
import Derived.Test.YtangjgclpipjdaaDoorQM8
import Derived.Test.YtangjgclpipjdaaDoorQM17
import Derived.Test.YtangjgclpipjdaaDoorQM20
set_option linter.unusedVariables false
namespace Go.Proofs.YtangjgclpipjdaaDoor
open Go.RowKit Go.Proofs.YtangjgclpipjdaaDoorW.PrintWords Go.Proofs.YtangjgclpipjdaaDoorW.PrintLast Go.Proofs.YtangjgclpipjdaaDoorW.PrintMore
theorem specInt32_any (n : Int) (h0 : -2147483648 ≤ n) (h1 : n ≤ 2147483647) (w : World) : Calls Tryd.prog 42 #[.int .i64 n] w fun e w' => ∃ v, e = .returned v ∧ OwnB w' w.heap.size v (mInt32 n) ∧ Below w.heap.size w w' := by
  refine (specInt_any n (by omega) (by omega) w).mono ?_
  rintro e w' ⟨v, rfl, ho, hb⟩
  rw [sInt_32 n h0 h1] at ho
  exact ⟨v, rfl, ho, hb⟩
theorem specSealedB_any (tag : Int) (A : Option Addr) (c : Nat) (xs : List Int) (wide : Nat) (hw : wide ≤ 5) (hc : xs.length ≤ c) (hl : xs.length ≤ 4294967295) (w : World) (hr : Kd.C (Kd.int .u8) w A xs.length xs) :
    Calls Tryd.prog 23 #[.int .i64 tag, .slice A xs.length c, .int .i64 wide] w fun e w' => ∃ v, e = .returned v ∧ OwnB w' w.heap.size v (sSealed tag xs wide) ∧ Below w.heap.size w w' := by
  refine (specSealed_any tag A c xs wide hw hc hl w hr).mono ?_
  rintro e w' ⟨v, rfl, ho, hb⟩
  exact ⟨v, rfl, ho, hb⟩
def GotBytes (w w' : World) (xs : List Int) (e : Ending) : Prop := ∃ v, e = .returned v ∧ OwnB w' w.heap.size v xs ∧ Below w.heap.size w w'
set_option maxRecDepth 100000 in
set_option maxHeartbeats 8000000 in
theorem specBytes_any (m : MsgT) (A : Option Addr) (c : Nat) (qs : List (VarT × Ask)) (vs : List VarT) (hvs : vs = qs.map (·.1)) (wide : Nat) (hw : wide ≤ 2) (hok : MsgOk m vs.length) (i0 : 0 ≤ m.id) (hq : ∀ q ∈ qs, okQ q) (hv : ∀ v ∈ vs, VarOk v) (w : World) (hC : Kd.C kVar w A vs.length vs) :
    Calls Tryd.prog 19 #[.agg (m.arr (.slice A vs.length c)), .int .i64 wide] w fun e w' => GotBytes w w' (gMsg m.ver (bs m.com) m.kind m.id m.st m.ix (qs.map (bytesQ wide)).flatten wide) e := by
  obtain ⟨ver, com, kind, id, st, ix, ent, ag, gen, spc, tm⟩ := m
  obtain ⟨v0, v1, hcom, k0, k1, k4, s0, s1, x0, x1, n20, i1, hent, hag, hgen, hspc, htm⟩ := hok
  simp only at v0 v1 hcom k0 k1 k4 s0 s1 x0 x1 i1 hent hag hgen hspc htm i0
  subst hent hag hgen hspc htm
  have HH := Lib.hid (And.intro hC (And.intro hvs (And.intro hq hv)))
  clear hC hvs hq hv
  go_enter Tryd.func19, Tryd.ntmps19
  go_wp2_with fail
  have b0 := ((Below.refl w.heap.size w).alloc (Nat.le_refl _) (msgO (⟨ver, com, kind, id, st, ix, ⟨#[]⟩, ⟨#[]⟩, 0, 0, 0⟩ : MsgT) (.slice A vs.length c))).alloc (by simp) (.cells #[] 5)
  have m0 := blk_alloc (blk_new w (msgO (⟨ver, com, kind, id, st, ix, ⟨#[]⟩, ⟨#[]⟩, 0, 0, 0⟩ : MsgT) (.slice A vs.length c))) (.cells #[] 5)
  have o0 := OwnB.lit (w.alloc (msgO (⟨ver, com, kind, id, st, ix, ⟨#[]⟩, ⟨#[]⟩, 0, 0, 0⟩ : MsgT) (.slice A vs.length c))) (w.heap.size + 1) [] (by simp) (by simp) (cs := #[]) rfl
  have H0 := Lib.hid (And.intro b0 (And.intro m0 o0))
  clear b0 m0 o0
  go_loopg [5, 18] vs.length (fun k v5 v18 wr => ∃ j : Nat, v18 = .int .i64 j ∧ Hid (∃ bb : List Int, j ≤ vs.length ∧ k = vs.length - j ∧ bb = ((qs.take j).map (bytesQ wide)).flatten ∧ bb.length ≤ 660 * j ∧ wr.heap[w.heap.size]? = some (msgO (⟨ver, com, kind, id, st, ix, ⟨#[]⟩, ⟨#[]⟩, 0, 0, 0⟩ : MsgT) (.slice A vs.length c)) ∧ Below w.heap.size w wr ∧ OwnB wr (w.heap.size + 1) v5 bb))
  case atStart => exact ⟨0, rfl, Lib.hid ⟨[], Nat.zero_le _, rfl, by simp, by simp, H0.out.2.1, H0.out.1, by simpa using H0.out.2.2⟩⟩
  case round =>
    obtain ⟨j, rfl, HJ⟩ := hrel
    obtain ⟨bb, hj, hk, hbb, hbl, hmb, hbw, hown⟩ := HJ.out
    clear HJ H0
    obtain ⟨A5, c5, rfl, hc5, hC5⟩ := Kd.R_reads hown
    have hvl : vs.length = qs.length := by rw [HH.out.2.1, List.length_map]
    by_cases hjl : j < vs.length
    · obtain ⟨ad, rfl, q0, q1, q2, q3, q4⟩ := var_at (Kd.C_below HH.out.1 hbw) j hjl
      have hjq : j < qs.length := by omega
      have hvo := HH.out.2.2.2 vs[j] (List.getElem_mem hjl)
      have hvq : vs[j] = (qs[j]).1 := by
        have h := HH.out.2.1
        subst h
        simp
      have hok := HH.out.2.2.1 qs[j] (List.getElem_mem hjq)
      have htk : ((qs.take (j + 1)).map (bytesQ wide)).flatten = ((qs.take j).map (bytesQ wide)).flatten ++ bytesQ wide qs[j] := by
        rw [List.take_succ_eq_append_getElem hjq, List.map_append, List.flatten_append]
        simp only [List.map_cons, List.map_nil, List.flatten_cons, List.flatten_nil, List.append_nil]
      have hql := bytesQ_len wide hw qs[j] hok
      generalize qs[j] = qj at *
      generalize vs[j] = vj at *
      subst hvq
      have hok2 : Asked qj.1.nm qj.1.tx qj.1.ty qj.1.i qj.1.u qj.2.arcs qj.2.c qj.2.i qj.2.u qj.2.tx := hok
      obtain ⟨⟨nm, ty, i, u, tx⟩, ask⟩ := qj
      simp only at q0 q1 q2 q3 q4 hok2 hvo
      have HJ := Lib.hid (And.intro hk (And.intro hbb (And.intro hmb (And.intro hbw (And.intro hown htk)))))
      clear hk hbb hmb hbw hown htk hC5 hvl
      go_wp2_with fail
      refine (specValue_ask nm tx ty i u hvo.i0 hvo.i1 hvo.u0 hvo.u1 hvo.n hvo.t wide hw hok2 _).mono ?_
      rintro e w4 ⟨hb4, arcs, c', i', u', tx', v1, v2, hask, rfl, hn1, hn2⟩
      obtain ⟨rfl, rfl⟩ := Asked.one hok2 hask
      obtain ⟨A1, c1, rfl, hc1, hC1⟩ := ReadB.reads hn1
      have b4 := (Below.refl wr.heap.size wr).alloc (Nat.le_refl _) (varO nm ty i u tx)
      have hb5 := b4.trans (hb4.mono b4.size)
      obtain ⟨bq, hbq⟩ : ∃ bq, bq = bytesQ wide (⟨⟨nm, ty, i, u, tx⟩, ask⟩ : VarT × Ask) := ⟨_, rfl⟩
      have hsv : sVar ask.arcs ty ask.c wide = bq := hbq.symm
      rw [hsv] at hC1 hc1 ⊢
      rw [← hbq] at hql
      obtain ⟨dn, hdn⟩ : ∃ dn, dn = strOfNums (sDot ask.arcs) := ⟨_, rfl⟩
      obtain ⟨dt, hdt⟩ : ∃ dt, dt = strOfNums tx' := ⟨_, rfl⟩
      rw [← hdn, ← hdt]
      have H4 := Lib.hid (And.intro (blk_below HJ.out.2.2.1 hb5) (And.intro (below_step HJ.out.2.2.2.1 hb5) (And.intro (HJ.out.2.2.2.2.1.below hb5) (And.intro hC1 hbq))))
      have hz4 := hb5.size
      have hzr := blk_lt HJ.out.2.2.1
      clear q0 q1 q2 q3 q4 hb4 hn1 hn2 b4 hb5 hC1 hdn hdt hsv hbq hok2 hask hvo hok
      have ba := (Below.refl w4.heap.size w4).alloc (Nat.le_refl _) (varO dn ty i' u' dt)
      have hob := H4.out.2.2.1.below ba
      have hcb := Kd.C_below H4.out.2.2.2.1 ba
      go_wp2_with (at_builtin; refine app_bytes rfl (.tmp 30) (.tmp 31) 26 rfl Tryd.underlying26 infoB (w.heap.size + 1) (.slice A5 bb.length c5) bb bq A1 bq.length c1 rfl rfl hob hcb (by simp; omega) (by omega) ?_; intro v1' w5 ho5 hg5 hat5; refine Hid.out ?_)
      have b5 := (below_step H4.out.2.1 ba).grown hg5 (by simp; omega) (fun k hk => by have := OwnB.block hob k hk; omega)
      have hm5 := grown_blk hg5 (blk_below H4.out.1 ba) (fun k hk => by have := OwnB.block hob k hk; omega)
      have H5 := Lib.hid (And.intro b5 (And.intro hm5 ho5))
      clear hob hcb ba b5 hm5 ho5 hg5 hat5
      refine Lib.hid ?_
      go_wp2
      go_roundg (vs.length - (j + 1))
      case measure =>
        have := HJ.out.1
        omega
      case rel => exact ⟨j + 1, by go_num, Lib.hid ⟨bb ++ bq, by omega, rfl, by rw [HJ.out.2.2.2.2.2, HJ.out.2.1, H4.out.2.2.2.2], by simp; omega, H5.out.2.1, H5.out.1, H5.out.2.2⟩⟩
    · obtain rfl : j = vs.length := by omega
      rw [hvl, List.take_length] at hbb
      obtain ⟨p0, p1, p2, p3, p4, p5, p6, p7, p8, p9, p10, p11⟩ := msg_cells hmb
      have HL := Lib.hid (And.intro hbb (And.intro hmb (And.intro hbw hown)))
      clear hbb hmb hbw hown hC5 hvl hk
      have hbs : bb.length ≤ 14000 := by omega
      have hzr := blk_lt HL.out.2.1
      obtain ⟨A5', c5', e5, hc5b, hC5⟩ := Kd.R_reads HL.out.2.2.2
      obtain ⟨rfl, -, rfl⟩ : A5 = A5' ∧ bb.length = bb.length ∧ c5 = c5' := by injection e5 with a b c; exact ⟨a, b, c⟩
      have HV := Lib.hid hC5
      have HF := Lib.hid (Below.refl wr.heap.size wr)
      clear hC5 hc5b e5 p0 p1 p2 p3 p4 p5 p6 p7 p8 p9 p10 p11
      have HM : ∀ W, Below wr.heap.size wr W → W.heap[w.heap.size]? = some (msgO (⟨ver, com, kind, id, st, ix, ⟨#[]⟩, ⟨#[]⟩, 0, 0, 0⟩ : MsgT) (.slice A vs.length c)) := fun W hW => blk_below HL.out.2.1 hW
      have hpm := HM _ HF.out
      obtain ⟨p0, p1, p2, p3, p4, p5, p6, p7, p8, p9, p10, p11⟩ := msg_cells hpm
      go_wp2_with fail
      refine (specInt32_any id (by omega) (by omega) _).mono ?_
      rintro e wa ⟨v, rfl, ho, hb⟩
      obtain ⟨Ai, ci, rfl, hci, hCi⟩ := Kd.R_reads ho
      have hli_wa := mInt32_len id
      have HI := Lib.hid hCi
      clear ho hCi hpm
      clear p0 p1 p2 p3 p4 p5 p6 p7 p8 p9 p10 p11
      have HF2 := Lib.hid (below_step HF.out hb)
      clear HF
      have HF := HF2
      clear HF2
      have hs_wa := HF.out.size
      clear hb
      go_wp2_with fail
      refine (specSealedB_any 2 Ai ci (mInt32 id) wide (by omega) hci (by omega) _ HI.out).mono ?_
      rintro e wb ⟨v, rfl, ho, hb⟩
      obtain ⟨Ax1, cx1, rfl, hcx1, -⟩ := Kd.R_reads ho
      have hlx1 := sealed_len 2 (mInt32 id) wide
      generalize hx1 : sSealed 2 (mInt32 id) wide = x1 at *
      have Ex1 := Lib.hid hx1
      have Ox1 := Lib.hid ho
      clear hx1 ho
      have HF2 := Lib.hid (below_step HF.out hb)
      clear HF
      have HF := HF2
      clear HF2
      have hs_wb := HF.out.size
      clear hb
      have Ob := Lib.hid (show OwnB wb wr.heap.size (.slice Ax1 x1.length cx1) x1 from Kd.R_lower Ox1.out (by omega))
      clear Ox1 HI hci
      have hpm := HM _ HF.out
      obtain ⟨p0, p1, p2, p3, p4, p5, p6, p7, p8, p9, p10, p11⟩ := msg_cells hpm
      go_wp2_with fail
      refine (specInt32_any st (by omega) (by omega) _).mono ?_
      rintro e wc ⟨v, rfl, ho, hb⟩
      obtain ⟨Ai, ci, rfl, hci, hCi⟩ := Kd.R_reads ho
      have hli_wc := mInt32_len st
      have HI := Lib.hid hCi
      clear ho hCi hpm
      clear p0 p1 p2 p3 p4 p5 p6 p7 p8 p9 p10 p11
      have Ob2 := Lib.hid (Ob.out.below hb)
      clear Ob
      have Ob := Ob2
      clear Ob2
      have HF2 := Lib.hid (below_step HF.out hb)
      clear HF
      have HF := HF2
      clear HF2
      have hs_wc := HF.out.size
      clear hb
      go_wp2_with fail
      refine (specSealedB_any 2 Ai ci (mInt32 st) wide (by omega) hci (by omega) _ HI.out).mono ?_
      rintro e wd ⟨v, rfl, ho, hb⟩
      obtain ⟨Ax2, cx2, rfl, hcx2, -⟩ := Kd.R_reads ho
      have hlx2 := sealed_len 2 (mInt32 st) wide
      generalize hx2 : sSealed 2 (mInt32 st) wide = x2 at *
      have Ex2 := Lib.hid hx2
      have Ox2 := Lib.hid ho
      clear hx2 ho
      have Ob2 := Lib.hid (Ob.out.below hb)
      clear Ob
      have Ob := Ob2
      clear Ob2
      have HF2 := Lib.hid (below_step HF.out hb)
      clear HF
      have HF := HF2
      clear HF2
      have hs_wd := HF.out.size
      clear hb
      clear HI hci
      obtain ⟨Ax, cx, ex, hcx, hCx⟩ := Kd.R_reads Ox2.out
      obtain ⟨rfl, -, rfl⟩ : Ax2 = Ax ∧ True ∧ cx2 = cx := by injection ex with a b c; exact ⟨a, trivial, c⟩
      have hbw := HF.out.size
      have hsz := HF.out.size
      go_wp2_with (at_builtin; go_loud (refine app_bytes rfl _ _ 26 rfl Tryd.underlying26 infoB wr.heap.size (.slice Ax1 x1.length cx1) x1 x2 Ax2 x2.length cx2 rfl rfl Ob.out hCx hbw (by omega) ?_; intro v1' w1 ho5 hg5 hat5; refine Hid.out ?_))
      have hfr := HF.out.grown hg5 (by omega) (fun k hk => by have := OwnB.block Ob.out k hk; omega)
      obtain ⟨y2, hy2⟩ : ∃ l, l = x1 ++ x2 := ⟨_, rfl⟩
      rw [← hy2] at ho5
      have hly2 : y2.length ≤ x1.length + x2.length := by rw [hy2]; simp
      obtain ⟨Ay2, cy2, rfl, hcy2, -⟩ := Kd.R_reads ho5
      have Ey2 := Lib.hid hy2
      have Oy2 := Lib.hid ho5
      clear HF
      have HF := Lib.hid hfr
      try clear ex
      clear hfr ho5 hg5 hat5 hCx hcx hy2 Ob Ox2
      refine Lib.hid ?_
      have hpm := HM _ HF.out
      obtain ⟨p0, p1, p2, p3, p4, p5, p6, p7, p8, p9, p10, p11⟩ := msg_cells hpm
      go_wp2_with fail
      refine (specInt32_any ix (by omega) (by omega) _).mono ?_
      rintro e we ⟨v, rfl, ho, hb⟩
      obtain ⟨Ai, ci, rfl, hci, hCi⟩ := Kd.R_reads ho
      have hli_we := mInt32_len ix
      have HI := Lib.hid hCi
      clear ho hCi hpm
      clear p0 p1 p2 p3 p4 p5 p6 p7 p8 p9 p10 p11
      have Oy22 := Lib.hid (Oy2.out.below hb)
      clear Oy2
      have Oy2 := Oy22
      clear Oy22
      have HF2 := Lib.hid (below_step HF.out hb)
      clear HF
      have HF := HF2
      clear HF2
      have hs_we := HF.out.size
      clear hb
      go_wp2_with fail
      refine (specSealedB_any 2 Ai ci (mInt32 ix) wide (by omega) hci (by omega) _ HI.out).mono ?_
      rintro e wf ⟨v, rfl, ho, hb⟩
      obtain ⟨Ax3, cx3, rfl, hcx3, -⟩ := Kd.R_reads ho
      have hlx3 := sealed_len 2 (mInt32 ix) wide
      generalize hx3 : sSealed 2 (mInt32 ix) wide = x3 at *
      have Ex3 := Lib.hid hx3
      have Ox3 := Lib.hid ho
      clear hx3 ho
      have Oy22 := Lib.hid (Oy2.out.below hb)
      clear Oy2
      have Oy2 := Oy22
      clear Oy22
      have HF2 := Lib.hid (below_step HF.out hb)
      clear HF
      have HF := HF2
      clear HF2
      have hs_wf := HF.out.size
      clear hb
      clear HI hci
      obtain ⟨Ax, cx, ex, hcx, hCx⟩ := Kd.R_reads Ox3.out
      obtain ⟨rfl, -, rfl⟩ : Ax3 = Ax ∧ True ∧ cx3 = cx := by injection ex with a b c; exact ⟨a, trivial, c⟩
      have hbw := HF.out.size
      have hsz := HF.out.size
      go_wp2_with (at_builtin; go_loud (refine app_bytes rfl _ _ 26 rfl Tryd.underlying26 infoB wr.heap.size (.slice Ay2 y2.length cy2) y2 x3 Ax3 x3.length cx3 rfl rfl Oy2.out hCx hbw (by omega) ?_; intro v1' w2 ho5 hg5 hat5; refine Hid.out ?_))
      have hfr := HF.out.grown hg5 (by omega) (fun k hk => by have := OwnB.block Oy2.out k hk; omega)
      obtain ⟨y3, hy3⟩ : ∃ l, l = y2 ++ x3 := ⟨_, rfl⟩
      rw [← hy3] at ho5
      have hly3 : y3.length ≤ y2.length + x3.length := by rw [hy3]; simp
      obtain ⟨Ay3, cy3, rfl, hcy3, -⟩ := Kd.R_reads ho5
      have Ey3 := Lib.hid hy3
      have Oy3 := Lib.hid ho5
      clear HF
      have HF := Lib.hid hfr
      try clear ex
      clear hfr ho5 hg5 hat5 hCx hcx hy3 Oy2 Ox3
      refine Lib.hid ?_
      go_wp2_with fail
      refine (specSealedB_any 48 A5 c5 (bb) wide (by omega) hc5 (by omega) _ (Kd.C_below HV.out HF.out)).mono ?_
      rintro e wg ⟨v, rfl, ho, hb⟩
      obtain ⟨Ax4, cx4, rfl, hcx4, -⟩ := Kd.R_reads ho
      have hlx4 := sealed_len 48 (bb) wide
      generalize hx4 : sSealed 48 (bb) wide = x4 at *
      have Ex4 := Lib.hid hx4
      have Ox4 := Lib.hid ho
      clear hx4 ho
      have Oy32 := Lib.hid (Oy3.out.below hb)
      clear Oy3
      have Oy3 := Oy32
      clear Oy32
      have HF2 := Lib.hid (below_step HF.out hb)
      clear HF
      have HF := HF2
      clear HF2
      have hs_wg := HF.out.size
      clear hb
      obtain ⟨Ax, cx, ex, hcx, hCx⟩ := Kd.R_reads Ox4.out
      obtain ⟨rfl, -, rfl⟩ : Ax4 = Ax ∧ True ∧ cx4 = cx := by injection ex with a b c; exact ⟨a, trivial, c⟩
      have hbw := HF.out.size
      have hsz := HF.out.size
      go_wp2_with (at_builtin; go_loud (refine app_bytes rfl _ _ 26 rfl Tryd.underlying26 infoB wr.heap.size (.slice Ay3 y3.length cy3) y3 x4 Ax4 x4.length cx4 rfl rfl Oy3.out hCx hbw (by omega) ?_; intro v1' w3 ho5 hg5 hat5; refine Hid.out ?_))
      have hfr := HF.out.grown hg5 (by omega) (fun k hk => by have := OwnB.block Oy3.out k hk; omega)
      obtain ⟨y4, hy4⟩ : ∃ l, l = y3 ++ x4 := ⟨_, rfl⟩
      rw [← hy4] at ho5
      have hly4 : y4.length ≤ y3.length + x4.length := by rw [hy4]; simp
      obtain ⟨Ay4, cy4, rfl, hcy4, -⟩ := Kd.R_reads ho5
      have Ey4 := Lib.hid hy4
      have Oy4 := Lib.hid ho5
      clear HF
      have HF := Lib.hid hfr
      try clear ex
      clear hfr ho5 hg5 hat5 hCx hcx hy4 Oy3 Ox4
      refine Lib.hid ?_
      have hz : com.size ≤ 2147483647 := by omega
      have hwr3 := HF.out.size
      have F0 : Below w3.heap.size w3 w3.drew := below_drew (Below.refl _ _)
      have SM : ∀ W, Below w3.heap.size w3 W → W.cell? ⟨w.heap.size, 0, none⟩ = some (.int .i64 ver) ∧ W.cell? ⟨w.heap.size, 1, none⟩ = some (.string com) := fun W hW => by
        obtain ⟨q0, q1, -⟩ := msg_cells (HM W (below_step HF.out hW))
        exact ⟨q0, q1⟩
      obtain ⟨z1, hz1⟩ : ∃ z, z = sSealed 2 (mInt32 ver) wide := ⟨_, rfl⟩
      have hzl1 := sealed_len 2 (mInt32 ver) wide
      have hvl := mInt32_len ver
      rw [← hz1] at hzl1
      have Z1 := Lib.hid hz1
      clear hz1
      obtain ⟨z4, hz4⟩ : ∃ z, z = sSealed 4 (bs com) wide := ⟨_, rfl⟩
      have hzl4 := sealed_len 4 (bs com) wide
      have hbc := bs_length com
      rw [← hz4] at hzl4
      have Z4 := Lib.hid hz4
      have HBC := Lib.hid hbc
      have hzl4b : z4.length ≤ 140 := by omega
      clear hz4 hbc hzl4
      have hcv := fun W => Lib.run_convert_string_bytes (P := Tryd.prog) W 9 26 5 com Tryd.underlying9 Tryd.underlying26 Tryd.underlying5
      go_wp2_with fail
      obtain ⟨d0, d1⟩ := SM _ F0
      refine start_ (n := 12) (S := fun W => W.cell? ⟨w.heap.size, 0, none⟩ = some (.int .i64 ver) ∧ W.cell? ⟨w.heap.size, 1, none⟩ = some (.string com)) (ds := [11]) #[false, false, false, false, false, false, false, false, false, false, false, false] (by kernel_rfl) rfl rfl ⟨d0, d1⟩ (fun hHeld => ?_)
      clear d0 d1
      refine pure_ (i := 0) (N := some 59) (v := ?_) (a' := ?_) #[true, false, false, false, false, false, false, false, false, false, false, false] rfl rfl (by kernel_rfl) (fun _ _ _ h => h) (Or.inl ⟨by rfl, ?_⟩) ?_ ?_
      rotate_left
      · intro w'
        go_simp
        with_reducible rfl
      rotate_left
      · simp only [Act.put, List.setIfInBounds_toArray, List.set_cons_zero, List.set_cons_succ]
        rfl
      refine take_ (i := 1) (N := some 60) (v := ?_) (a' := ?_) #[true, true, false, false, false, false, false, false, false, false, false, false] rfl rfl (by kernel_rfl) (fun _ _ _ h => h) (Or.inl ⟨by rfl, ?_⟩) hHeld ?_ ?_
      rotate_left
      · rintro w' ⟨s0, s1⟩
        go_simp
        with_reducible rfl
      rotate_left
      · simp only [Act.put, List.setIfInBounds_toArray, List.set_cons_zero, List.set_cons_succ]
        rfl
      refine pure_ (i := 3) (N := some 62) (v := ?_) (a' := ?_) #[true, true, false, true, false, false, false, false, false, false, false, false] rfl rfl (by kernel_rfl) (fun _ _ _ h => h) (Or.inl ⟨by rfl, ?_⟩) ?_ ?_
      rotate_left
      · intro w'
        go_simp
        with_reducible rfl
      rotate_left
      · simp only [Act.put, List.setIfInBounds_toArray, List.set_cons_zero, List.set_cons_succ]
        rfl
      refine pure_ (i := 5) (N := some 64) (v := ?_) (a' := ?_) #[true, true, false, true, false, true, false, false, false, false, false, false] rfl rfl (by kernel_rfl) (fun _ _ _ h => h) (Or.inl ⟨by rfl, ?_⟩) ?_ ?_
      rotate_left
      · intro w'
        go_simp
        with_reducible rfl
      rotate_left
      · simp only [Act.put, List.setIfInBounds_toArray, List.set_cons_zero, List.set_cons_succ]
        rfl
      refine take_ (i := 6) (N := some 65) (v := ?_) (a' := ?_) #[true, true, false, true, false, true, true, false, false, false, false, false] rfl rfl (by kernel_rfl) (fun _ _ _ h => h) (Or.inl ⟨by rfl, ?_⟩) hHeld ?_ ?_
      rotate_left
      · rintro w' ⟨s0, s1⟩
        go_simp
        with_reducible rfl
      rotate_left
      · simp only [Act.put, List.setIfInBounds_toArray, List.set_cons_zero, List.set_cons_succ]
        rfl
      refine pure_ (i := 8) (N := some 67) (v := ?_) (a' := ?_) #[true, true, false, true, false, true, true, false, true, false, false, false] rfl rfl (by kernel_rfl) (fun _ _ _ h => h) (Or.inl ⟨by rfl, ?_⟩) ?_ ?_
      rotate_left
      · intro w'
        go_simp
        with_reducible rfl
      rotate_left
      · simp only [Act.put, List.setIfInBounds_toArray, List.set_cons_zero, List.set_cons_succ]
        rfl
      refine two_ (i := 2) (j := 7) (Ni := some 61) (Nj := some 66) #[true, true, true, true, false, true, true, false, true, false, false, false] #[true, true, false, true, false, true, true, true, true, false, false, false] rfl rfl rfl rfl (by kernel_rfl) (by decide) (by decide) (fun K hK => ?_) (fun K hK => ?_)
      · skip
        refine goes_ Tryd.func42 (by kernel_rfl) rfl #[.int .i64 ver] (by rfl) rfl rfl (by simp only [List.map_toArray, List.map_cons, List.map_nil]; rfl) ?_
        refine (specInt32_any ver (by omega) (by omega) w3.drew).mono ?_
        rintro e wh ⟨vh, rfl, hoh, hbh⟩
        have Fh := below_step F0 hbh
        obtain ⟨Ah, ch, rfl, hch, hCh⟩ := Kd.R_reads hoh
        refine ⟨_, rfl, ?_⟩
        refine hK.out _ _ (SM _ Fh) (fun hHeld => ?_)
        clear hK K
        refine norm_ (a' := ?_) ?_ ?_
        rotate_left
        · show Act.put _ (some 61) _ = _
          simp only [Act.put, List.setIfInBounds_toArray, List.set_cons_zero, List.set_cons_succ]
          rfl
        refine two_ (i := 4) (j := 7) (Ni := some 63) (Nj := some 66) #[true, true, true, true, true, true, true, false, true, false, false, false] #[true, true, true, true, false, true, true, true, true, false, false, false] rfl rfl rfl rfl (by kernel_rfl) (by decide) (by decide) (fun K hK => ?_) (fun K hK => ?_)
        · skip
          refine goes_ Tryd.func23 (by kernel_rfl) rfl #[.int .i64 2, .slice Ah (mInt32 ver).length ch, .int .i64 wide] (by rfl) rfl rfl (by simp only [List.map_toArray, List.map_cons, List.map_nil]; rfl) ?_
          refine (specSealedB_any 2 Ah ch (mInt32 ver) wide (by omega) hch (by omega) wh hCh).mono ?_
          rintro e wi ⟨vi, rfl, hoi, hbi⟩
          rw [← Z1.out] at hoi
          have Fi := below_step Fh hbi
          obtain ⟨Ax, cx, rfl, hcx, -⟩ := Kd.R_reads hoi
          have hoi3 : OwnB wi w3.heap.size (.slice Ax z1.length cx) z1 := Kd.R_lower hoi Fh.size
          refine ⟨_, rfl, ?_⟩
          refine hK.out _ _ (SM _ Fi) (fun hHeld => ?_)
          clear hK K
          refine norm_ (a' := ?_) ?_ ?_
          rotate_left
          · show Act.put _ (some 63) _ = _
            simp only [Act.put, List.setIfInBounds_toArray, List.set_cons_zero, List.set_cons_succ]
            rfl
          refine one_ (i := 7) (N := some 66) #[true, true, true, true, true, true, true, true, true, false, false, false] rfl rfl (by kernel_rfl) (by decide) (fun K hK => ?_)
          obtain ⟨wv, hwv⟩ : ∃ wv, wv = Lib.bytesWorld wi 5 com := ⟨_, rfl⟩
          have hN := bytesWorld_new wi com hz
          have hr := hcv wi
          rw [← hwv] at hN hr
          obtain ⟨A4, c4, e4, hc4, hC4⟩ := ReadB.reads hN.1
          have hbv := hN.2
          have Fv := below_step Fi hbv
          clear hN hr
          refine value_ (v := .slice A4 (bs com).length c4) (w1 := wv) (by rfl) rfl (by first | (go_simp; done) | (go_simp; obtain ⟨a1, a2, a3⟩ := Value.slice.inj e4; first | exact ⟨⟨a1, a2, a3⟩, hwv.symm⟩ | exact ⟨a1, a2, a3⟩ | exact ⟨a1, a3⟩ | exact ⟨a1, a3, hwv.symm⟩ | (trace_state; fail))) ?_
          clear e4 hwv
          replace hoi3 := hoi3.below hbv
          refine hK.out _ _ (SM _ Fv) (fun hHeld => ?_)
          clear hK K
          refine norm_ (a' := ?_) ?_ ?_
          rotate_left
          · show Act.put _ (some 66) _ = _
            simp only [Act.put, List.setIfInBounds_toArray, List.set_cons_zero, List.set_cons_succ]
            rfl
          refine one_ (i := 9) (N := some 68) #[true, true, true, true, true, true, true, true, true, true, false, false] rfl rfl (by kernel_rfl) (by decide) (fun K hK => ?_)
          refine goes_ Tryd.func23 (by kernel_rfl) rfl #[.int .i64 4, .slice A4 (bs com).length c4, .int .i64 wide] (by rfl) rfl rfl (by simp only [List.map_toArray, List.map_cons, List.map_nil]; rfl) ?_
          refine (specSealedB_any 4 A4 c4 (bs com) wide (by omega) hc4 (by rw [HBC.out]; omega) wv hC4).mono ?_
          rintro e wk ⟨vk, rfl, hok, hbk⟩
          rw [← Z4.out] at hok
          have Fk := below_step Fv hbk
          obtain ⟨Ad, cd, rfl, hcd, hCd⟩ := Kd.R_reads hok
          refine ⟨_, rfl, ?_⟩
          replace hoi3 := hoi3.below hbk
          refine hK.out _ _ (SM _ Fk) (fun hHeld => ?_)
          clear hK K
          refine norm_ (a' := ?_) ?_ ?_
          rotate_left
          · show Act.put _ (some 68) _ = _
            simp only [Act.put, List.setIfInBounds_toArray, List.set_cons_zero, List.set_cons_succ]
            rfl
          refine one_ (i := 10) (N := some 69) #[true, true, true, true, true, true, true, true, true, true, true, false] rfl rfl (by kernel_rfl) (by decide) (fun K hK => ?_)
          refine app_bytes_step (W := wk) (by rfl) (.tmp 63) (.tmp 68) 26 rfl Tryd.underlying26 infoB w3.heap.size _ z1 z4 Ad z4.length cd (by rfl) (by rfl) hoi3 hCd Fk.size (by omega) ?_
          intro v6 w6 ho6 hg6 hat6
          have F6 := Fk.grown hg6 (by have := Fk.size; omega) (fun k hk => by have := OwnB.block hoi3 k hk; omega)
          obtain ⟨y5, hy5⟩ : ∃ l, l = z1 ++ z4 := ⟨_, rfl⟩
          rw [← hy5] at ho6
          have hly5 : y5.length ≤ z1.length + z4.length := by rw [hy5]; simp
          obtain ⟨Ay5, cy5, rfl, hcy5, -⟩ := Kd.R_reads ho6
          have Ey5 := Lib.hid hy5
          clear hy5
          refine hK.out _ _ (SM _ F6) (fun hHeld => ?_)
          clear hK K
          refine norm_ (a' := ?_) ?_ ?_
          rotate_left
          · show Act.put _ (some 69) _ = _
            simp only [Act.put, List.setIfInBounds_toArray, List.set_cons_zero, List.set_cons_succ]
            rfl
          refine pure_ (i := 11) (N := some 13) (v := ?_) (a' := ?_) #[true, true, true, true, true, true, true, true, true, true, true, true] rfl rfl (by kernel_rfl) (fun _ _ _ h => h) (Or.inl ⟨by rfl, ?_⟩) ?_ ?_
          rotate_left
          · intro w'
            go_simp
            with_reducible rfl
          rotate_left
          · simp only [Act.put, List.setIfInBounds_toArray, List.set_cons_zero, List.set_cons_succ]
            rfl
          refine done_ (by kernel_rfl) ?_
          have HF2 := Lib.hid (below_step HF.out F6)
          have Oy5 := Lib.hid (Oy4.out.below F6)
          obtain ⟨A', c', e', -, hC6⟩ := Kd.R_reads Oy5.out
          obtain ⟨rfl, -, rfl⟩ : Ay4 = A' ∧ True ∧ cy4 = c' := by injection e' with a b c; exact ⟨a, trivial, c⟩
          have Oz5 := Lib.hid (show OwnB w6 wr.heap.size (.slice Ay5 y5.length cy5) y5 from Kd.R_lower ho6 hwr3)
          have hs6 := HF2.out.size
          clear HF hHeld hoi3 ho6 hg6 hat6 e' Oy5
          have HF := HF2
          clear HF2
          have hpm := HM _ HF.out
          obtain ⟨p0, p1, p2, p3, p4, p5, p6, p7, p8, p9, p10, p11⟩ := msg_cells hpm
          clear hpm
          go_wp2_with fail
          refine (specSealedB_any kind Ay4 cy4 (y4) wide (by omega) hcy4 (by omega) _ hC6).mono ?_
          rintro e wj ⟨v, rfl, ho, hb⟩
          obtain ⟨Ax5, cx5, rfl, hcx5, -⟩ := Kd.R_reads ho
          have hlx5 := sealed_len kind (y4) wide
          generalize hx5 : sSealed kind (y4) wide = x5 at *
          have Ex5 := Lib.hid hx5
          have Ox5 := Lib.hid ho
          clear hx5 ho
          have Oz52 := Lib.hid (Oz5.out.below hb)
          clear Oz5
          have Oz5 := Oz52
          clear Oz52
          have HF2 := Lib.hid (below_step HF.out hb)
          clear HF
          have HF := HF2
          clear HF2
          have hs_wj := HF.out.size
          clear hb
          obtain ⟨Ax, cx, ex, hcx, hCx⟩ := Kd.R_reads Ox5.out
          obtain ⟨rfl, -, rfl⟩ : Ax5 = Ax ∧ True ∧ cx5 = cx := by injection ex with a b c; exact ⟨a, trivial, c⟩
          have hbw := HF.out.size
          have hsz := HF.out.size
          go_wp2_with (at_builtin; go_loud (refine app_bytes rfl _ _ 26 rfl Tryd.underlying26 infoB wr.heap.size (.slice Ay5 y5.length cy5) y5 x5 Ax5 x5.length cx5 rfl rfl Oz5.out hCx hbw (by omega) ?_; intro v1' w7 ho5 hg5 hat5; refine Hid.out ?_))
          have hfr := HF.out.grown hg5 (by omega) (fun k hk => by have := OwnB.block Oz5.out k hk; omega)
          obtain ⟨y6, hy6⟩ : ∃ l, l = y5 ++ x5 := ⟨_, rfl⟩
          rw [← hy6] at ho5
          have hly6 : y6.length ≤ y5.length + x5.length := by rw [hy6]; simp
          obtain ⟨Ay6, cy6, rfl, hcy6, -⟩ := Kd.R_reads ho5
          have Ey6 := Lib.hid hy6
          have Oy6 := Lib.hid ho5
          clear HF
          have HF := Lib.hid hfr
          try clear ex
          clear hfr ho5 hg5 hat5 hCx hcx hy6 Oz5 Ox5
          refine Lib.hid ?_
          have hs7 := HF.out.size
          obtain ⟨A', c', e', -, hC7⟩ := Kd.R_reads Oy6.out
          obtain ⟨rfl, -, rfl⟩ : Ay6 = A' ∧ True ∧ cy6 = c' := by injection e' with a b c; exact ⟨a, trivial, c⟩
          clear e' 
          go_wp2_with fail
          refine (specSealedB_any 48 Ay6 cy6 (y6) wide (by omega) hcy6 (by omega) _ hC7).mono ?_
          rintro e wz ⟨v, rfl, ho, hb⟩
          obtain ⟨Ax6, cx6, rfl, hcx6, -⟩ := Kd.R_reads ho
          have hlx6 := sealed_len 48 (y6) wide
          generalize hx6 : sSealed 48 (y6) wide = x6 at *
          have Ex6 := Lib.hid hx6
          have Ox6 := Lib.hid ho
          clear hx6 ho
          have HF2 := Lib.hid (below_step HF.out hb)
          clear HF
          have HF := HF2
          clear HF2
          have hs_wz := HF.out.size
          clear hb
          clear p0 p1 p2 p3 p4 p5 p6 p7 p8 p9 p10 p11
          go_wp2
          go_ret
          have hB : x1 ++ (x2 ++ (x3 ++ x4)) = y4 := by rw [Ey4.out, Ey3.out, Ey2.out, List.append_assoc, List.append_assoc]
          have hG : gMsg ver (bs com) kind id st ix bb wide = x6 := by
            unfold gMsg gBody
            rw [Ex1.out, Ex2.out, Ex3.out, Ex4.out, hB, Ex5.out, ← Z1.out, ← Z4.out, ← Ex6.out, Ey6.out, Ey5.out, List.append_assoc]
          rw [← HL.out.1, hG]
          exact ⟨_, rfl, Kd.R_lower Ox6.out (by omega), below_step HL.out.2.2.1 HF.out⟩
        · skip
          obtain ⟨wv, hwv⟩ : ∃ wv, wv = Lib.bytesWorld wh 5 com := ⟨_, rfl⟩
          have hN := bytesWorld_new wh com hz
          have hr := hcv wh
          rw [← hwv] at hN hr
          obtain ⟨A4, c4, e4, hc4, hC4⟩ := ReadB.reads hN.1
          have hbv := hN.2
          have Fv := below_step Fh hbv
          clear hN hr
          refine value_ (v := .slice A4 (bs com).length c4) (w1 := wv) (by rfl) rfl (by first | (go_simp; done) | (go_simp; obtain ⟨a1, a2, a3⟩ := Value.slice.inj e4; first | exact ⟨⟨a1, a2, a3⟩, hwv.symm⟩ | exact ⟨a1, a2, a3⟩ | exact ⟨a1, a3⟩ | exact ⟨a1, a3, hwv.symm⟩ | (trace_state; fail))) ?_
          clear e4 hwv
          replace hCh := Kd.C_below hCh hbv
          refine hK.out _ _ (SM _ Fv) (fun hHeld => ?_)
          clear hK K
          refine norm_ (a' := ?_) ?_ ?_
          rotate_left
          · show Act.put _ (some 66) _ = _
            simp only [Act.put, List.setIfInBounds_toArray, List.set_cons_zero, List.set_cons_succ]
            rfl
          refine one_ (i := 4) (N := some 63) #[true, true, true, true, true, true, true, true, true, false, false, false] rfl rfl (by kernel_rfl) (by decide) (fun K hK => ?_)
          refine goes_ Tryd.func23 (by kernel_rfl) rfl #[.int .i64 2, .slice Ah (mInt32 ver).length ch, .int .i64 wide] (by rfl) rfl rfl (by simp only [List.map_toArray, List.map_cons, List.map_nil]; rfl) ?_
          refine (specSealedB_any 2 Ah ch (mInt32 ver) wide (by omega) hch (by omega) wv hCh).mono ?_
          rintro e wi ⟨vi, rfl, hoi, hbi⟩
          rw [← Z1.out] at hoi
          have Fi := below_step Fv hbi
          obtain ⟨Ax, cx, rfl, hcx, -⟩ := Kd.R_reads hoi
          have hoi3 : OwnB wi w3.heap.size (.slice Ax z1.length cx) z1 := Kd.R_lower hoi Fv.size
          refine ⟨_, rfl, ?_⟩
          replace hC4 := Kd.C_below hC4 hbi
          refine hK.out _ _ (SM _ Fi) (fun hHeld => ?_)
          clear hK K
          refine norm_ (a' := ?_) ?_ ?_
          rotate_left
          · show Act.put _ (some 63) _ = _
            simp only [Act.put, List.setIfInBounds_toArray, List.set_cons_zero, List.set_cons_succ]
            rfl
          refine one_ (i := 9) (N := some 68) #[true, true, true, true, true, true, true, true, true, true, false, false] rfl rfl (by kernel_rfl) (by decide) (fun K hK => ?_)
          refine goes_ Tryd.func23 (by kernel_rfl) rfl #[.int .i64 4, .slice A4 (bs com).length c4, .int .i64 wide] (by rfl) rfl rfl (by simp only [List.map_toArray, List.map_cons, List.map_nil]; rfl) ?_
          refine (specSealedB_any 4 A4 c4 (bs com) wide (by omega) hc4 (by rw [HBC.out]; omega) wi hC4).mono ?_
          rintro e wk ⟨vk, rfl, hok, hbk⟩
          rw [← Z4.out] at hok
          have Fk := below_step Fi hbk
          obtain ⟨Ad, cd, rfl, hcd, hCd⟩ := Kd.R_reads hok
          refine ⟨_, rfl, ?_⟩
          replace hoi3 := hoi3.below hbk
          refine hK.out _ _ (SM _ Fk) (fun hHeld => ?_)
          clear hK K
          refine norm_ (a' := ?_) ?_ ?_
          rotate_left
          · show Act.put _ (some 68) _ = _
            simp only [Act.put, List.setIfInBounds_toArray, List.set_cons_zero, List.set_cons_succ]
            rfl
          refine one_ (i := 10) (N := some 69) #[true, true, true, true, true, true, true, true, true, true, true, false] rfl rfl (by kernel_rfl) (by decide) (fun K hK => ?_)
          refine app_bytes_step (W := wk) (by rfl) (.tmp 63) (.tmp 68) 26 rfl Tryd.underlying26 infoB w3.heap.size _ z1 z4 Ad z4.length cd (by rfl) (by rfl) hoi3 hCd Fk.size (by omega) ?_
          intro v6 w6 ho6 hg6 hat6
          have F6 := Fk.grown hg6 (by have := Fk.size; omega) (fun k hk => by have := OwnB.block hoi3 k hk; omega)
          obtain ⟨y5, hy5⟩ : ∃ l, l = z1 ++ z4 := ⟨_, rfl⟩
          rw [← hy5] at ho6
          have hly5 : y5.length ≤ z1.length + z4.length := by rw [hy5]; simp
          obtain ⟨Ay5, cy5, rfl, hcy5, -⟩ := Kd.R_reads ho6
          have Ey5 := Lib.hid hy5
          clear hy5
          refine hK.out _ _ (SM _ F6) (fun hHeld => ?_)
          clear hK K
          refine norm_ (a' := ?_) ?_ ?_
          rotate_left
          · show Act.put _ (some 69) _ = _
            simp only [Act.put, List.setIfInBounds_toArray, List.set_cons_zero, List.set_cons_succ]
            rfl
          refine pure_ (i := 11) (N := some 13) (v := ?_) (a' := ?_) #[true, true, true, true, true, true, true, true, true, true, true, true] rfl rfl (by kernel_rfl) (fun _ _ _ h => h) (Or.inl ⟨by rfl, ?_⟩) ?_ ?_
          rotate_left
          · intro w'
            go_simp
            with_reducible rfl
          rotate_left
          · simp only [Act.put, List.setIfInBounds_toArray, List.set_cons_zero, List.set_cons_succ]
            rfl
          refine done_ (by kernel_rfl) ?_
          have HF2 := Lib.hid (below_step HF.out F6)
          have Oy5 := Lib.hid (Oy4.out.below F6)
          obtain ⟨A', c', e', -, hC6⟩ := Kd.R_reads Oy5.out
          obtain ⟨rfl, -, rfl⟩ : Ay4 = A' ∧ True ∧ cy4 = c' := by injection e' with a b c; exact ⟨a, trivial, c⟩
          have Oz5 := Lib.hid (show OwnB w6 wr.heap.size (.slice Ay5 y5.length cy5) y5 from Kd.R_lower ho6 hwr3)
          have hs6 := HF2.out.size
          clear HF hHeld hoi3 ho6 hg6 hat6 e' Oy5
          have HF := HF2
          clear HF2
          have hpm := HM _ HF.out
          obtain ⟨p0, p1, p2, p3, p4, p5, p6, p7, p8, p9, p10, p11⟩ := msg_cells hpm
          clear hpm
          go_wp2_with fail
          refine (specSealedB_any kind Ay4 cy4 (y4) wide (by omega) hcy4 (by omega) _ hC6).mono ?_
          rintro e wj ⟨v, rfl, ho, hb⟩
          obtain ⟨Ax5, cx5, rfl, hcx5, -⟩ := Kd.R_reads ho
          have hlx5 := sealed_len kind (y4) wide
          generalize hx5 : sSealed kind (y4) wide = x5 at *
          have Ex5 := Lib.hid hx5
          have Ox5 := Lib.hid ho
          clear hx5 ho
          have Oz52 := Lib.hid (Oz5.out.below hb)
          clear Oz5
          have Oz5 := Oz52
          clear Oz52
          have HF2 := Lib.hid (below_step HF.out hb)
          clear HF
          have HF := HF2
          clear HF2
          have hs_wj := HF.out.size
          clear hb
          obtain ⟨Ax, cx, ex, hcx, hCx⟩ := Kd.R_reads Ox5.out
          obtain ⟨rfl, -, rfl⟩ : Ax5 = Ax ∧ True ∧ cx5 = cx := by injection ex with a b c; exact ⟨a, trivial, c⟩
          have hbw := HF.out.size
          have hsz := HF.out.size
          go_wp2_with (at_builtin; go_loud (refine app_bytes rfl _ _ 26 rfl Tryd.underlying26 infoB wr.heap.size (.slice Ay5 y5.length cy5) y5 x5 Ax5 x5.length cx5 rfl rfl Oz5.out hCx hbw (by omega) ?_; intro v1' w7 ho5 hg5 hat5; refine Hid.out ?_))
          have hfr := HF.out.grown hg5 (by omega) (fun k hk => by have := OwnB.block Oz5.out k hk; omega)
          obtain ⟨y6, hy6⟩ : ∃ l, l = y5 ++ x5 := ⟨_, rfl⟩
          rw [← hy6] at ho5
          have hly6 : y6.length ≤ y5.length + x5.length := by rw [hy6]; simp
          obtain ⟨Ay6, cy6, rfl, hcy6, -⟩ := Kd.R_reads ho5
          have Ey6 := Lib.hid hy6
          have Oy6 := Lib.hid ho5
          clear HF
          have HF := Lib.hid hfr
          try clear ex
          clear hfr ho5 hg5 hat5 hCx hcx hy6 Oz5 Ox5
          refine Lib.hid ?_
          have hs7 := HF.out.size
          obtain ⟨A', c', e', -, hC7⟩ := Kd.R_reads Oy6.out
          obtain ⟨rfl, -, rfl⟩ : Ay6 = A' ∧ True ∧ cy6 = c' := by injection e' with a b c; exact ⟨a, trivial, c⟩
          clear e' 
          go_wp2_with fail
          refine (specSealedB_any 48 Ay6 cy6 (y6) wide (by omega) hcy6 (by omega) _ hC7).mono ?_
          rintro e wz ⟨v, rfl, ho, hb⟩
          obtain ⟨Ax6, cx6, rfl, hcx6, -⟩ := Kd.R_reads ho
          have hlx6 := sealed_len 48 (y6) wide
          generalize hx6 : sSealed 48 (y6) wide = x6 at *
          have Ex6 := Lib.hid hx6
          have Ox6 := Lib.hid ho
          clear hx6 ho
          have HF2 := Lib.hid (below_step HF.out hb)
          clear HF
          have HF := HF2
          clear HF2
          have hs_wz := HF.out.size
          clear hb
          clear p0 p1 p2 p3 p4 p5 p6 p7 p8 p9 p10 p11
          go_wp2
          go_ret
          have hB : x1 ++ (x2 ++ (x3 ++ x4)) = y4 := by rw [Ey4.out, Ey3.out, Ey2.out, List.append_assoc, List.append_assoc]
          have hG : gMsg ver (bs com) kind id st ix bb wide = x6 := by
            unfold gMsg gBody
            rw [Ex1.out, Ex2.out, Ex3.out, Ex4.out, hB, Ex5.out, ← Z1.out, ← Z4.out, ← Ex6.out, Ey6.out, Ey5.out, List.append_assoc]
          rw [← HL.out.1, hG]
          exact ⟨_, rfl, Kd.R_lower Ox6.out (by omega), below_step HL.out.2.2.1 HF.out⟩
      · skip
        obtain ⟨wv, hwv⟩ : ∃ wv, wv = Lib.bytesWorld w3.drew 5 com := ⟨_, rfl⟩
        have hN := bytesWorld_new w3.drew com hz
        have hr := hcv w3.drew
        rw [← hwv] at hN hr
        obtain ⟨A4, c4, e4, hc4, hC4⟩ := ReadB.reads hN.1
        have hbv := hN.2
        have Fv := below_step F0 hbv
        clear hN hr
        refine value_ (v := .slice A4 (bs com).length c4) (w1 := wv) (by rfl) rfl (by first | (go_simp; done) | (go_simp; obtain ⟨a1, a2, a3⟩ := Value.slice.inj e4; first | exact ⟨⟨a1, a2, a3⟩, hwv.symm⟩ | exact ⟨a1, a2, a3⟩ | exact ⟨a1, a3⟩ | exact ⟨a1, a3, hwv.symm⟩ | (trace_state; fail))) ?_
        clear e4 hwv
        refine hK.out _ _ (SM _ Fv) (fun hHeld => ?_)
        clear hK K
        refine norm_ (a' := ?_) ?_ ?_
        rotate_left
        · show Act.put _ (some 66) _ = _
          simp only [Act.put, List.setIfInBounds_toArray, List.set_cons_zero, List.set_cons_succ]
          rfl
        refine one_ (i := 2) (N := some 61) #[true, true, true, true, false, true, true, true, true, false, false, false] rfl rfl (by kernel_rfl) (by decide) (fun K hK => ?_)
        refine goes_ Tryd.func42 (by kernel_rfl) rfl #[.int .i64 ver] (by rfl) rfl rfl (by simp only [List.map_toArray, List.map_cons, List.map_nil]; rfl) ?_
        refine (specInt32_any ver (by omega) (by omega) wv).mono ?_
        rintro e wh ⟨vh, rfl, hoh, hbh⟩
        have Fh := below_step Fv hbh
        obtain ⟨Ah, ch, rfl, hch, hCh⟩ := Kd.R_reads hoh
        refine ⟨_, rfl, ?_⟩
        replace hC4 := Kd.C_below hC4 hbh
        refine hK.out _ _ (SM _ Fh) (fun hHeld => ?_)
        clear hK K
        refine norm_ (a' := ?_) ?_ ?_
        rotate_left
        · show Act.put _ (some 61) _ = _
          simp only [Act.put, List.setIfInBounds_toArray, List.set_cons_zero, List.set_cons_succ]
          rfl
        refine one_ (i := 4) (N := some 63) #[true, true, true, true, true, true, true, true, true, false, false, false] rfl rfl (by kernel_rfl) (by decide) (fun K hK => ?_)
        refine goes_ Tryd.func23 (by kernel_rfl) rfl #[.int .i64 2, .slice Ah (mInt32 ver).length ch, .int .i64 wide] (by rfl) rfl rfl (by simp only [List.map_toArray, List.map_cons, List.map_nil]; rfl) ?_
        refine (specSealedB_any 2 Ah ch (mInt32 ver) wide (by omega) hch (by omega) wh hCh).mono ?_
        rintro e wi ⟨vi, rfl, hoi, hbi⟩
        rw [← Z1.out] at hoi
        have Fi := below_step Fh hbi
        obtain ⟨Ax, cx, rfl, hcx, -⟩ := Kd.R_reads hoi
        have hoi3 : OwnB wi w3.heap.size (.slice Ax z1.length cx) z1 := Kd.R_lower hoi Fh.size
        refine ⟨_, rfl, ?_⟩
        replace hC4 := Kd.C_below hC4 hbi
        refine hK.out _ _ (SM _ Fi) (fun hHeld => ?_)
        clear hK K
        refine norm_ (a' := ?_) ?_ ?_
        rotate_left
        · show Act.put _ (some 63) _ = _
          simp only [Act.put, List.setIfInBounds_toArray, List.set_cons_zero, List.set_cons_succ]
          rfl
        refine one_ (i := 9) (N := some 68) #[true, true, true, true, true, true, true, true, true, true, false, false] rfl rfl (by kernel_rfl) (by decide) (fun K hK => ?_)
        refine goes_ Tryd.func23 (by kernel_rfl) rfl #[.int .i64 4, .slice A4 (bs com).length c4, .int .i64 wide] (by rfl) rfl rfl (by simp only [List.map_toArray, List.map_cons, List.map_nil]; rfl) ?_
        refine (specSealedB_any 4 A4 c4 (bs com) wide (by omega) hc4 (by rw [HBC.out]; omega) wi hC4).mono ?_
        rintro e wk ⟨vk, rfl, hok, hbk⟩
        rw [← Z4.out] at hok
        have Fk := below_step Fi hbk
        obtain ⟨Ad, cd, rfl, hcd, hCd⟩ := Kd.R_reads hok
        refine ⟨_, rfl, ?_⟩
        replace hoi3 := hoi3.below hbk
        refine hK.out _ _ (SM _ Fk) (fun hHeld => ?_)
        clear hK K
        refine norm_ (a' := ?_) ?_ ?_
        rotate_left
        · show Act.put _ (some 68) _ = _
          simp only [Act.put, List.setIfInBounds_toArray, List.set_cons_zero, List.set_cons_succ]
          rfl
        refine one_ (i := 10) (N := some 69) #[true, true, true, true, true, true, true, true, true, true, true, false] rfl rfl (by kernel_rfl) (by decide) (fun K hK => ?_)
        refine app_bytes_step (W := wk) (by rfl) (.tmp 63) (.tmp 68) 26 rfl Tryd.underlying26 infoB w3.heap.size _ z1 z4 Ad z4.length cd (by rfl) (by rfl) hoi3 hCd Fk.size (by omega) ?_
        intro v6 w6 ho6 hg6 hat6
        have F6 := Fk.grown hg6 (by have := Fk.size; omega) (fun k hk => by have := OwnB.block hoi3 k hk; omega)
        obtain ⟨y5, hy5⟩ : ∃ l, l = z1 ++ z4 := ⟨_, rfl⟩
        rw [← hy5] at ho6
        have hly5 : y5.length ≤ z1.length + z4.length := by rw [hy5]; simp
        obtain ⟨Ay5, cy5, rfl, hcy5, -⟩ := Kd.R_reads ho6
        have Ey5 := Lib.hid hy5
        clear hy5
        refine hK.out _ _ (SM _ F6) (fun hHeld => ?_)
        clear hK K
        refine norm_ (a' := ?_) ?_ ?_
        rotate_left
        · show Act.put _ (some 69) _ = _
          simp only [Act.put, List.setIfInBounds_toArray, List.set_cons_zero, List.set_cons_succ]
          rfl
        refine pure_ (i := 11) (N := some 13) (v := ?_) (a' := ?_) #[true, true, true, true, true, true, true, true, true, true, true, true] rfl rfl (by kernel_rfl) (fun _ _ _ h => h) (Or.inl ⟨by rfl, ?_⟩) ?_ ?_
        rotate_left
        · intro w'
          go_simp
          with_reducible rfl
        rotate_left
        · simp only [Act.put, List.setIfInBounds_toArray, List.set_cons_zero, List.set_cons_succ]
          rfl
        refine done_ (by kernel_rfl) ?_
        have HF2 := Lib.hid (below_step HF.out F6)
        have Oy5 := Lib.hid (Oy4.out.below F6)
        obtain ⟨A', c', e', -, hC6⟩ := Kd.R_reads Oy5.out
        obtain ⟨rfl, -, rfl⟩ : Ay4 = A' ∧ True ∧ cy4 = c' := by injection e' with a b c; exact ⟨a, trivial, c⟩
        have Oz5 := Lib.hid (show OwnB w6 wr.heap.size (.slice Ay5 y5.length cy5) y5 from Kd.R_lower ho6 hwr3)
        have hs6 := HF2.out.size
        clear HF hHeld hoi3 ho6 hg6 hat6 e' Oy5
        have HF := HF2
        clear HF2
        have hpm := HM _ HF.out
        obtain ⟨p0, p1, p2, p3, p4, p5, p6, p7, p8, p9, p10, p11⟩ := msg_cells hpm
        clear hpm
        go_wp2_with fail
        refine (specSealedB_any kind Ay4 cy4 (y4) wide (by omega) hcy4 (by omega) _ hC6).mono ?_
        rintro e wj ⟨v, rfl, ho, hb⟩
        obtain ⟨Ax5, cx5, rfl, hcx5, -⟩ := Kd.R_reads ho
        have hlx5 := sealed_len kind (y4) wide
        generalize hx5 : sSealed kind (y4) wide = x5 at *
        have Ex5 := Lib.hid hx5
        have Ox5 := Lib.hid ho
        clear hx5 ho
        have Oz52 := Lib.hid (Oz5.out.below hb)
        clear Oz5
        have Oz5 := Oz52
        clear Oz52
        have HF2 := Lib.hid (below_step HF.out hb)
        clear HF
        have HF := HF2
        clear HF2
        have hs_wj := HF.out.size
        clear hb
        obtain ⟨Ax, cx, ex, hcx, hCx⟩ := Kd.R_reads Ox5.out
        obtain ⟨rfl, -, rfl⟩ : Ax5 = Ax ∧ True ∧ cx5 = cx := by injection ex with a b c; exact ⟨a, trivial, c⟩
        have hbw := HF.out.size
        have hsz := HF.out.size
        go_wp2_with (at_builtin; go_loud (refine app_bytes rfl _ _ 26 rfl Tryd.underlying26 infoB wr.heap.size (.slice Ay5 y5.length cy5) y5 x5 Ax5 x5.length cx5 rfl rfl Oz5.out hCx hbw (by omega) ?_; intro v1' w7 ho5 hg5 hat5; refine Hid.out ?_))
        have hfr := HF.out.grown hg5 (by omega) (fun k hk => by have := OwnB.block Oz5.out k hk; omega)
        obtain ⟨y6, hy6⟩ : ∃ l, l = y5 ++ x5 := ⟨_, rfl⟩
        rw [← hy6] at ho5
        have hly6 : y6.length ≤ y5.length + x5.length := by rw [hy6]; simp
        obtain ⟨Ay6, cy6, rfl, hcy6, -⟩ := Kd.R_reads ho5
        have Ey6 := Lib.hid hy6
        have Oy6 := Lib.hid ho5
        clear HF
        have HF := Lib.hid hfr
        try clear ex
        clear hfr ho5 hg5 hat5 hCx hcx hy6 Oz5 Ox5
        refine Lib.hid ?_
        have hs7 := HF.out.size
        obtain ⟨A', c', e', -, hC7⟩ := Kd.R_reads Oy6.out
        obtain ⟨rfl, -, rfl⟩ : Ay6 = A' ∧ True ∧ cy6 = c' := by injection e' with a b c; exact ⟨a, trivial, c⟩
        clear e' 
        go_wp2_with fail
        refine (specSealedB_any 48 Ay6 cy6 (y6) wide (by omega) hcy6 (by omega) _ hC7).mono ?_
        rintro e wz ⟨v, rfl, ho, hb⟩
        obtain ⟨Ax6, cx6, rfl, hcx6, -⟩ := Kd.R_reads ho
        have hlx6 := sealed_len 48 (y6) wide
        generalize hx6 : sSealed 48 (y6) wide = x6 at *
        have Ex6 := Lib.hid hx6
        have Ox6 := Lib.hid ho
        clear hx6 ho
        have HF2 := Lib.hid (below_step HF.out hb)
        clear HF
        have HF := HF2
        clear HF2
        have hs_wz := HF.out.size
        clear hb
        clear p0 p1 p2 p3 p4 p5 p6 p7 p8 p9 p10 p11
        go_wp2
        go_ret
        have hB : x1 ++ (x2 ++ (x3 ++ x4)) = y4 := by rw [Ey4.out, Ey3.out, Ey2.out, List.append_assoc, List.append_assoc]
        have hG : gMsg ver (bs com) kind id st ix bb wide = x6 := by
          unfold gMsg gBody
          rw [Ex1.out, Ex2.out, Ex3.out, Ex4.out, hB, Ex5.out, ← Z1.out, ← Z4.out, ← Ex6.out, Ey6.out, Ey5.out, List.append_assoc]
        rw [← HL.out.1, hG]
        exact ⟨_, rfl, Kd.R_lower Ox6.out (by omega), below_step HL.out.2.2.1 HF.out⟩
end Go.Proofs.YtangjgclpipjdaaDoor
set_option linter.unusedVariables false
namespace Go.Proofs.YtangjgclpipjdaaDoor
open Go.RowKit Go.Proofs.YtangjgclpipjdaaDoorW.PrintWords Go.Proofs.YtangjgclpipjdaaDoorW.PrintLast Go.Proofs.YtangjgclpipjdaaDoorW.PrintMore
theorem open_none_short {y : List Int} (ho : sOpen y = none) (h2 : 2 ≤ y.length) (h : rd y 1 ≤ 127) : (y.length : Int) < rd y 1 + 2 := by
  have hp : pLen y = (rd y 1 + 2, 2) := if_pos h
  unfold sOpen at ho
  split at ho
  · simp at ho
  rename_i hok
  refine Classical.byContradiction fun hc => hok ⟨h2, by omega, by omega, fun h => by omega, by rw [hp]; simp only; omega⟩
theorem open_none_long {y : List Int} (hB : IsB y) (ho : sOpen y = none) (k : Nat) (hk : rd y 1 = 128 + k) (k1 : 1 ≤ k) (k4 : k ≤ 4) (h2 : 2 + k ≤ y.length) : ∃ n : Nat, beVal ((y.drop 2).take k) 0 = n ∧ y.length < n + 2 + k := by
  have hp : pLen y = (beVal ((y.drop 2).take (rd y 1 - 128).toNat) 0 + 2 + (rd y 1 - 128), 2 + (rd y 1 - 128)) := if_neg (by omega)
  rw [show (rd y 1 - 128) = (k : Int) by omega, Int.toNat_natCast] at hp
  have hb := (beVal_bound ((y.drop 2).take k) (isB_take (isB_drop hB 2) _) 0 (Int.le_refl 0)).1
  refine ⟨(beVal ((y.drop 2).take k) 0).toNat, (Int.toNat_of_nonneg hb).symm, ?_⟩
  unfold sOpen at ho
  split at ho
  · simp at ho
  rename_i hok
  refine Classical.byContradiction fun hc => hok ⟨by omega, by omega, by omega, fun h => by omega, by rw [hp]; simp only; omega⟩
set_option maxRecDepth 100000 in
set_option maxHeartbeats 8000000 in
theorem whole_no (d : Int) (d1 : 1 ≤ d) (d2 : d ≤ 100) (xs : List Int) (ho : sOpen xs = none) (h0 : xs.length ≠ 0) (A : Option Addr) (cc : Nat) (hcc : xs.length ≤ cc) (hB : IsB xs) (hx : xs.length ≤ 20000) (w : World) (hr : Kd.C (Kd.int .u8) w A xs.length xs) :
    Calls Tryd.prog 43 #[.slice A xs.length cc, .int .i64 d] w fun e w' => e = .returned (.bool false) ∧ Below w.heap.size w w' := by
  have hpos : 0 < (xs.length : Int) := by omega
  have hd0 : (d == 0) = false := beq_eq_false_iff_ne.2 (by omega)
  have HH := Lib.hid (And.intro hr (And.intro hB ho))
  clear hr hB ho
  go_enter Tryd.func43, Tryd.ntmps43
  go_wp2_with fail
  go_loopg [0] 0 (fun kk v0 wr => ∃ n : Nat, v0 = .slice A xs.length cc ∧ Hid (Below w.heap.size w wr))
  case atStart => exact ⟨0, rfl, Lib.hid (Below.refl _ _)⟩
  case round =>
    obtain ⟨-, rfl, HJ⟩ := hrel
    have hC := Kd.C_below HH.out.1 HJ.out
    by_cases h2 : xs.length < 2
    · clear hC
      go_wp2
      go_ret
      exact ⟨rfl, HJ.out⟩
    have hmax := Kd.C_max hC
    obtain ⟨ad, rfl, hx1⟩ := cell_at hC 1 (by omega)
    obtain ⟨ad0, e0, hx0⟩ := cell_at hC 0 (by omega)
    obtain rfl : ad = ad0 := by injection e0
    have hx1 : wr.cell? (ad.add 1) = some (.int .u8 (rd xs 1)) := hx1
    have hx0 : wr.cell? (ad.add 0) = some (.int .u8 (rd xs 0)) := hx0
    simp [Addr.add] at hx0 hx1
    have hb1 := HH.out.2.1.rd 1
    by_cases h127 : rd xs 1 ≤ 127
    · have hs := open_none_short HH.out.2.2 (by omega) h127
      obtain ⟨n, hn⟩ : ∃ n : Nat, rd xs 1 = n := ⟨(rd xs 1).toNat, by omega⟩
      rw [hn] at hx1 hs h127 hb1
      have hw : wrap64 ((xs.length : Int) - 2) = (xs.length : Int) - 2 := by unfold wrap64; omega
      clear hC e0
      go_wp2
      go_ret
      exact ⟨rfl, HJ.out⟩
    obtain ⟨k, hk⟩ : ∃ k : Nat, rd xs 1 = 128 + k := ⟨(rd xs 1 - 128).toNat, by omega⟩
    rw [hk] at hx1 h127 hb1
    have e1 : (128 : Int) + k - 128 = k := by omega
    by_cases k1 : k < 1
    · obtain rfl : k = 0 := by omega
      clear hC e0
      go_wp2
      go_ret
      exact ⟨rfl, HJ.out⟩
    by_cases k4 : 4 < k
    · clear hC e0
      go_wp2
      go_ret
      exact ⟨rfl, HJ.out⟩
    by_cases hl : xs.length < 2 + k
    · have hlI : (xs.length : Int) < 2 + k := by omega
      clear hC e0
      go_wp2
      go_ret
      exact ⟨rfl, HJ.out⟩
    obtain ⟨n, hbe, hnl⟩ := open_none_long HH.out.2.1 HH.out.2.2 k hk (by omega) (by omega) (by omega)
    have hCr := hC
    obtain ⟨Z1, Z2, hz1, -, kz, -⟩ := open_cuts (some ad) cc xs hcc 2 (2 + k) (by omega) (by omega) 2 (2 + k) rfl (by omega)
    have hyl2 : ((xs.take (2 + k)).drop 2).length = k := by simp; omega
    have hye : (xs.take (2 + k)).drop 2 = (xs.drop 2).take k := by rw [List.drop_take]; congr 1; omega
    rw [hyl2] at hz1
    rw [hye] at kz hyl2
    obtain ⟨ys, hys⟩ : ∃ ys, ys = (xs.drop 2).take k := ⟨_, rfl⟩
    rw [← hys] at hyl2 kz hbe
    have hyb : IsB ys := by rw [hys]; exact isB_take (isB_drop HH.out.2.1 2) k
    have hkC := kz.2 wr hCr
    rw [hyl2] at hkC
    have hw : ∀ m : Int, 0 ≤ m → m ≤ 255 → wrap64 ((xs.length : Int) - (2 + m)) = (xs.length : Int) - (2 + m) := fun m _ _ => by unfold wrap64; omega
    have hwk := hw k (by omega) (by omega)
    have hnI : (xs.length : Int) - (2 + k) < n := by omega
    have HY := Lib.hid (And.intro hkC hyb)
    have HBE := Lib.hid hbe
    clear hCr hC hk e0 kz hkC hyb hys hye hbe
    go_wp2_with fail
    go_loop [5, 9, 46] (fun v _ j => ∃ i : Nat, i ≤ k ∧ j = .int .i64 i ∧ v = .int .i64 (beVal (ys.take i) 0)) (fun _ _ j => k - (intOf j).toNat)
    case atStart => exact ⟨0, Nat.zero_le _, rfl, rfl⟩
    case round =>
      obtain ⟨i, hi, rfl, rfl⟩ := hrel
      by_cases hlt : i < k
      · have hkC := HY.out.1
        rw [← hyl2] at hkC
        obtain ⟨ad1, rfl, hcl⟩ := cell_at hkC i (by omega)
        have hst := beVal_takeO ys i (by omega)
        have hbd := beVal_bound (ys.take i) (isB_take HY.out.2 i) 0 (Int.le_refl 0)
        have hp := pow_le4O i (by omega)
        have hr2 := HY.out.2.rd i
        have hlen : (ys.take i).length = i := by simp; omega
        rw [hlen] at hbd
        have HS := Lib.hid hst
        have b0 := hbd.1
        have b1 : beVal (ys.take i) 0 < 281474976710656 := by omega
        have r0 := hr2.1
        have r1 := hr2.2
        clear hst hbd hp hlen hr2 hkC
        generalize beVal (ys.take i) 0 = v at *
        generalize rd ys i = x at *
        have hor := i64_join8 v x b0 b1 r0 r1
        go_wp2
        go_round
        case rel => exact ⟨i + 1, by omega, by go_num, by rw [HS.out]⟩
        case measure => simp [intOf]; omega
      · obtain rfl : i = k := by omega
        rw [List.take_of_length_le (by omega), HBE.out]
        go_wp2
        go_ret
        exact ⟨rfl, HJ.out⟩
end Go.Proofs.YtangjgclpipjdaaDoor
