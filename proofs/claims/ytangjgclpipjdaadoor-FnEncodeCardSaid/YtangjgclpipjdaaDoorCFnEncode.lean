/-
FnEncode: the bytes that impl.Encode makes of a message are read by the reference's OfMessage as this message; for versions 1 and 2c, communities of at most 127 bytes, the kinds 160 to 163 and 165 to 168, request ids below 2 to the power of 31, statuses and indices from 0 to 127, and at most 20 variables of the types that FnValue speaks of.
-/
import Derived.Test.YtangjgclpipjdaaDoorRows
import Derived.Test.YtangjgclpipjdaaDoorTie
import Derived.Test.YtangjgclpipjdaaDoorCards
import Derived.ProofKit
import Derived.OpenShut
import Derived.LaidMore
import Derived.LaidSub
import Derived.Lay
import Derived.Lib.LaidTab
import Derived.OpenVars
import Derived.ChangeVars
import Derived.Stop.Joined
import Derived.SevenTiedAt
import Derived.Test.YtangjgclpipjdaaDoorQE4
import Derived.Test.YtangjgclpipjdaaDoorQE10
set_option linter.unusedVariables false
namespace Go.Proofs.YtangjgclpipjdaaDoor.fnEncode
open Go.ChangeShapes Go.WideShapes Go.ChangeAt Go.RowKit Go.Proofs.YtangjgclpipjdaaDoorW.PrintWords Go.Proofs.YtangjgclpipjdaaDoorW.PrintLast Go.Proofs.YtangjgclpipjdaaDoorW.PrintMore

theorem own : ownKnob Tryd.prog.godebug = none := by kernel_rfl
theorem laidOut : laidOutB Tryd.prog = true := by kernel_rfl
abbrev laidU : List (String × DataW Unit) := [("io.ErrShortWrite", Rows.laid_io_ErrShortWrite), ("bytes.ErrTooLarge", Rows.laid_bytes_ErrTooLarge), ("net/netip.z4", Rows.laid_net_netip_z4), ("net/netip.z6noz", Rows.laid_net_netip_z6noz), ("net/netip.z0", Rows.laid_net_netip_z0)]
set_option maxRecDepth 100000 in
theorem z4_of {W : World} (h : laidMetH Tryd.prog laidU W) : ∃ z, W.cell? ⟨13, 0, none⟩ = some (.pointer (some z)) ∧ (∃ b, W.cell? z = some (.bool b)) ∧ W.cell? (z.add 1) = some (.string ⟨#[]⟩) := by
  have h2 := laidMetH.filter (fun x => x.1 == "net/netip.z4") h
  have e : laidU.filter (fun x => x.1 == "net/netip.z4") = [("net/netip.z4", Rows.laid_net_netip_z4)] := by rfl
  rw [e] at h2
  obtain ⟨ps, ⟨g', t', cs, fuel, p, q, hg', ht', hvar, hd, _, _⟩, _⟩ := h2
  obtain rfl := Option.some.inj ((show Tryd.prog.globalNamed "net/netip.z4" = some 13 by kernel_rfl).symm.trans hg')
  obtain rfl := Option.some.inj ((show (Tryd.prog.globals[13]?).map (·.type) = some 156 by kernel_rfl).symm.trans ht')
  obtain ⟨y0, n, hx, hl, hf⟩ := trod_struct1 Tryd.underlying156 hd
  have hc1 : Tryd.prog.cellsOf 154 = 1 := by kernel_rfl
  have hcl : cs.toList.length = 1 := hl.trans (by kernel_rfl)
  change DataW.trod _ _ W 0 _ false n 154 (List.take (Tryd.prog.cellsOf 154) cs.toList) = _ at hf
  rw [hc1, List.take_of_length_le (by omega)] at hf
  rcases DataW.trod_pointer Tryd.underlying154 hf with ⟨hcs, hy⟩ | ⟨a, cs', y, m, _, hcs, hy, hcl2, hin⟩
  · rw [hy] at hx
    simp [Rows.laid_net_netip_z4] at hx
  · refine ⟨a, ?_, ?_⟩
    · rw [World.var?_cell hg' hvar 0]
      obtain ⟨l⟩ := cs
      simp only at hcs
      subst hcs
      rfl
    · obtain ⟨y1, y2, k, hyy, hl2, h1, h2⟩ := trod_struct2 Tryd.underlying201 hin
      have hc2 : Tryd.prog.cellsOf 201 = 2 := by kernel_rfl
      have hcb : Tryd.prog.cellsOf 4 = 1 := by kernel_rfl
      have hct : Tryd.prog.cellsOf 9 = 1 := by kernel_rfl
      rw [hc2] at hl2 hcl2
      obtain ⟨c0, c1, rfl⟩ : ∃ c0 c1, cs' = [c0, c1] := by
        match cs', hl2 with
        | [c0, c1], _ => exact ⟨c0, c1, rfl⟩
      change DataW.trod _ _ W 0 _ false k 4 (List.take (Tryd.prog.cellsOf 4) [c0, c1]) = _ at h1
      change DataW.trod _ _ W 0 _ false k 9 (List.take (Tryd.prog.cellsOf 9) [c1]) = _ at h2
      rw [hcb] at h1
      rw [hct] at h2
      obtain ⟨b, hb, -⟩ := DataW.trod_bool Tryd.underlying4 h1
      obtain ⟨s, hs, hs2, -⟩ := DataW.trod_string Tryd.underlying9 h2
      obtain ⟨-, -, hcell⟩ := World.cells?_some hcl2
      have e0 := hcell 0 (by omega)
      have e1 := hcell 1 (by omega)
      simp at hb hs
      subst hb
      subst hs
      rw [Addr.add_zero'] at e0
      refine ⟨⟨b, e0⟩, ?_⟩
      rw [e1]
      rw [hy, hyy] at hx
      simp [Rows.laid_net_netip_z4] at hx
      have hx2 := hx.1.2
      rw [hs2] at hx2
      simp only [DataW.lit.injEq, Lit.string.injEq] at hx2
      have hs0 : s = ⟨#[]⟩ := by
        obtain ⟨⟨l⟩⟩ := s
        simp only at hx2
        subst hx2
        rfl
      rw [hs0]
      rfl
theorem z0_of {W : World} (h : laidMetH Tryd.prog laidU W) : W.cell? ⟨9, 0, none⟩ = some (.pointer none) := by
  have h2 := laidMetH.filter (fun x => x.1 == "net/netip.z0") h
  have e : laidU.filter (fun x => x.1 == "net/netip.z0") = [("net/netip.z0", Rows.laid_net_netip_z0)] := by rfl
  rw [e] at h2
  obtain ⟨ps, ⟨g', t', cs, fuel, p, q, hg', ht', hvar, hd, _, _⟩, _⟩ := h2
  obtain rfl := Option.some.inj ((show Tryd.prog.globalNamed "net/netip.z0" = some 9 by kernel_rfl).symm.trans hg')
  obtain rfl := Option.some.inj ((show (Tryd.prog.globals[9]?).map (·.type) = some 156 by kernel_rfl).symm.trans ht')
  obtain ⟨y0, n, hx, hl, hf⟩ := trod_struct1 Tryd.underlying156 hd
  have hc1 : Tryd.prog.cellsOf 154 = 1 := by kernel_rfl
  have hcl : cs.toList.length = 1 := hl.trans (by kernel_rfl)
  change DataW.trod _ _ W 0 _ false n 154 (List.take (Tryd.prog.cellsOf 154) cs.toList) = _ at hf
  rw [hc1, List.take_of_length_le (by omega)] at hf
  rcases DataW.trod_pointer Tryd.underlying154 hf with ⟨hcs, hy⟩ | ⟨a, cs', y, m, _, hcs, hy, _⟩
  · rw [World.var?_cell hg' hvar 0]
    obtain ⟨l⟩ := cs
    simp only at hcs
    subst hcs
    rfl
  · rw [hy] at hx
    simp [Rows.laid_net_netip_z0] at hx
set_option maxRecDepth 100000 in
set_option maxHeartbeats 8000000 in
theorem walk (m : MsgT) (A : Option Addr) (c : Nat) (vs : List VarT) (hB : MsgB m) (hV : ∀ v ∈ vs, VarB v) (w : World) (hC : Kd.C kVar w A vs.length vs) (hL : laidMetH Tryd.prog laidU w) :
    Calls Tryd.prog 5 #[.agg (m.arr (.slice A vs.length c))] w fun e w' => e = .returned (.bool true) ∧ Below w.heap.size w w' := by
  obtain ⟨z, hz4, hzb, hzz⟩ := z4_of hL
  have HT := Lib.hid (show ZZone z w from ⟨⟨hz4, z0_of hL⟩, hzb, hzz⟩)
  clear hL hz4 hzb hzz
  have hblk := blk_new w (msgO m (.slice A vs.length c))
  have b0 := (Below.refl w.heap.size w).alloc (Nat.le_refl _) (msgO m (.slice A vs.length c))
  have HC := Lib.hid (And.intro hC (And.intro hB hV))
  clear hC hB hV
  go_enter Tryd.func5, Tryd.ntmps5
  go_wp2_with fail
  refine (fits2_any m A c vs _ (Kd.C_below HC.out.1 b0)).mono ?_
  rintro e w1 ⟨rfl, hb1⟩
  have H1 := Lib.hid (And.intro (blk_below hblk hb1) (below_step b0 hb1))
  clear hb1 b0 hblk
  cases hf : fits2 m vs with
  | false =>
    go_wp2
    go_ret
    exact ⟨rfl, H1.out.2⟩
  | true =>
  obtain ⟨p0, p1, p2, p3, p4, p5, p6, p7, p8, p9, p10, p11⟩ := msg_cells H1.out.1
  have hvok : ∀ v ∈ vs, VarOk v := fun v hv => varOk_of (HC.out.2.2 v hv) (fits2_vars hf v hv)
  have HV := Lib.hid hvok
  clear hf hvok
  by_cases hok : MsgOk m vs.length
  case neg =>
    go_wp2_with fail
    refine (told2_no m A c vs HC.out.2.1.i0 w1 hok).mono ?_
    rintro e w2 ⟨hb2, rfl⟩
    have H2 := Lib.hid (below_step H1.out.2 hb2)
    clear hb2 p0 p1 p2 p3 p4 p5 p6 p7 p8 p9 p10 p11 hok
    go_wp2
    go_ret
    exact ⟨rfl, H2.out.alloc H2.out.size _⟩
  have HO := Lib.hid hok
  clear hok
  go_wp2_with fail
  refine (told2_ok m A c vs HO.out HC.out.2.1.i0 HV.out w1 (Kd.C_below HC.out.1 H1.out.2)).mono ?_
  rintro e w2 ⟨hb2, rfl | ⟨qs, v, hvs, hq, rfl, hown⟩⟩
  · have H2 := Lib.hid (below_step H1.out.2 hb2)
    clear hb2 p0 p1 p2 p3 p4 p5 p6 p7 p8 p9 p10 p11
    go_wp2
    go_ret
    exact ⟨rfl, H2.out.alloc H2.out.size _⟩
  obtain ⟨ts, hts⟩ : ∃ ts, ts = qs.map toldQ := ⟨_, rfl⟩
  rw [← hts] at hown
  have b2 := below_step H1.out.2 hb2
  have hm2 := blk_below H1.out.1 hb2
  obtain ⟨A2, c2, rfl, hc2, hC2⟩ := Kd.R_reads hown
  have b3 := b2.alloc b2.size (msgO m (.slice A2 ts.length c2))
  have hm3 := blk_alloc hm2 (msgO m (.slice A2 ts.length c2))
  have hw3 := blk_new w2 (msgO m (.slice A2 ts.length c2))
  have hC3 := Kd.C_alloc hC2 (msgO m (.slice A2 ts.length c2))
  have hs2 := b2.size
  have hE : ∀ W, Below w.heap.size w W → Calls Tryd.prog 16 #[.agg (m.arr (.slice A vs.length c))] W fun e w' => GotT W w' (gMsg m.ver (bs m.com) m.kind m.id m.st m.ix (qs.map (bytesQ 0)).flatten 0) e := fun W hW => by
    have hk := HO.out
    have hc := Kd.C_below HC.out.1 hW
    have hv := HV.out
    subst hvs
    exact enc_any m A c qs hk HC.out.2.1.i0 z W hc (HT.out.on hW) hq (fun q h => hv q.1 (List.mem_map.2 ⟨q, h, rfl⟩))
  have hu : ∀ q ∈ qs, 0 ≤ q.1.u ∧ q.1.u ≤ 18446744073709551615 := fun q h => by
    have := HC.out.2.2 q.1 (by rw [hvs]; exact List.mem_map.2 ⟨q, h, rfl⟩)
    exact ⟨this.u0, this.u1⟩
  have hn20 : qs.length ≤ 20 := by have := HO.out.n20; rw [hvs, List.length_map] at this; exact this
  obtain ⟨hf1, hf2⟩ := bytes_flat 0 (by omega) qs hq hu
  have hcl : (bs m.com).length ≤ 127 := by rw [bs_length]; exact HO.out.com
  have hsv := sVars_bytes 0 (by omega) qs _ hq hu (Nat.le_refl _)
  have hsm := sMsg_gMsg m.ver (bs m.com) m.kind m.id m.st m.ix (qs.map (bytesQ 0)).flatten 0 (by omega) HO.out.v0 (by have := HO.out.v1; omega) hcl (by have := HO.out.k0; omega) (by have := HO.out.k1; omega) HC.out.2.1.i0 HO.out.i1 HO.out.s0 HO.out.s1 HO.out.x0 HO.out.x1 (by omega) _ hsv
  have hgl := gMsg_len m.ver (bs m.com) m.kind m.id m.st m.ix (qs.map (bytesQ 0)).flatten 0 (by omega)
  have hgb := gMsg_isB m.ver (bs m.com) m.kind m.id m.st m.ix (qs.map (bytesQ 0)).flatten 0 (by omega) (bs_isB _) hf2 (by omega) (by omega)
  have htm := told_msg m vs.length HO.out qs
  have htv := told_vars qs
  rw [← hts] at htv
  obtain ⟨n, hn⟩ : ∃ n, n = (qs.map (bytesQ 0)).flatten.length := ⟨_, rfl⟩
  rw [← hn] at hgl hf1
  have hbl : (gMsg m.ver (bs m.com) m.kind m.id m.st m.ix (qs.map (bytesQ 0)).flatten 0).length ≤ 100000 := by omega
  generalize gMsg m.ver (bs m.com) m.kind m.id m.st m.ix (qs.map (bytesQ 0)).flatten 0 = bb at *
  have H3 := Lib.hid (And.intro b3 (And.intro hm3 (And.intro hw3 (And.intro hC3 (And.intro hE (And.intro hsm (And.intro hgb (And.intro htm htv))))))))
  clear p0 p1 p2 p3 p4 p5 p6 p7 p8 p9 p10 p11 hb2 b2 hm2 hown hC2 hc2 b3 hm3 hw3 hC3 hq H1 hE hsm hgb htm htv hts hvs hn hgl hf1 hf2 hsv hcl hn20 hu
  obtain ⟨p0, p1, p2, p3, p4, p5, p6, p7, p8, p9, p10, p11⟩ := msg_cells H3.out.2.1
  go_wp2_with fail
  refine (H3.out.2.2.2.2.1 _ H3.out.1).mono ?_
  rintro e w4 ⟨v4, rfl, ho4, hb4⟩
  obtain ⟨A4, c4, rfl, hc4, hC4⟩ := Kd.R_reads ho4
  have H4 := Lib.hid (And.intro (below_step H3.out.1 hb4) (And.intro (blk_below H3.out.2.2.1 hb4) (And.intro (Kd.C_below H3.out.2.2.2.1 hb4) hC4)))
  clear p0 p1 p2 p3 p4 p5 p6 p7 p8 p9 p10 p11 hb4 ho4 hC4
  go_wp2_with fail
  refine (ofMessage_any A4 c4 bb w4 H4.out.2.2.2 hc4 H3.out.2.2.2.2.2.2.1 hbl).mono ?_
  rintro e w5 ⟨hb5, h5⟩
  rcases h5 with ⟨hn5, -⟩ | ⟨p, v5, hp5, rfl, ho5⟩
  · rw [H3.out.2.2.2.2.2.1] at hn5; simp at hn5
  rw [H3.out.2.2.2.2.2.1] at hp5
  obtain rfl := Option.some.inj hp5
  have htm := H3.out.2.2.2.2.2.2.2.1
  have htv := H3.out.2.2.2.2.2.2.2.2
  rw [htm]
  rw [show (⟨m.ver, bs m.com, m.kind, m.id, m.st, m.ix, qs.map partQ⟩ : MsgP).vars = qs.map partQ from rfl, htv] at ho5
  obtain ⟨A5, c5, rfl, hc5, hC5⟩ := Kd.R_reads ho5
  have b5 := below_step H4.out.1 hb5
  have H5 := Lib.hid (And.intro (b5.alloc b5.size (msgO m (.slice A5 ts.length c5))) (And.intro (blk_alloc (blk_below H4.out.2.1 hb5) (msgO m (.slice A5 ts.length c5))) (And.intro (blk_new w5 (msgO m (.slice A5 ts.length c5))) (And.intro (Kd.C_alloc (Kd.C_below H4.out.2.2.1 hb5) (msgO m (.slice A5 ts.length c5))) (Kd.C_alloc hC5 (msgO m (.slice A5 ts.length c5)))))))
  clear hb5 ho5 hC5 hc5 b5 htm htv hp5 H4 H3
  obtain ⟨p0, p1, p2, p3, p4, p5, p6, p7, p8, p9, p10, p11⟩ := msg_cells H5.out.2.1
  obtain ⟨q0, q1, q2, q3, q4, q5, q6, q7, q8, q9, q10, q11⟩ := msg_cells H5.out.2.2.1
  go_wp2_with fail
  refine (same_eq m A5 c5 A2 c2 ts _ H5.out.2.2.2.2 H5.out.2.2.2.1).mono ?_
  rintro e w6 ⟨rfl, hb6⟩
  have H6 := Lib.hid (below_step H5.out.1 hb6)
  clear hb6 p0 p1 p2 p3 p4 p5 p6 p7 p8 p9 p10 p11 q0 q1 q2 q3 q4 q5 q6 q7 q8 q9 q10 q11 H5
  go_wp2
  go_ret
  exact ⟨rfl, H6.out⟩
theorem door_met (os : Os) (args : Array Value) : laidMetH Tryd.prog laidU ((World.laidAll Tryd.prog os laidU).forCall (fun _ _ => 0) ⟨#[], args, []⟩).memory :=
  laidMetH_of_parts3 (fuel := 8) (laidMet_laidAll (laid := laidU) _ (by kernel_rfl) (by kernel_rfl)) (by kernel_rfl) (by kernel_rfl)
set_option maxRecDepth 100000 in
theorem lifted (os : Os) (started : os.Started) (H : Type) (enc : TypeId × Value → H) :
    ReturnsInHanded {} Tryd.checked os 5 .any (fun w args => (Rows.fnEncodeSpec.pre enc Tryd.prog Tryd.f5 [] false w args ∧ laidMetH Tryd.prog laidU w) ∧ sizedMet enc Tryd.prog Tryd.f5 (OpenSpec.ofChange Rows.fnEncodeSpec) false w args)
      (Rows.fnEncodeSpec.post enc Tryd.prog Tryd.f5 false true false false) := by
  refine returnsInHanded_of_change_and (C := Tryd.checked) (X := fun w _ => laidMetH Tryd.prog laidU w) (fun _ _ _ hh h => h.of_heap hh) own started (by kernel_rfl) Tryd.func5
    (ChangeSpec.witness_shaped (enc := enc) (C := Tryd.checked) (os := os) (X := fun w _ => laidMetH Tryd.prog laidU w) false (World.laidAll Tryd.prog os laidU) #[.agg #[.int .i64 0, .string ByteArray.empty, .int .i64 0, .int .u32 0, .int .i64 0, .int .i64 0, .slice none 0 0, .string ByteArray.empty, .string ByteArray.empty, .int .i64 0, .int .i64 0, .int .u64 0]] 8 (World.laidAll_os _ _ _) (World.shaped_of_ZipB (by kernel_rfl) (by kernel_rfl)) (by kernel_rfl) (by kernel_rfl) (by kernel_rfl) (door_met os _)) ?_
  intro W base args ds gs before hval0 hW _ _ hL _
  have hval : ∀ (j : Nat) t v, Tryd.f5.params[j]? = some t → args[j]? = some v → Value.okWide Tryd.prog W .any base t v := hval0
  have hW' := hW
  obtain ⟨p, q, hA0, hV0, rfl, hfz, hnd⟩ := hW
  have hA : DataW.TrodAll enc Tryd.prog W 0 (fun _ => true) true Tryd.f5.params.toList args.toList ds p := hA0
  have hV : DataW.TrodVars enc Tryd.prog W (fun _ => true) [] gs q := hV0
  rw [Tryd.params5] at hA hval
  obtain ⟨v0, vs0, d0, ds0, p0, q0, hargs, rfl, rfl, h0, r0⟩ := trodAll_cons hA
  obtain ⟨rfl, rfl, rfl⟩ := trodAll_nil r0
  obtain rfl : args = #[v0] := by cases args; simp_all
  obtain ⟨rfl, rfl⟩ := trodVars_none hV
  have k0 := h0
  have lt0 : ∀ x ∈ p0, x.block < W.heap.size := by obtain ⟨m, hm⟩ := k0; exact DataW.trod_lt m _ _ _ hm
  obtain ⟨m0, A0, c0, ms0, rfl, hC0, hB0, hM0⟩ := open_msg (hval 0 40 v0 rfl rfl) h0
  clear hA0 hval0
  simp only [List.append_nil] at hW'
  refine (walk m0 A0 c0 ms0 hB0 hM0 W hC0 hL).mono fun e W' ⟨he, bel⟩ => ?_
  subst he
  exact ⟨_, rfl, _, _, _, [], _, _, hW', trodAll_mk1 (shut_bool Tryd.underlying4 _), (trodAll_cons_mk (Below.trod laidOut (by kernel_rfl) (of_decide_eq_true (by kernel_rfl)) k0 bel lt0) trodAll_mk0), rfl, bel.frame _, fun h => by cases h⟩
theorem over : Rows.fnEncodeRow.holds Tryd.pinned (OpenSpec.ofChange Rows.fnEncodeSpec) :=
  OpenClaim.holds_of_wide 5 Tryd.f5 rfl rfl rfl rfl rfl rfl rfl ⟨rfl, rfl, rfl, rfl, rfl⟩ rfl rfl rfl rfl rfl (by kernel_rfl) Tryd.func5 (by kernel_rfl)
    (of_decide_eq_true (by kernel_rfl)) (by unfold Func.isWrapper; first | (rw [if_pos (by decide +kernel)]; kernel_rfl) | (rw [if_neg (by decide +kernel)]; exact ⟨rfl, rfl⟩))
    (fun os started H enc _ => lifted os started H enc)
theorem proved : Rows.FnEncodeCardSaid :=
  Claim7.holds_tied_plain_at .later [] [.sentinel, .sentinel, .called, .called, .zero] true (true, "d4f6ea03bc9d38cd540cbee4e24fad1890cbd5cb11bd099a91ac13946ffc23cb") true
    over (fun _ h => by cases h) (by kernel_rfl) (fun _ h => by cases h) fnEncode_row_tie rfl ⟨rfl, rfl⟩ (by kernel_rfl) rfl
    (fun f fn hf hfn => by
      obtain rfl : f = 5 := Option.some.inj ((show Tryd.prog.funcNamed "loop.example/pub-g03261/laws.FnEncode" = some 5 by kernel_rfl).symm.trans hf) |>.symm
      obtain rfl : fn = Tryd.f5 := (Option.some.inj (Tryd.func5.symm.trans hfn)).symm
      exact ⟨by kernel_rfl, fun j t ht => by
        rw [Tryd.params5] at ht
        have h3 : t = 40 := by
          match j with
          | 0 => simp at ht; subst ht; simp
          | j + 1 => simp at ht
        rcases h3 with rfl
        exact (show Tryd.prog.wantsStandIn 40 = false by kernel_rfl)⟩)
    (by kernel_rfl)
#print axioms proved
end Go.Proofs.YtangjgclpipjdaaDoor.fnEncode
