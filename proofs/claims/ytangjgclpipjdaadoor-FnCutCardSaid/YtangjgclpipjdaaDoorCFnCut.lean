/-
FnCut: the reference's bytes of a message are told by impl.Decode, and what is left when they are cut short is refused; for the messages that FnEncode speaks of.
-/
import Derived.Test.YtangjgclpipjdaaDoorRows
import Derived.Test.YtangjgclpipjdaaDoorTie
import Derived.Test.YtangjgclpipjdaaDoorCards
import Derived.ProofKit
import Derived.OpenShut
import Derived.LaidMore
import Derived.LaidSub
import Derived.Lay
import Derived.Lib.LaidTab
import Derived.OpenVars
import Derived.ChangeVars
import Derived.Stop.Joined
import Derived.SevenTiedAt
import Derived.Test.YtangjgclpipjdaaDoorQM7
import Derived.Test.YtangjgclpipjdaaDoorQM21
import Derived.Test.YtangjgclpipjdaaDoorQM22
import Derived.Test.YtangjgclpipjdaaDoorQM24
set_option linter.unusedVariables false
namespace Go.Proofs.YtangjgclpipjdaaDoor.fnCut
open Go.ChangeShapes Go.WideShapes Go.ChangeAt Go.RowKit Go.Proofs.YtangjgclpipjdaaDoorW.PrintWords Go.Proofs.YtangjgclpipjdaaDoorW.PrintLast Go.Proofs.YtangjgclpipjdaaDoorW.PrintMore

theorem own : ownKnob Tryd.prog.godebug = none := by kernel_rfl
theorem laidOut : laidOutB Tryd.prog = true := by kernel_rfl
abbrev laidU : List (String × DataW Unit) := [("math/bits.deBruijn32tab", Rows.laid_math_bits_deBruijn32tab), ("math/bits.deBruijn64tab", Rows.laid_math_bits_deBruijn64tab), ("internal/strconv.uint64pow10", Rows.laid_internal_strconv_uint64pow10), ("net/netip.z4", Rows.laid_net_netip_z4), ("net/netip.z6noz", Rows.laid_net_netip_z6noz), ("loop.example/pub-g03261/pub/snmp._Asn1BER_index_0", Rows.laid_loop_example_pub_g03261_pub_snmp_Asn1BER_index_0), ("loop.example/pub-g03261/pub/snmp._Asn1BER_index_1", Rows.laid_loop_example_pub_g03261_pub_snmp_Asn1BER_index_1), ("loop.example/pub-g03261/pub/snmp._Asn1BER_index_2", Rows.laid_loop_example_pub_g03261_pub_snmp_Asn1BER_index_2), ("loop.example/pub-g03261/pub/snmp._Asn1BER_index_3", Rows.laid_loop_example_pub_g03261_pub_snmp_Asn1BER_index_3), ("loop.example/pub-g03261/pub/snmp.ErrBase128IntegerTooLarge", Rows.laid_loop_example_pub_g03261_pub_snmp_ErrBase128IntegerTooLarge), ("loop.example/pub-g03261/pub/snmp.ErrBase128IntegerTruncated", Rows.laid_loop_example_pub_g03261_pub_snmp_ErrBase128IntegerTruncated), ("loop.example/pub-g03261/pub/snmp.ErrFloatBufferTooShort", Rows.laid_loop_example_pub_g03261_pub_snmp_ErrFloatBufferTooShort), ("loop.example/pub-g03261/pub/snmp.ErrFloatTooLarge", Rows.laid_loop_example_pub_g03261_pub_snmp_ErrFloatTooLarge), ("loop.example/pub-g03261/pub/snmp.ErrIntegerTooLarge", Rows.laid_loop_example_pub_g03261_pub_snmp_ErrIntegerTooLarge), ("loop.example/pub-g03261/pub/snmp.ErrInvalidPacketLength", Rows.laid_loop_example_pub_g03261_pub_snmp_ErrInvalidPacketLength), ("loop.example/pub-g03261/pub/snmp.ErrZeroByteBuffer", Rows.laid_loop_example_pub_g03261_pub_snmp_ErrZeroByteBuffer), ("loop.example/pub-g03261/pub/snmp.ErrZeroLenInteger", Rows.laid_loop_example_pub_g03261_pub_snmp_ErrZeroLenInteger), ("net/netip.z0", Rows.laid_net_netip_z0)]
set_option maxRecDepth 100000 in
theorem z4_of {W : World} (h : laidMetH Tryd.prog laidU W) : ∃ z, W.cell? ⟨13, 0, none⟩ = some (.pointer (some z)) ∧ (∃ b, W.cell? z = some (.bool b)) ∧ W.cell? (z.add 1) = some (.string ⟨#[]⟩) := by
  have h2 := laidMetH.filter (fun x => x.1 == "net/netip.z4") h
  have e : laidU.filter (fun x => x.1 == "net/netip.z4") = [("net/netip.z4", Rows.laid_net_netip_z4)] := by rfl
  rw [e] at h2
  obtain ⟨ps, ⟨g', t', cs, fuel, p, q, hg', ht', hvar, hd, _, _⟩, _⟩ := h2
  obtain rfl := Option.some.inj ((show Tryd.prog.globalNamed "net/netip.z4" = some 13 by kernel_rfl).symm.trans hg')
  obtain rfl := Option.some.inj ((show (Tryd.prog.globals[13]?).map (·.type) = some 156 by kernel_rfl).symm.trans ht')
  obtain ⟨y0, n, hx, hl, hf⟩ := trod_struct1 Tryd.underlying156 hd
  have hc1 : Tryd.prog.cellsOf 154 = 1 := by kernel_rfl
  have hcl : cs.toList.length = 1 := hl.trans (by kernel_rfl)
  change DataW.trod _ _ W 0 _ false n 154 (List.take (Tryd.prog.cellsOf 154) cs.toList) = _ at hf
  rw [hc1, List.take_of_length_le (by omega)] at hf
  rcases DataW.trod_pointer Tryd.underlying154 hf with ⟨hcs, hy⟩ | ⟨a, cs', y, m, _, hcs, hy, hcl2, hin⟩
  · rw [hy] at hx
    simp [Rows.laid_net_netip_z4] at hx
  · refine ⟨a, ?_, ?_⟩
    · rw [World.var?_cell hg' hvar 0]
      obtain ⟨l⟩ := cs
      simp only at hcs
      subst hcs
      rfl
    · obtain ⟨y1, y2, k, hyy, hl2, h1, h2⟩ := trod_struct2 Tryd.underlying201 hin
      have hc2 : Tryd.prog.cellsOf 201 = 2 := by kernel_rfl
      have hcb : Tryd.prog.cellsOf 4 = 1 := by kernel_rfl
      have hct : Tryd.prog.cellsOf 9 = 1 := by kernel_rfl
      rw [hc2] at hl2 hcl2
      obtain ⟨c0, c1, rfl⟩ : ∃ c0 c1, cs' = [c0, c1] := by
        match cs', hl2 with
        | [c0, c1], _ => exact ⟨c0, c1, rfl⟩
      change DataW.trod _ _ W 0 _ false k 4 (List.take (Tryd.prog.cellsOf 4) [c0, c1]) = _ at h1
      change DataW.trod _ _ W 0 _ false k 9 (List.take (Tryd.prog.cellsOf 9) [c1]) = _ at h2
      rw [hcb] at h1
      rw [hct] at h2
      obtain ⟨b, hb, -⟩ := DataW.trod_bool Tryd.underlying4 h1
      obtain ⟨s, hs, hs2, -⟩ := DataW.trod_string Tryd.underlying9 h2
      obtain ⟨-, -, hcell⟩ := World.cells?_some hcl2
      have e0 := hcell 0 (by omega)
      have e1 := hcell 1 (by omega)
      simp at hb hs
      subst hb
      subst hs
      rw [Addr.add_zero'] at e0
      refine ⟨⟨b, e0⟩, ?_⟩
      rw [e1]
      rw [hy, hyy] at hx
      simp [Rows.laid_net_netip_z4] at hx
      have hx2 := hx.1.2
      rw [hs2] at hx2
      simp only [DataW.lit.injEq, Lit.string.injEq] at hx2
      have hs0 : s = ⟨#[]⟩ := by
        obtain ⟨⟨l⟩⟩ := s
        simp only at hx2
        subst hx2
        rfl
      rw [hs0]
      rfl
theorem z0_of {W : World} (h : laidMetH Tryd.prog laidU W) : W.cell? ⟨9, 0, none⟩ = some (.pointer none) := by
  have h2 := laidMetH.filter (fun x => x.1 == "net/netip.z0") h
  have e : laidU.filter (fun x => x.1 == "net/netip.z0") = [("net/netip.z0", Rows.laid_net_netip_z0)] := by rfl
  rw [e] at h2
  obtain ⟨ps, ⟨g', t', cs, fuel, p, q, hg', ht', hvar, hd, _, _⟩, _⟩ := h2
  obtain rfl := Option.some.inj ((show Tryd.prog.globalNamed "net/netip.z0" = some 9 by kernel_rfl).symm.trans hg')
  obtain rfl := Option.some.inj ((show (Tryd.prog.globals[9]?).map (·.type) = some 156 by kernel_rfl).symm.trans ht')
  obtain ⟨y0, n, hx, hl, hf⟩ := trod_struct1 Tryd.underlying156 hd
  have hc1 : Tryd.prog.cellsOf 154 = 1 := by kernel_rfl
  have hcl : cs.toList.length = 1 := hl.trans (by kernel_rfl)
  change DataW.trod _ _ W 0 _ false n 154 (List.take (Tryd.prog.cellsOf 154) cs.toList) = _ at hf
  rw [hc1, List.take_of_length_le (by omega)] at hf
  rcases DataW.trod_pointer Tryd.underlying154 hf with ⟨hcs, hy⟩ | ⟨a, cs', y, m, _, hcs, hy, _⟩
  · rw [World.var?_cell hg' hvar 0]
    obtain ⟨l⟩ := cs
    simp only at hcs
    subst hcs
    rfl
  · rw [hy] at hx
    simp [Rows.laid_net_netip_z0] at hx
set_option maxRecDepth 100000 in
theorem pow_of {W : World} (h : laidMetH Tryd.prog laidU W) : PowTab W := by
  have h2 := laidMetH.filter (fun x => x.1 == "internal/strconv.uint64pow10") h
  have e : laidU.filter (fun x => x.1 == "internal/strconv.uint64pow10") = [("internal/strconv.uint64pow10", Lib.tabData .u64 Lib.pow10Tab)] := by rfl
  rw [e] at h2
  exact Lib.tabIs_of_head (g := 20) (by kernel_rfl) (by kernel_rfl) Tryd.underlying232 Tryd.underlying22 (by kernel_rfl) (by kernel_rfl) h2
set_option maxRecDepth 100000 in
theorem asn_of {W : World} (h : laidMetH Tryd.prog laidU W) : AsnTab W := by
  have h2 := laidMetH.filter (fun x => x.1 == "loop.example/pub-g03261/pub/snmp._Asn1BER_index_0") h
  have e : laidU.filter (fun x => x.1 == "loop.example/pub-g03261/pub/snmp._Asn1BER_index_0") = [("loop.example/pub-g03261/pub/snmp._Asn1BER_index_0", Lib.tabData .u8 [0, 13, 20, 27, 36, 47, 51, 67, 84])] := by rfl
  rw [e] at h2
  exact Lib.tabIs_of_head (g := 3) (by kernel_rfl) (by kernel_rfl) Tryd.underlying184 Tryd.underlying5 (by kernel_rfl) (by kernel_rfl) h2
theorem cont_u32 {ty i u : Int} {tx c : List Int} {i' u' : Int} {tx' : List Int} (h : Cont ty i u tx c i' u' tx') (h67 : ty = 67) : u' ≤ 4294967295 := by
  cases h <;> omega
set_option maxRecDepth 100000 in
set_option maxHeartbeats 8000000 in
theorem walk (m : MsgT) (A : Option Addr) (c : Nat) (vs : List VarT) (hB : MsgB m) (hV : ∀ v ∈ vs, VarB v) (ct : Int) (ct0 : 0 ≤ ct) (ct1 : ct ≤ 65535) (w : World) (hC : Kd.C kVar w A vs.length vs) (hL : laidMetH Tryd.prog laidU w) :
    Calls Tryd.prog 6 #[.agg (m.arr (.slice A vs.length c)), .int .u16 ct] w fun e w' => e = .returned (.bool true) ∧ Below w.heap.size w w' := by
  obtain ⟨z, hz4, hzb, hzz⟩ := z4_of hL
  have HT := Lib.hid (show Tabs z w from ⟨pow_of hL, asn_of hL, hz4, z0_of hL⟩)
  clear hL hz4 hzb hzz
  have hblk := blk_new w (msgO m (.slice A vs.length c))
  have b0 := (Below.refl w.heap.size w).alloc (Nat.le_refl _) (msgO m (.slice A vs.length c))
  have HC := Lib.hid (And.intro hC (And.intro hB hV))
  clear hC hB hV
  go_enter Tryd.func6, Tryd.ntmps6
  go_wp2_with fail
  refine (fits2_any m A c vs _ (Kd.C_below HC.out.1 b0)).mono ?_
  rintro e w1 ⟨rfl, hb1⟩
  have H1 := Lib.hid (And.intro (blk_below hblk hb1) (below_step b0 hb1))
  clear hb1 b0 hblk
  cases hf : fits2 m vs with
  | false =>
    go_wp2
    go_ret
    exact ⟨rfl, H1.out.2⟩
  | true =>
  obtain ⟨p0, p1, p2, p3, p4, p5, p6, p7, p8, p9, p10, p11⟩ := msg_cells H1.out.1
  have hvok : ∀ v ∈ vs, VarOk v := fun v hv => varOk_of (HC.out.2.2 v hv) (fits2_vars hf v hv)
  have HV := Lib.hid hvok
  clear hf hvok
  by_cases hok : MsgOk m vs.length
  case neg =>
    go_wp2_with fail
    refine (told2_no m A c vs HC.out.2.1.i0 w1 hok).mono ?_
    rintro e w2 ⟨hb2, rfl⟩
    have H2 := Lib.hid (below_step H1.out.2 hb2)
    clear hb2 p0 p1 p2 p3 p4 p5 p6 p7 p8 p9 p10 p11 hok
    go_wp2
    go_ret
    exact ⟨rfl, H2.out.alloc H2.out.size _⟩
  have HO := Lib.hid hok
  clear hok
  go_wp2_with fail
  refine (told2_ok m A c vs HO.out HC.out.2.1.i0 HV.out w1 (Kd.C_below HC.out.1 H1.out.2)).mono ?_
  rintro e w2 ⟨hb2, rfl | ⟨qs, v, hvs, hq, rfl, hown⟩⟩
  · have H2 := Lib.hid (below_step H1.out.2 hb2)
    clear hb2 p0 p1 p2 p3 p4 p5 p6 p7 p8 p9 p10 p11
    go_wp2
    go_ret
    exact ⟨rfl, H2.out.alloc H2.out.size _⟩
  obtain ⟨ts, hts⟩ : ∃ ts, ts = qs.map toldQ := ⟨_, rfl⟩
  rw [← hts] at hown
  have b2a := below_step H1.out.2 hb2
  have hm2a := blk_below H1.out.1 hb2
  obtain ⟨A2, c2, rfl, hc2, -⟩ := Kd.R_reads hown
  have b2 := b2a.alloc b2a.size (msgO m (.slice A2 ts.length c2))
  have hm2 := blk_alloc hm2a (msgO m (.slice A2 ts.length c2))
  have hE : ∀ W, Below w.heap.size w W → Calls Tryd.prog 19 #[.agg (m.arr (.slice A vs.length c)), .int .i64 0] W fun e w' => GotBytes W w' (gMsg m.ver (bs m.com) m.kind m.id m.st m.ix (qs.map (bytesQ 0)).flatten 0) e := fun W hW =>
    specBytes_any m A c qs vs hvs 0 (by omega) HO.out HC.out.2.1.i0 hq HV.out W (Kd.C_below HC.out.1 hW)
  have hDI : DecIn ⟨m.ver, bs m.com, m.kind, m.id, m.st, m.ix, qs.map partQ⟩ := ⟨HO.out.v0, HO.out.v1, HO.out.k0, HO.out.k1, HO.out.k4, HO.out.s0, HO.out.s1, HO.out.x0, HO.out.x1, fun v hv h67 => by
    obtain ⟨q, hq1, rfl⟩ := List.mem_map.1 hv
    exact cont_u32 (hq q hq1).cont h67⟩
  have hu : ∀ q ∈ qs, 0 ≤ q.1.u ∧ q.1.u ≤ 18446744073709551615 := fun q h => by
    have := HC.out.2.2 q.1 (by rw [hvs]; exact List.mem_map.2 ⟨q, h, rfl⟩)
    exact ⟨this.u0, this.u1⟩
  have hn20 : qs.length ≤ 20 := by have := HO.out.n20; rw [hvs, List.length_map] at this; exact this
  obtain ⟨hf1, hf2⟩ := bytes_flat 0 (by omega) qs hq hu
  have hcl : (bs m.com).length ≤ 127 := by rw [bs_length]; exact HO.out.com
  have hsv := sVars_bytes 0 (by omega) qs _ hq hu (Nat.le_refl _)
  have hsm := sMsg_gMsg m.ver (bs m.com) m.kind m.id m.st m.ix (qs.map (bytesQ 0)).flatten 0 (by omega) HO.out.v0 (by have := HO.out.v1; omega) hcl (by have := HO.out.k0; omega) (by have := HO.out.k1; omega) HC.out.2.1.i0 HO.out.i1 HO.out.s0 HO.out.s1 HO.out.x0 HO.out.x1 (by omega) _ hsv
  have hgl := gMsg_len m.ver (bs m.com) m.kind m.id m.st m.ix (qs.map (bytesQ 0)).flatten 0 (by omega)
  have hgb := gMsg_isB m.ver (bs m.com) m.kind m.id m.st m.ix (qs.map (bytesQ 0)).flatten 0 (by omega) (bs_isB _) hf2 (by omega) (by omega)
  obtain ⟨n, hn⟩ : ∃ n, n = (qs.map (bytesQ 0)).flatten.length := ⟨_, rfl⟩
  rw [← hn] at hgl hf1
  have hbl : (gMsg m.ver (bs m.com) m.kind m.id m.st m.ix (qs.map (bytesQ 0)).flatten 0).length ≤ 16384 := by omega
  generalize gMsg m.ver (bs m.com) m.kind m.id m.st m.ix (qs.map (bytesQ 0)).flatten 0 = bb at *
  have hpos : 0 < bb.length := by
    obtain ⟨inn, cv, in1, in2, body, ci, b1, cs, b2, cx, b3, list, hp⟩ := sMsg_parts hsm
    have := sOpen_len hgb (sNext_open hp.n1)
    omega
  have H3 := Lib.hid (And.intro b2 (And.intro hm2 (And.intro hE (And.intro hsm (And.intro hgb hDI)))))
  clear p0 p1 p2 p3 p4 p5 p6 p7 p8 p9 p10 p11 hb2 b2 hm2 b2a hm2a hown hc2 hts hq H1 hE hsm hgb hvs hn hgl hf1 hf2 hsv hcl hn20 hu hDI
  obtain ⟨p0, p1, p2, p3, p4, p5, p6, p7, p8, p9, p10, p11⟩ := msg_cells H3.out.2.1
  go_wp2_with fail
  refine (H3.out.2.2.1 _ H3.out.1).mono ?_
  rintro e w4 ⟨v4, rfl, ho4, hb4⟩
  obtain ⟨A4, c4, rfl, hc4, hC4⟩ := Kd.R_reads ho4
  have H4 := Lib.hid (And.intro (below_step H3.out.1 hb4) hC4)
  clear p0 p1 p2 p3 p4 p5 p6 p7 p8 p9 p10 p11 hb4 ho4 hC4
  have hlI : (bb.length : Int) ≠ 0 := by omega
  have hlP : (0 : Int) < bb.length := by omega
  obtain ⟨k, hk⟩ : ∃ k : Nat, ct % (bb.length : Int) = k := ⟨(ct % (bb.length : Int)).toNat, (Int.toNat_of_nonneg (Int.emod_nonneg _ hlI)).symm⟩
  have hkl : k < bb.length := by have := Int.emod_lt_of_pos ct hlP; omega
  have hwc : IntKind.i64.wrap ct = ct := by simp [IntKind.wrap, IntKind.bits, IntKind.signed]; omega
  have hkc : (k : Int) ≤ c4 := by omega
  go_wp2_with fail
  refine (decode_cut bb _ H3.out.2.2.2.1 k hkl A4 c4 (by omega) H3.out.2.2.2.2.1 hbl w4 (C_head H4.out.2 k (by omega))).mono ?_
  rintro e w5 ⟨hb5, rfl⟩
  have b5 := below_step H4.out.1 hb5
  have b6 := hb5.alloc hb5.size (msgO zeroM (.slice none 0 0))
  have H5 := Lib.hid (And.intro (b5.alloc b5.size (msgO zeroM (.slice none 0 0))) (Kd.C_below H4.out.2 b6))
  clear hb5 b5 b6
  go_wp2_with fail
  refine (decode_ok bb _ H3.out.2.2.2.1 H3.out.2.2.2.2.2 A4 c4 hc4 H3.out.2.2.2.2.1 hbl _ H5.out.2 z (HT.out.on H5.out.1)).mono ?_
  rintro e w6 ⟨hb6, v6, rfl, ho6⟩
  obtain ⟨A6, c6, rfl, -⟩ := Kd.R_slice ho6
  have H6 := Lib.hid (below_step H5.out.1 hb6)
  clear hb6 ho6
  go_wp2
  go_ret
  exact ⟨rfl, H6.out.alloc H6.out.size _⟩
theorem door_met (os : Os) (args : Array Value) : laidMetH Tryd.prog laidU ((World.laidAll Tryd.prog os laidU).forCall (fun _ _ => 0) ⟨#[], args, []⟩).memory :=
  laidMetH_of_parts3 (fuel := 8) (laidMet_laidAll (laid := laidU) _ (by kernel_rfl) (by kernel_rfl)) (by kernel_rfl) (by kernel_rfl)
set_option maxRecDepth 100000 in
theorem lifted (os : Os) (started : os.Started) (H : Type) (enc : TypeId × Value → H) :
    ReturnsInHanded {} Tryd.checked os 6 .any (fun w args => (Rows.fnCutSpec.pre enc Tryd.prog Tryd.f6 [] false w args ∧ laidMetH Tryd.prog laidU w) ∧ sizedMet enc Tryd.prog Tryd.f6 (OpenSpec.ofChange Rows.fnCutSpec) false w args)
      (Rows.fnCutSpec.post enc Tryd.prog Tryd.f6 false true false false) := by
  refine returnsInHanded_of_change_and (C := Tryd.checked) (X := fun w _ => laidMetH Tryd.prog laidU w) (fun _ _ _ hh h => h.of_heap hh) own started (by kernel_rfl) Tryd.func6
    (ChangeSpec.witness_shaped (enc := enc) (C := Tryd.checked) (os := os) (X := fun w _ => laidMetH Tryd.prog laidU w) false (World.laidAll Tryd.prog os laidU) #[.agg #[.int .i64 0, .string ByteArray.empty, .int .i64 0, .int .u32 0, .int .i64 0, .int .i64 0, .slice none 0 0, .string ByteArray.empty, .string ByteArray.empty, .int .i64 0, .int .i64 0, .int .u64 0], .int .u16 0] 8 (World.laidAll_os _ _ _) (World.shaped_of_ZipB (by kernel_rfl) (by kernel_rfl)) (by kernel_rfl) (by kernel_rfl) (by kernel_rfl) (door_met os _)) ?_
  intro W base args ds gs before hval0 hW _ _ hL _
  have hval : ∀ (j : Nat) t v, Tryd.f6.params[j]? = some t → args[j]? = some v → Value.okWide Tryd.prog W .any base t v := hval0
  have hW' := hW
  obtain ⟨p, q, hA0, hV0, rfl, hfz, hnd⟩ := hW
  have hA : DataW.TrodAll enc Tryd.prog W 0 (fun _ => true) true Tryd.f6.params.toList args.toList ds p := hA0
  have hV : DataW.TrodVars enc Tryd.prog W (fun _ => true) ["loop.example/pub-g03261/pub/snmp.ErrInvalidPacketLength", "loop.example/pub-g03261/pub/snmp.ErrIntegerTooLarge", "loop.example/pub-g03261/pub/snmp.ErrZeroLenInteger", "loop.example/pub-g03261/pub/snmp.ErrBase128IntegerTooLarge", "loop.example/pub-g03261/pub/snmp.ErrBase128IntegerTruncated", "loop.example/pub-g03261/pub/snmp.ErrZeroByteBuffer", "loop.example/pub-g03261/pub/snmp._Asn1BER_index_0", "loop.example/pub-g03261/pub/snmp._Asn1BER_index_1", "loop.example/pub-g03261/pub/snmp._Asn1BER_index_2", "loop.example/pub-g03261/pub/snmp._Asn1BER_index_3", "loop.example/pub-g03261/pub/snmp.ErrFloatTooLarge", "loop.example/pub-g03261/pub/snmp.ErrFloatBufferTooShort"] gs q := hV0
  rw [Tryd.params6] at hA hval
  obtain ⟨v0, vs0, d0, ds0, p0, q0, hargs, rfl, rfl, h0, r0⟩ := trodAll_cons hA
  obtain ⟨v1, vs1, d1, ds1, p1, q1, rfl, rfl, rfl, h1, r1⟩ := trodAll_cons r0
  obtain ⟨rfl, rfl, rfl⟩ := trodAll_nil r1
  obtain rfl : args = #[v0, v1] := by cases args; simp_all
  obtain ⟨g1, g2, g3, g4, g5, g6, g7, g8, g9, g10, g11, g12, rfl⟩ : ∃ g1 g2 g3 g4 g5 g6 g7 g8 g9 g10 g11 g12, gs = [g1, g2, g3, g4, g5, g6, g7, g8, g9, g10, g11, g12] := by
    have hl := vars_length hV
    match gs, hl with
    | [g1, g2, g3, g4, g5, g6, g7, g8, g9, g10, g11, g12], _ => exact ⟨_, _, _, _, _, _, _, _, _, _, _, _, rfl⟩
  have k0 := h0
  have lt0 : ∀ x ∈ p0, x.block < W.heap.size := by obtain ⟨m, hm⟩ := k0; exact DataW.trod_lt m _ _ _ hm
  obtain ⟨m0, A0, c0, ms0, rfl, hC0, hB0, hM0⟩ := open_msg (hval 0 40 v0 rfl rfl) h0
  obtain ⟨a1, rfl, rfl, rfl, w1⟩ := open_int Tryd.underlying47 (hval 1 47 v1 rfl rfl) h1
  have bd1 := bounds_u16 w1
  clear hA0 hval0
  simp only [List.append_nil] at hW'
  refine (walk m0 A0 c0 ms0 hB0 hM0 a1 (by omega) (by omega) W hC0 hL).mono fun e W' ⟨he, bel⟩ => ?_
  subst he
  exact ⟨_, rfl, _, _, _, [], _, _, hW', trodAll_mk1 (shut_bool Tryd.underlying4 _), (trodAll_cons_mk (Below.trod laidOut (by kernel_rfl) (of_decide_eq_true (by kernel_rfl)) k0 bel lt0) (trodAll_cons_mk (shut_int Tryd.underlying47 w1) trodAll_mk0)), Below.trodVars laidOut bel (by kernel_rfl) hV, bel.frame _, fun h => by cases h⟩
theorem over : Rows.fnCutRow.holds Tryd.pinned (OpenSpec.ofChange Rows.fnCutSpec) :=
  OpenClaim.holds_of_wide 6 Tryd.f6 rfl rfl rfl rfl rfl rfl rfl ⟨rfl, rfl, rfl, rfl, rfl⟩ rfl rfl rfl rfl rfl (by kernel_rfl) Tryd.func6 (by kernel_rfl)
    (of_decide_eq_true (by kernel_rfl)) (by unfold Func.isWrapper; first | (rw [if_pos (by decide +kernel)]; kernel_rfl) | (rw [if_neg (by decide +kernel)]; exact ⟨rfl, rfl⟩))
    (fun os started H enc _ => lifted os started H enc)
theorem proved : Rows.FnCutCardSaid :=
  Claim7.holds_tied_plain_at .later [] [.data, .data, .data, .called, .called, .data, .data, .data, .data, .sentinel, .sentinel, .sentinel, .sentinel, .sentinel, .sentinel, .sentinel, .sentinel, .zero] true (true, "d4f6ea03bc9d38cd540cbee4e24fad1890cbd5cb11bd099a91ac13946ffc23cb") true
    over (fun _ h => by cases h) (by kernel_rfl) (fun _ h => by cases h) fnCut_row_tie rfl ⟨rfl, rfl⟩ (by kernel_rfl) rfl
    (fun f fn hf hfn => by
      obtain rfl : f = 6 := Option.some.inj ((show Tryd.prog.funcNamed "loop.example/pub-g03261/laws.FnCut" = some 6 by kernel_rfl).symm.trans hf) |>.symm
      obtain rfl : fn = Tryd.f6 := (Option.some.inj (Tryd.func6.symm.trans hfn)).symm
      exact ⟨by kernel_rfl, fun j t ht => by
        rw [Tryd.params6] at ht
        have h3 : t = 40 ∨ t = 47 := by
          match j with
          | 0 => simp at ht; subst ht; simp
          | 1 => simp at ht; subst ht; simp
          | j + 2 => simp at ht
        rcases h3 with rfl | rfl
        · exact (show Tryd.prog.wantsStandIn 40 = false by kernel_rfl)
        · exact (show Tryd.prog.wantsStandIn 47 = false by kernel_rfl)⟩)
    (by kernel_rfl)
#print axioms proved
end Go.Proofs.YtangjgclpipjdaaDoor.fnCut
