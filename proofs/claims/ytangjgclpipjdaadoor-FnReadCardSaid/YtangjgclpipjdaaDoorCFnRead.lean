/-
FnRead: bytes of at most 2000 bytes that the reference reads as a message that it would tell so are told by impl.Decode as that message.
-/
import Derived.Test.YtangjgclpipjdaaDoorRows
import Derived.Test.YtangjgclpipjdaaDoorTie
import Derived.Test.YtangjgclpipjdaaDoorCards
import Derived.ProofKit
import Derived.OpenShut
import Derived.LaidMore
import Derived.LaidSub
import Derived.Lay
import Derived.Lib.LaidTab
import Derived.OpenVars
import Derived.ChangeVars
import Derived.Stop.Joined
import Derived.SevenTiedAt
import Derived.Test.YtangjgclpipjdaaDoorQM7
import Derived.Test.YtangjgclpipjdaaDoorQM11
import Derived.Test.YtangjgclpipjdaaDoorQM19
import Derived.Test.YtangjgclpipjdaaDoorQM22
import Derived.Test.YtangjgclpipjdaaDoorQM23
import Derived.Test.YtangjgclpipjdaaDoorQM24
import Derived.Test.YtangjgclpipjdaaDoorQM25
set_option linter.unusedVariables false
namespace Go.Proofs.YtangjgclpipjdaaDoor.fnRead
open Go.ChangeShapes Go.WideShapes Go.ChangeAt Go.RowKit Go.Proofs.YtangjgclpipjdaaDoorW.PrintWords Go.Proofs.YtangjgclpipjdaaDoorW.PrintLast Go.Proofs.YtangjgclpipjdaaDoorW.PrintMore

theorem own : ownKnob Tryd.prog.godebug = none := by kernel_rfl
theorem laidOut : laidOutB Tryd.prog = true := by kernel_rfl
abbrev laidU : List (String × DataW Unit) := [("math/bits.deBruijn32tab", Rows.laid_math_bits_deBruijn32tab), ("math/bits.deBruijn64tab", Rows.laid_math_bits_deBruijn64tab), ("internal/strconv.uint64pow10", Rows.laid_internal_strconv_uint64pow10), ("net/netip.z4", Rows.laid_net_netip_z4), ("net/netip.z6noz", Rows.laid_net_netip_z6noz), ("loop.example/pub-g03261/pub/snmp._Asn1BER_index_0", Rows.laid_loop_example_pub_g03261_pub_snmp_Asn1BER_index_0), ("loop.example/pub-g03261/pub/snmp._Asn1BER_index_1", Rows.laid_loop_example_pub_g03261_pub_snmp_Asn1BER_index_1), ("loop.example/pub-g03261/pub/snmp._Asn1BER_index_2", Rows.laid_loop_example_pub_g03261_pub_snmp_Asn1BER_index_2), ("loop.example/pub-g03261/pub/snmp._Asn1BER_index_3", Rows.laid_loop_example_pub_g03261_pub_snmp_Asn1BER_index_3), ("loop.example/pub-g03261/pub/snmp.ErrBase128IntegerTooLarge", Rows.laid_loop_example_pub_g03261_pub_snmp_ErrBase128IntegerTooLarge), ("loop.example/pub-g03261/pub/snmp.ErrBase128IntegerTruncated", Rows.laid_loop_example_pub_g03261_pub_snmp_ErrBase128IntegerTruncated), ("loop.example/pub-g03261/pub/snmp.ErrFloatBufferTooShort", Rows.laid_loop_example_pub_g03261_pub_snmp_ErrFloatBufferTooShort), ("loop.example/pub-g03261/pub/snmp.ErrFloatTooLarge", Rows.laid_loop_example_pub_g03261_pub_snmp_ErrFloatTooLarge), ("loop.example/pub-g03261/pub/snmp.ErrIntegerTooLarge", Rows.laid_loop_example_pub_g03261_pub_snmp_ErrIntegerTooLarge), ("loop.example/pub-g03261/pub/snmp.ErrInvalidPacketLength", Rows.laid_loop_example_pub_g03261_pub_snmp_ErrInvalidPacketLength), ("loop.example/pub-g03261/pub/snmp.ErrZeroByteBuffer", Rows.laid_loop_example_pub_g03261_pub_snmp_ErrZeroByteBuffer), ("loop.example/pub-g03261/pub/snmp.ErrZeroLenInteger", Rows.laid_loop_example_pub_g03261_pub_snmp_ErrZeroLenInteger), ("net/netip.z0", Rows.laid_net_netip_z0)]
set_option maxRecDepth 100000 in
theorem z4_of {W : World} (h : laidMetH Tryd.prog laidU W) : ∃ z, W.cell? ⟨13, 0, none⟩ = some (.pointer (some z)) ∧ (∃ b, W.cell? z = some (.bool b)) ∧ W.cell? (z.add 1) = some (.string ⟨#[]⟩) := by
  have h2 := laidMetH.filter (fun x => x.1 == "net/netip.z4") h
  have e : laidU.filter (fun x => x.1 == "net/netip.z4") = [("net/netip.z4", Rows.laid_net_netip_z4)] := by rfl
  rw [e] at h2
  obtain ⟨ps, ⟨g', t', cs, fuel, p, q, hg', ht', hvar, hd, _, _⟩, _⟩ := h2
  obtain rfl := Option.some.inj ((show Tryd.prog.globalNamed "net/netip.z4" = some 13 by kernel_rfl).symm.trans hg')
  obtain rfl := Option.some.inj ((show (Tryd.prog.globals[13]?).map (·.type) = some 156 by kernel_rfl).symm.trans ht')
  obtain ⟨y0, n, hx, hl, hf⟩ := trod_struct1 Tryd.underlying156 hd
  have hc1 : Tryd.prog.cellsOf 154 = 1 := by kernel_rfl
  have hcl : cs.toList.length = 1 := hl.trans (by kernel_rfl)
  change DataW.trod _ _ W 0 _ false n 154 (List.take (Tryd.prog.cellsOf 154) cs.toList) = _ at hf
  rw [hc1, List.take_of_length_le (by omega)] at hf
  rcases DataW.trod_pointer Tryd.underlying154 hf with ⟨hcs, hy⟩ | ⟨a, cs', y, m, _, hcs, hy, hcl2, hin⟩
  · rw [hy] at hx
    simp [Rows.laid_net_netip_z4] at hx
  · refine ⟨a, ?_, ?_⟩
    · rw [World.var?_cell hg' hvar 0]
      obtain ⟨l⟩ := cs
      simp only at hcs
      subst hcs
      rfl
    · obtain ⟨y1, y2, k, hyy, hl2, h1, h2⟩ := trod_struct2 Tryd.underlying201 hin
      have hc2 : Tryd.prog.cellsOf 201 = 2 := by kernel_rfl
      have hcb : Tryd.prog.cellsOf 4 = 1 := by kernel_rfl
      have hct : Tryd.prog.cellsOf 9 = 1 := by kernel_rfl
      rw [hc2] at hl2 hcl2
      obtain ⟨c0, c1, rfl⟩ : ∃ c0 c1, cs' = [c0, c1] := by
        match cs', hl2 with
        | [c0, c1], _ => exact ⟨c0, c1, rfl⟩
      change DataW.trod _ _ W 0 _ false k 4 (List.take (Tryd.prog.cellsOf 4) [c0, c1]) = _ at h1
      change DataW.trod _ _ W 0 _ false k 9 (List.take (Tryd.prog.cellsOf 9) [c1]) = _ at h2
      rw [hcb] at h1
      rw [hct] at h2
      obtain ⟨b, hb, -⟩ := DataW.trod_bool Tryd.underlying4 h1
      obtain ⟨s, hs, hs2, -⟩ := DataW.trod_string Tryd.underlying9 h2
      obtain ⟨-, -, hcell⟩ := World.cells?_some hcl2
      have e0 := hcell 0 (by omega)
      have e1 := hcell 1 (by omega)
      simp at hb hs
      subst hb
      subst hs
      rw [Addr.add_zero'] at e0
      refine ⟨⟨b, e0⟩, ?_⟩
      rw [e1]
      rw [hy, hyy] at hx
      simp [Rows.laid_net_netip_z4] at hx
      have hx2 := hx.1.2
      rw [hs2] at hx2
      simp only [DataW.lit.injEq, Lit.string.injEq] at hx2
      have hs0 : s = ⟨#[]⟩ := by
        obtain ⟨⟨l⟩⟩ := s
        simp only at hx2
        subst hx2
        rfl
      rw [hs0]
      rfl
theorem z0_of {W : World} (h : laidMetH Tryd.prog laidU W) : W.cell? ⟨9, 0, none⟩ = some (.pointer none) := by
  have h2 := laidMetH.filter (fun x => x.1 == "net/netip.z0") h
  have e : laidU.filter (fun x => x.1 == "net/netip.z0") = [("net/netip.z0", Rows.laid_net_netip_z0)] := by rfl
  rw [e] at h2
  obtain ⟨ps, ⟨g', t', cs, fuel, p, q, hg', ht', hvar, hd, _, _⟩, _⟩ := h2
  obtain rfl := Option.some.inj ((show Tryd.prog.globalNamed "net/netip.z0" = some 9 by kernel_rfl).symm.trans hg')
  obtain rfl := Option.some.inj ((show (Tryd.prog.globals[9]?).map (·.type) = some 156 by kernel_rfl).symm.trans ht')
  obtain ⟨y0, n, hx, hl, hf⟩ := trod_struct1 Tryd.underlying156 hd
  have hc1 : Tryd.prog.cellsOf 154 = 1 := by kernel_rfl
  have hcl : cs.toList.length = 1 := hl.trans (by kernel_rfl)
  change DataW.trod _ _ W 0 _ false n 154 (List.take (Tryd.prog.cellsOf 154) cs.toList) = _ at hf
  rw [hc1, List.take_of_length_le (by omega)] at hf
  rcases DataW.trod_pointer Tryd.underlying154 hf with ⟨hcs, hy⟩ | ⟨a, cs', y, m, _, hcs, hy, _⟩
  · rw [World.var?_cell hg' hvar 0]
    obtain ⟨l⟩ := cs
    simp only at hcs
    subst hcs
    rfl
  · rw [hy] at hx
    simp [Rows.laid_net_netip_z0] at hx
set_option maxRecDepth 100000 in
theorem pow_of {W : World} (h : laidMetH Tryd.prog laidU W) : PowTab W := by
  have h2 := laidMetH.filter (fun x => x.1 == "internal/strconv.uint64pow10") h
  have e : laidU.filter (fun x => x.1 == "internal/strconv.uint64pow10") = [("internal/strconv.uint64pow10", Lib.tabData .u64 Lib.pow10Tab)] := by rfl
  rw [e] at h2
  exact Lib.tabIs_of_head (g := 20) (by kernel_rfl) (by kernel_rfl) Tryd.underlying232 Tryd.underlying22 (by kernel_rfl) (by kernel_rfl) h2
set_option maxRecDepth 100000 in
theorem asn_of {W : World} (h : laidMetH Tryd.prog laidU W) : AsnTab W := by
  have h2 := laidMetH.filter (fun x => x.1 == "loop.example/pub-g03261/pub/snmp._Asn1BER_index_0") h
  have e : laidU.filter (fun x => x.1 == "loop.example/pub-g03261/pub/snmp._Asn1BER_index_0") = [("loop.example/pub-g03261/pub/snmp._Asn1BER_index_0", Lib.tabData .u8 [0, 13, 20, 27, 36, 47, 51, 67, 84])] := by rfl
  rw [e] at h2
  exact Lib.tabIs_of_head (g := 3) (by kernel_rfl) (by kernel_rfl) Tryd.underlying184 Tryd.underlying5 (by kernel_rfl) (by kernel_rfl) h2
theorem cont_u32 {ty i u : Int} {tx c : List Int} {i' u' : Int} {tx' : List Int} (h : Cont ty i u tx c i' u' tx') (h67 : ty = 67) : u' ≤ 4294967295 := by
  cases h <;> omega
set_option maxRecDepth 100000 in
set_option maxHeartbeats 8000000 in
theorem walk (A : Option Addr) (len c : Nat) (zs : List Int) {w : World} (hrow : IsRow .u8 w A len c zs) (_ : World) (hL : laidMetH Tryd.prog laidU w) :
    Calls Tryd.prog 8 #[.slice A len c] w fun e w' => e = .returned (.bool true) ∧ Below w.heap.size w w' := by
  obtain ⟨z, hz4, hzb, hzz⟩ := z4_of hL
  have HT := Lib.hid (show Tabs z w from ⟨pow_of hL, asn_of hL, hz4, z0_of hL⟩)
  clear hL hz4 hzb hzz
  obtain ⟨xs, rfl, hc, hm, hC, hb⟩ := hrow.bytes
  have HH := Lib.hid (And.intro hC hb)
  clear hC hb hrow
  by_cases hz : (2147483647 : Int) < xs.length
  · go_enter Tryd.func8, Tryd.ntmps8
    go_wp2
    go_ret
    exact ⟨rfl, Below.refl _ _⟩
  go_enter Tryd.func8, Tryd.ntmps8
  go_wp2_with fail
  refine (ofMessage_any A c xs w HH.out.1 hc HH.out.2 (by omega)).mono ?_
  rintro e w1 ⟨hb1, h1⟩
  rcases h1 with ⟨-, rfl⟩ | ⟨p, v1, hp, rfl, ho1⟩
  · have H1 := Lib.hid hb1
    clear hb1
    go_wp2
    go_ret
    exact ⟨rfl, H1.out.alloc H1.out.size _⟩
  have hvok := sMsg_ok HH.out.2 (by omega) hp
  obtain ⟨vs, hvs⟩ : ∃ vs, vs = p.vars.map VarP.t := ⟨_, rfl⟩
  obtain ⟨m, hmp⟩ : ∃ m, m = msgP p := ⟨_, rfl⟩
  rw [← hvs] at hvok ho1
  rw [← hmp]
  have hid0 : 0 ≤ m.id := by
    obtain ⟨inn, cv, in1, in2, body, ci, b1, cs, b2, cx, b3, list, hpp⟩ := sMsg_parts hp
    rw [hmp]
    exact hpp.i0
  obtain ⟨A1, c1, rfl, hc1, hC1⟩ := Kd.R_reads ho1
  have H1 := Lib.hid (And.intro (hb1.alloc hb1.size (msgO m (.slice A1 vs.length c1))) (And.intro (blk_new w1 (msgO m (.slice A1 vs.length c1))) (And.intro (Kd.C_alloc hC1 (msgO m (.slice A1 vs.length c1))) (And.intro hvok (And.intro hp (And.intro hvs hmp))))))
  clear hb1 ho1 hC1 hvok hp hvs hmp
  by_cases h2000 : (2000 : Int) < xs.length
  · go_wp2
    go_ret
    exact ⟨rfl, H1.out.1⟩
  obtain ⟨p0, p1, p2, p3, p4, p5, p6, p7, p8, p9, p10, p11⟩ := msg_cells H1.out.2.1
  by_cases hok : MsgOk m vs.length
  case neg =>
    go_wp2_with fail
    refine (told2_no m A1 c1 vs hid0 _ hok).mono ?_
    rintro e w2 ⟨hb2, rfl⟩
    have H2 := Lib.hid (below_step H1.out.1 hb2)
    clear hb2 p0 p1 p2 p3 p4 p5 p6 p7 p8 p9 p10 p11 hok
    go_wp2
    go_ret
    exact ⟨rfl, H2.out.alloc H2.out.size _⟩
  have HO := Lib.hid hok
  clear hok
  go_wp2_with fail
  refine (told2_ok m A1 c1 vs HO.out hid0 H1.out.2.2.2.1 _ H1.out.2.2.1).mono ?_
  rintro e w2 ⟨hb2, rfl | ⟨qs, v, hvq, hq, rfl, hown⟩⟩
  · have H2 := Lib.hid (below_step H1.out.1 hb2)
    clear hb2 p0 p1 p2 p3 p4 p5 p6 p7 p8 p9 p10 p11
    go_wp2
    go_ret
    exact ⟨rfl, H2.out.alloc H2.out.size _⟩
  obtain ⟨ts, hts⟩ : ∃ ts, ts = qs.map toldQ := ⟨_, rfl⟩
  have hlen : ts.length = vs.length := by rw [hts, hvq, List.length_map, List.length_map]
  rw [← hts] at hown
  have b2 := below_step H1.out.1 hb2
  have hm2 := blk_below H1.out.2.1 hb2
  obtain ⟨A2, c2, rfl, hc2, hC2⟩ := Kd.R_reads hown
  rw [hlen]
  have H2 := Lib.hid (And.intro (b2.alloc b2.size (msgO m (.slice A2 vs.length c2))) (And.intro (blk_alloc hm2 (msgO m (.slice A2 vs.length c2))) (And.intro (blk_new w2 (msgO m (.slice A2 vs.length c2))) (And.intro (Kd.C_alloc hC2 (msgO m (.slice A2 vs.length c2))) (And.intro (Kd.C_alloc (Kd.C_below H1.out.2.2.1 hb2) (msgO m (.slice A2 vs.length c2))) (And.intro hlen (And.intro hts hq)))))))
  clear p0 p1 p2 p3 p4 p5 p6 p7 p8 p9 p10 p11 hb2 b2 hm2 hown hC2 hc2 hvq hts hq hlen
  obtain ⟨p0, p1, p2, p3, p4, p5, p6, p7, p8, p9, p10, p11⟩ := msg_cells H2.out.2.1
  obtain ⟨q0, q1, q2, q3, q4, q5, q6, q7, q8, q9, q10, q11⟩ := msg_cells H2.out.2.2.1
  go_wp2_with fail
  refine (same_any m A1 c1 A2 c2 vs ts vs.length rfl H2.out.2.2.2.2.2.1 _ H2.out.2.2.2.2.1 H2.out.2.2.2.1).mono ?_
  rintro e w3 ⟨h3, hb3⟩
  rcases h3 with rfl | ⟨rfl, heq⟩
  · have H3 := Lib.hid (below_step H2.out.1 hb3)
    clear hb3 p0 p1 p2 p3 p4 p5 p6 p7 p8 p9 p10 p11 q0 q1 q2 q3 q4 q5 q6 q7 q8 q9 q10 q11
    go_wp2
    go_ret
    exact ⟨rfl, H3.out⟩
  have hDI : DecIn p := by
    have hk := HO.out
    rw [H1.out.2.2.2.2.2.2] at hk
    exact decIn_of hk H2.out.2.2.2.2.2.2.2 (by rw [← H1.out.2.2.2.2.2.1, heq]; exact H2.out.2.2.2.2.2.2.1)
  have b3 := below_step H2.out.1 hb3
  have H3 := Lib.hid (And.intro b3 (And.intro (blk_below H2.out.2.2.1 hb3) (And.intro (Kd.C_below H2.out.2.2.2.1 hb3) (And.intro heq hDI))))
  clear hb3 b3 heq hDI p0 p1 p2 p3 p4 p5 p6 p7 p8 p9 p10 p11 q0 q1 q2 q3 q4 q5 q6 q7 q8 q9 q10 q11
  go_wp2_with fail
  refine (decode_ok xs p H1.out.2.2.2.2.1 H3.out.2.2.2.2 A c hc HH.out.2 (by omega) w3 (Kd.C_below HH.out.1 H3.out.1) z (HT.out.on H3.out.1)).mono ?_
  rintro e w5 ⟨hb5, v5, rfl, ho5⟩
  rw [← H1.out.2.2.2.2.2.1] at ho5
  rw [← H1.out.2.2.2.2.2.2]
  obtain ⟨A5, c5, rfl, hc5, hC5⟩ := Kd.R_reads ho5
  have b5 := below_step H3.out.1 hb5
  have hC2 := Kd.C_below H3.out.2.2.1 hb5
  rw [← H3.out.2.2.2.1] at hC2
  have H5 := Lib.hid (And.intro (b5.alloc b5.size (msgO m (.slice A5 vs.length c5))) (And.intro (blk_alloc (blk_below H3.out.2.1 hb5) (msgO m (.slice A5 vs.length c5))) (And.intro (blk_new w5 (msgO m (.slice A5 vs.length c5))) (And.intro (Kd.C_alloc hC2 (msgO m (.slice A5 vs.length c5))) (Kd.C_alloc hC5 (msgO m (.slice A5 vs.length c5)))))))
  clear hb5 ho5 hC5 hc5 b5 hC2
  obtain ⟨p0, p1, p2, p3, p4, p5, p6, p7, p8, p9, p10, p11⟩ := msg_cells H5.out.2.1
  obtain ⟨q0, q1, q2, q3, q4, q5, q6, q7, q8, q9, q10, q11⟩ := msg_cells H5.out.2.2.1
  go_wp2_with fail
  refine (same_eq m A5 c5 A2 c2 vs _ H5.out.2.2.2.2 H5.out.2.2.2.1).mono ?_
  rintro e w6 ⟨rfl, hb6⟩
  have H6 := Lib.hid (below_step H5.out.1 hb6)
  clear hb6 p0 p1 p2 p3 p4 p5 p6 p7 p8 p9 p10 p11 q0 q1 q2 q3 q4 q5 q6 q7 q8 q9 q10 q11
  go_wp2
  go_ret
  exact ⟨rfl, H6.out⟩
theorem door_met (os : Os) (args : Array Value) : laidMetH Tryd.prog laidU ((World.laidAll Tryd.prog os laidU).forCall (fun _ _ => 0) ⟨#[], args, []⟩).memory :=
  laidMetH_of_parts3 (fuel := 8) (laidMet_laidAll (laid := laidU) _ (by kernel_rfl) (by kernel_rfl)) (by kernel_rfl) (by kernel_rfl)
set_option maxRecDepth 100000 in
theorem lifted (os : Os) (started : os.Started) (H : Type) (enc : TypeId × Value → H) :
    ReturnsInHanded {} Tryd.checked os 8 .any (fun w args => (Rows.fnReadSpec.pre enc Tryd.prog Tryd.f8 [] false w args ∧ laidMetH Tryd.prog laidU w) ∧ sizedMet enc Tryd.prog Tryd.f8 (OpenSpec.ofChange Rows.fnReadSpec) false w args)
      (Rows.fnReadSpec.post enc Tryd.prog Tryd.f8 false true false false) := by
  refine returnsInHanded_of_change_and (C := Tryd.checked) (X := fun w _ => laidMetH Tryd.prog laidU w) (fun _ _ _ hh h => h.of_heap hh) own started (by kernel_rfl) Tryd.func8
    (ChangeSpec.witness_shaped (enc := enc) (C := Tryd.checked) (os := os) (X := fun w _ => laidMetH Tryd.prog laidU w) false (World.laidAll Tryd.prog os laidU) #[.slice none 0 0] 8 (World.laidAll_os _ _ _) (World.shaped_of_ZipB (by kernel_rfl) (by kernel_rfl)) (by kernel_rfl) (by kernel_rfl) (by kernel_rfl) (door_met os _)) ?_
  intro W base args ds gs before hval0 hW _ _ hL _
  have hval : ∀ (j : Nat) t v, Tryd.f8.params[j]? = some t → args[j]? = some v → Value.okWide Tryd.prog W .any base t v := hval0
  have hW' := hW
  obtain ⟨p, q, hA0, hV0, rfl, hfz, hnd⟩ := hW
  have hA : DataW.TrodAll enc Tryd.prog W 0 (fun _ => true) true Tryd.f8.params.toList args.toList ds p := hA0
  have hV : DataW.TrodVars enc Tryd.prog W (fun _ => true) ["loop.example/pub-g03261/pub/snmp.ErrInvalidPacketLength", "loop.example/pub-g03261/pub/snmp.ErrIntegerTooLarge", "loop.example/pub-g03261/pub/snmp.ErrZeroLenInteger", "loop.example/pub-g03261/pub/snmp.ErrBase128IntegerTooLarge", "loop.example/pub-g03261/pub/snmp.ErrBase128IntegerTruncated", "loop.example/pub-g03261/pub/snmp.ErrZeroByteBuffer", "loop.example/pub-g03261/pub/snmp._Asn1BER_index_0", "loop.example/pub-g03261/pub/snmp._Asn1BER_index_1", "loop.example/pub-g03261/pub/snmp._Asn1BER_index_2", "loop.example/pub-g03261/pub/snmp._Asn1BER_index_3", "loop.example/pub-g03261/pub/snmp.ErrFloatTooLarge", "loop.example/pub-g03261/pub/snmp.ErrFloatBufferTooShort"] gs q := hV0
  rw [Tryd.params8] at hA hval
  obtain ⟨v0, vs0, d0, ds0, p0, q0, hargs, rfl, rfl, h0, r0⟩ := trodAll_cons hA
  obtain ⟨rfl, rfl, rfl⟩ := trodAll_nil r0
  obtain rfl : args = #[v0] := by cases args; simp_all
  obtain ⟨g1, g2, g3, g4, g5, g6, g7, g8, g9, g10, g11, g12, rfl⟩ : ∃ g1 g2 g3 g4 g5 g6 g7 g8 g9 g10 g11 g12, gs = [g1, g2, g3, g4, g5, g6, g7, g8, g9, g10, g11, g12] := by
    have hl := vars_length hV
    match gs, hl with
    | [g1, g2, g3, g4, g5, g6, g7, g8, g9, g10, g11, g12], _ => exact ⟨_, _, _, _, _, _, _, _, _, _, _, _, rfl⟩
  obtain ⟨A0, len0, cap0, rfl⟩ := okWide_slice Tryd.underlying26 (hval 0 26 v0 rfl rfl)
  have k0 := h0
  have lt0 : ∀ x ∈ p0, x.block < W.heap.size := by obtain ⟨m, hm⟩ := k0; exact DataW.trod_lt m _ _ _ hm
  obtain ⟨z0, w0⟩ : ∃ zs, IsRow .u8 W A0 len0 cap0 zs := by
    obtain ⟨fuel, hf⟩ := h0
    rcases open_ints Tryd.underlying26 Tryd.underlying5 (by kernel_rfl) hf with ⟨hcs, _⟩ | ⟨x, l, c, zs, hcs, _, hl, hm, hz, _, hcell, hwz⟩
    · simp [Value.cells] at hcs
      obtain ⟨rfl, rfl, rfl⟩ := hcs
      exact ⟨[], .inl ⟨rfl, rfl, rfl, rfl⟩⟩
    · simp [Value.cells] at hcs
      obtain ⟨rfl, rfl, rfl⟩ := hcs
      exact ⟨zs, .inr ⟨_, rfl, hl, hm, by simpa using hz, hcell, hwz⟩⟩
  clear hA0 hval0
  simp only [List.append_nil] at hW'
  refine (walk A0 len0 cap0 z0 w0 W hL).mono fun e W' ⟨he, bel⟩ => ?_
  subst he
  exact ⟨_, rfl, _, _, _, [], _, _, hW', trodAll_mk1 (shut_bool Tryd.underlying4 _), (trodAll_cons_mk (Below.trod laidOut (by kernel_rfl) (of_decide_eq_true (by kernel_rfl)) k0 bel lt0) trodAll_mk0), Below.trodVars laidOut bel (by kernel_rfl) hV, bel.frame _, fun h => by cases h⟩
theorem over : Rows.fnReadRow.holds Tryd.pinned (OpenSpec.ofChange Rows.fnReadSpec) :=
  OpenClaim.holds_of_wide 8 Tryd.f8 rfl rfl rfl rfl rfl rfl rfl ⟨rfl, rfl, rfl, rfl, rfl⟩ rfl rfl rfl rfl rfl (by kernel_rfl) Tryd.func8 (by kernel_rfl)
    (of_decide_eq_true (by kernel_rfl)) (by unfold Func.isWrapper; first | (rw [if_pos (by decide +kernel)]; kernel_rfl) | (rw [if_neg (by decide +kernel)]; exact ⟨rfl, rfl⟩))
    (fun os started H enc _ => lifted os started H enc)
theorem proved : Rows.FnReadCardSaid :=
  Claim7.holds_tied_plain_at .later [] [.data, .data, .data, .called, .called, .data, .data, .data, .data, .sentinel, .sentinel, .sentinel, .sentinel, .sentinel, .sentinel, .sentinel, .sentinel, .zero] true (true, "d4f6ea03bc9d38cd540cbee4e24fad1890cbd5cb11bd099a91ac13946ffc23cb") true
    over (fun _ h => by cases h) (by kernel_rfl) (fun _ h => by cases h) fnRead_row_tie rfl ⟨rfl, rfl⟩ (by kernel_rfl) rfl
    (fun f fn hf hfn => by
      obtain rfl : f = 8 := Option.some.inj ((show Tryd.prog.funcNamed "loop.example/pub-g03261/laws.FnRead" = some 8 by kernel_rfl).symm.trans hf) |>.symm
      obtain rfl : fn = Tryd.f8 := (Option.some.inj (Tryd.func8.symm.trans hfn)).symm
      exact ⟨by kernel_rfl, fun j t ht => by
        rw [Tryd.params8] at ht
        have h3 : t = 26 := by
          match j with
          | 0 => simp at ht; subst ht; simp
          | j + 1 => simp at ht
        rcases h3 with rfl
        exact (show Tryd.prog.wantsStandIn 26 = false by kernel_rfl)⟩)
    (by kernel_rfl)
#print axioms proved
end Go.Proofs.YtangjgclpipjdaaDoor.fnRead
