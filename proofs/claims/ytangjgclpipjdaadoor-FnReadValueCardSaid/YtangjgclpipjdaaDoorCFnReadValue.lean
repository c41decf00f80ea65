/-
FnReadValue: a value of a variable, by tag, length and content, is read by impl.ReadValue as the reference tells it: types INTEGER, OCTET STRING (at most 500 bytes), NULL, OBJECT IDENTIFIER, IpAddress, Counter32, Gauge32, TimeTicks, Counter64 and the three exceptions; lengths may have up to two bytes more than it takes.
-/
import Derived.Test.YtangjgclpipjdaaDoorRows
import Derived.Test.YtangjgclpipjdaaDoorTie
import Derived.Test.YtangjgclpipjdaaDoorCards
import Derived.ProofKit
import Derived.OpenShut
import Derived.LaidMore
import Derived.LaidSub
import Derived.Lay
import Derived.Lib.LaidTab
import Derived.OpenVars
import Derived.ChangeVars
import Derived.Stop.Joined
import Derived.SevenTiedAt
import Derived.Test.YtangjgclpipjdaaDoorMB
import Derived.Test.YtangjgclpipjdaaDoorMD
import Derived.Test.YtangjgclpipjdaaDoorMJ
set_option linter.unusedVariables false
namespace Go.Proofs.YtangjgclpipjdaaDoor.fnReadValue
open Go.ChangeShapes Go.WideShapes Go.ChangeAt Go.RowKit Go.Proofs.YtangjgclpipjdaaDoorW.PrintWords Go.Proofs.YtangjgclpipjdaaDoorW.PrintLast Go.Proofs.YtangjgclpipjdaaDoorW.PrintMore

theorem own : ownKnob Tryd.prog.godebug = none := by kernel_rfl
theorem laidOut : laidOutB Tryd.prog = true := by kernel_rfl
abbrev laidU : List (String × DataW Unit) := [("math/bits.deBruijn32tab", Rows.laid_math_bits_deBruijn32tab), ("math/bits.deBruijn64tab", Rows.laid_math_bits_deBruijn64tab), ("internal/strconv.uint64pow10", Rows.laid_internal_strconv_uint64pow10), ("net/netip.z4", Rows.laid_net_netip_z4), ("net/netip.z6noz", Rows.laid_net_netip_z6noz), ("loop.example/pub-g03261/pub/snmp._Asn1BER_index_0", Rows.laid_loop_example_pub_g03261_pub_snmp_Asn1BER_index_0), ("loop.example/pub-g03261/pub/snmp._Asn1BER_index_1", Rows.laid_loop_example_pub_g03261_pub_snmp_Asn1BER_index_1), ("loop.example/pub-g03261/pub/snmp._Asn1BER_index_2", Rows.laid_loop_example_pub_g03261_pub_snmp_Asn1BER_index_2), ("loop.example/pub-g03261/pub/snmp._Asn1BER_index_3", Rows.laid_loop_example_pub_g03261_pub_snmp_Asn1BER_index_3), ("loop.example/pub-g03261/pub/snmp.ErrBase128IntegerTooLarge", Rows.laid_loop_example_pub_g03261_pub_snmp_ErrBase128IntegerTooLarge), ("loop.example/pub-g03261/pub/snmp.ErrBase128IntegerTruncated", Rows.laid_loop_example_pub_g03261_pub_snmp_ErrBase128IntegerTruncated), ("loop.example/pub-g03261/pub/snmp.ErrFloatBufferTooShort", Rows.laid_loop_example_pub_g03261_pub_snmp_ErrFloatBufferTooShort), ("loop.example/pub-g03261/pub/snmp.ErrFloatTooLarge", Rows.laid_loop_example_pub_g03261_pub_snmp_ErrFloatTooLarge), ("loop.example/pub-g03261/pub/snmp.ErrIntegerTooLarge", Rows.laid_loop_example_pub_g03261_pub_snmp_ErrIntegerTooLarge), ("loop.example/pub-g03261/pub/snmp.ErrInvalidPacketLength", Rows.laid_loop_example_pub_g03261_pub_snmp_ErrInvalidPacketLength), ("loop.example/pub-g03261/pub/snmp.ErrZeroByteBuffer", Rows.laid_loop_example_pub_g03261_pub_snmp_ErrZeroByteBuffer), ("loop.example/pub-g03261/pub/snmp.ErrZeroLenInteger", Rows.laid_loop_example_pub_g03261_pub_snmp_ErrZeroLenInteger), ("net/netip.z0", Rows.laid_net_netip_z0)]
theorem pow_of {W : World} (h : laidMetH Tryd.prog laidU W) : PowTab W := by
  have h2 := laidMetH.filter (fun x => x.1 == "internal/strconv.uint64pow10") h
  have e : laidU.filter (fun x => x.1 == "internal/strconv.uint64pow10") = [("internal/strconv.uint64pow10", Lib.tabData .u64 Lib.pow10Tab)] := by rfl
  rw [e] at h2
  exact Lib.tabIs_of_head (g := 20) (by kernel_rfl) (by kernel_rfl) Tryd.underlying232 Tryd.underlying22 (by kernel_rfl) (by kernel_rfl) h2
theorem asn_of {W : World} (h : laidMetH Tryd.prog laidU W) : AsnTab W := by
  have h2 := laidMetH.filter (fun x => x.1 == "loop.example/pub-g03261/pub/snmp._Asn1BER_index_0") h
  have e : laidU.filter (fun x => x.1 == "loop.example/pub-g03261/pub/snmp._Asn1BER_index_0") = [("loop.example/pub-g03261/pub/snmp._Asn1BER_index_0", Lib.tabData .u8 [0, 13, 20, 27, 36, 47, 51, 67, 84])] := by rfl
  rw [e] at h2
  exact Lib.tabIs_of_head (g := 3) (by kernel_rfl) (by kernel_rfl) Tryd.underlying184 Tryd.underlying5 (by kernel_rfl) (by kernel_rfl) h2
theorem z4_of {W : World} (h : laidMetH Tryd.prog laidU W) : ∃ z, W.cell? ⟨13, 0, none⟩ = some (.pointer (some z)) := by
  have h2 := laidMetH.filter (fun x => x.1 == "net/netip.z4") h
  have e : laidU.filter (fun x => x.1 == "net/netip.z4") = [("net/netip.z4", Rows.laid_net_netip_z4)] := by rfl
  rw [e] at h2
  obtain ⟨ps, ⟨g', t', cs, fuel, p, q, hg', ht', hvar, hd, _, _⟩, _⟩ := h2
  obtain rfl := Option.some.inj ((show Tryd.prog.globalNamed "net/netip.z4" = some 13 by kernel_rfl).symm.trans hg')
  obtain rfl := Option.some.inj ((show (Tryd.prog.globals[13]?).map (·.type) = some 156 by kernel_rfl).symm.trans ht')
  obtain ⟨y0, n, hx, hl, hf⟩ := trod_struct1 Tryd.underlying156 hd
  have hc1 : Tryd.prog.cellsOf 154 = 1 := by kernel_rfl
  have hcl : cs.toList.length = 1 := hl.trans (by kernel_rfl)
  change DataW.trod _ _ W 0 _ false n 154 (List.take (Tryd.prog.cellsOf 154) cs.toList) = _ at hf
  rw [hc1, List.take_of_length_le (by omega)] at hf
  rcases DataW.trod_pointer Tryd.underlying154 hf with ⟨hcs, hy⟩ | ⟨a, cs', y, m, _, hcs, _⟩
  · rw [hy] at hx
    simp [Rows.laid_net_netip_z4] at hx
  · refine ⟨a, ?_⟩
    rw [World.var?_cell hg' hvar 0]
    obtain ⟨l⟩ := cs
    simp only at hcs
    subst hcs
    rfl
theorem z0_of {W : World} (h : laidMetH Tryd.prog laidU W) : W.cell? ⟨9, 0, none⟩ = some (.pointer none) := by
  have h2 := laidMetH.filter (fun x => x.1 == "net/netip.z0") h
  have e : laidU.filter (fun x => x.1 == "net/netip.z0") = [("net/netip.z0", Rows.laid_net_netip_z0)] := by rfl
  rw [e] at h2
  obtain ⟨ps, ⟨g', t', cs, fuel, p, q, hg', ht', hvar, hd, _, _⟩, _⟩ := h2
  obtain rfl := Option.some.inj ((show Tryd.prog.globalNamed "net/netip.z0" = some 9 by kernel_rfl).symm.trans hg')
  obtain rfl := Option.some.inj ((show (Tryd.prog.globals[9]?).map (·.type) = some 156 by kernel_rfl).symm.trans ht')
  obtain ⟨y0, n, hx, hl, hf⟩ := trod_struct1 Tryd.underlying156 hd
  have hc1 : Tryd.prog.cellsOf 154 = 1 := by kernel_rfl
  have hcl : cs.toList.length = 1 := hl.trans (by kernel_rfl)
  change DataW.trod _ _ W 0 _ false n 154 (List.take (Tryd.prog.cellsOf 154) cs.toList) = _ at hf
  rw [hc1, List.take_of_length_le (by omega)] at hf
  rcases DataW.trod_pointer Tryd.underlying154 hf with ⟨hcs, hy⟩ | ⟨a, cs', y, m, _, hcs, hy, _⟩
  · rw [World.var?_cell hg' hvar 0]
    obtain ⟨l⟩ := cs
    simp only at hcs
    subst hcs
    rfl
  · rw [hy] at hx
    simp [Rows.laid_net_netip_z0] at hx
set_option maxRecDepth 100000 in
set_option maxHeartbeats 4000000 in
theorem walk (nm tx : ByteArray) (ty i u : Int) (i0 : -9223372036854775808 ≤ i) (i1 : i ≤ 9223372036854775807) (u0 : 0 ≤ u) (u1 : u ≤ 18446744073709551615) (wd : Int) (wd0 : 0 ≤ wd) (wd1 : wd ≤ 255) (w : World) (hL : laidMetH Tryd.prog laidU w) :
    Calls Tryd.prog 4 #[varV nm ty i u tx, .int .u8 wd] w fun e w' => e = .returned (.bool true) ∧ Below w.heap.size w w' := by
  obtain ⟨z, hz4⟩ := z4_of hL
  have HT := Lib.hid (show Tabs z w from ⟨pow_of hL, asn_of hL, hz4, z0_of hL⟩)
  clear hL hz4
  have hblk := blk_new w (varO nm ty i u tx)
  have b0 := (Below.refl w.heap.size w).alloc (Nat.le_refl _) (varO nm ty i u tx)
  go_enter Tryd.func4, Tryd.ntmps4
  go_wp2_with fail
  refine (fits1_any nm tx ty i u _).mono ?_
  rintro e w1 ⟨rfl, hb1⟩
  obtain ⟨p0, p1, p2, p3, p4, -, -, -, -, -⟩ := var_cells (blk_below hblk hb1)
  have b1 := below_step b0 hb1
  have HP1 := Lib.hid (And.intro (blk_below hblk hb1) b1)
  clear hb1 b1 b0 hblk
  by_cases hfit : nm.size ≤ 2147483647 ∧ tx.size ≤ 2147483647
  case neg =>
    have hd : decide (nm.size ≤ 2147483647 ∧ tx.size ≤ 2147483647) = false := decide_eq_false hfit
    rw [hd]
    clear hd hfit
    go_wp2
    go_ret
    exact ⟨rfl, HP1.out.2⟩
  have hd : decide (nm.size ≤ 2147483647 ∧ tx.size ≤ 2147483647) = true := decide_eq_true hfit
  rw [hd]
  obtain ⟨hn, hz⟩ := hfit
  clear hd
  obtain ⟨wide, hwide⟩ : ∃ k : Nat, wd % 3 = k := ⟨(wd % 3).toNat, by omega⟩
  have hw2 : wide ≤ 2 := by omega
  go_wp2_with fail
  refine (specValue_any nm tx ty i u i0 i1 u0 u1 hn hz wide hw2 _).mono ?_
  rintro e w2 ⟨hb2, h2⟩
  have HP2 := Lib.hid (And.intro (blk_below HP1.out.1 hb2) (And.intro (below_step HP1.out.2 hb2) (HT.out.on (below_step HP1.out.2 hb2))))
  clear hb2
  rcases h2 with ⟨v1, v2, rfl⟩ | ⟨arcs, c, i', u', tx', v1, v2, hask, rfl, hn1, hn2⟩
  · clear p0 p1 p2 p3 p4 HP1
    go_wp2
    go_ret
    exact ⟨rfl, HP2.out.2.1.alloc (by have := HP2.out.2.1.size; omega) _⟩
  · have hs2 : w.heap.size ≤ w2.heap.size := HP2.out.2.1.size
    clear p0 p1 p2 p3 p4 HP1 hn1
    obtain ⟨A, cc, rfl, hcc, hC⟩ := hn2.reads
    obtain ⟨xs, hxs⟩ : ∃ xs, xs = sSealed ty c wide := ⟨_, rfl⟩
    rw [← hxs] at hC hcc ⊢
    obtain ⟨dn, hdn⟩ : ∃ dn, dn = strOfNums (sDot arcs) := ⟨_, rfl⟩
    rw [← hdn]
    obtain ⟨dt, hdt⟩ : ∃ dt, dt = strOfNums tx' := ⟨_, rfl⟩
    rw [← hdt]
    have b3 := (Below.refl w2.heap.size w2).alloc (Nat.le_refl _) (varO dn ty i' u' dt)
    have hRV := implReadValue_any hask.cont u0 u1 wide (by omega) xs hxs A cc hcc _ (Kd.C_below hC b3) z (HP2.out.2.2.on b3)
    rw [← hdt] at hRV
    have H3 := Lib.hid (And.intro hRV (And.intro (blk_new w2 (varO dn ty i' u' dt)) (below_step HP2.out.2.1 b3)))
    clear hn2 hC hcc hxs hdn hdt b3 hRV hask HP2 HT
    go_wp2_with fail
    refine H3.out.1.mono ?_
    rintro e w3 ⟨rfl, hb3⟩
    have hw3 := blk_below H3.out.2.1 hb3
    obtain ⟨p0, p1, p2, p3, p4, f0, f1, f2, f3, f4⟩ := var_cells hw3
    have H4 := Lib.hid (And.intro hw3 (below_step H3.out.2.2 hb3))
    have hlt := blk_lt hw3
    have q1 := blk_put (cs' := #[.string ⟨#[]⟩, .int .i64 ty, .int .i64 i', .int .u64 u', .string dt]) (blk_alloc hw3 (varO ⟨#[]⟩ ty i' u' dt)) 0 (.string ⟨#[]⟩) rfl
    have q2 := blk_far (p := ⟨w2.heap.size, 0, none⟩) (blk_new w3 (varO ⟨#[]⟩ ty i' u' dt)) (by show w3.heap.size ≠ w2.heap.size; omega) (.string ⟨#[]⟩)
    obtain ⟨a0, a1, a2, a3, a4, -, -, -, -, -⟩ := var_cells q1
    obtain ⟨e0, e1, e2, e3, e4, -, -, -, -, -⟩ := var_cells q2
    clear hb3 hw3 H3 q1 q2
    go_wp2
    go_ret
    exact ⟨rfl, (below_set H4.out.2 hs2).alloc (by have := H4.out.2.size; simp [World.setCell]; omega) _⟩
theorem door_met (os : Os) (args : Array Value) : laidMetH Tryd.prog laidU ((World.laidAll Tryd.prog os laidU).forCall (fun _ _ => 0) ⟨#[], args, []⟩).memory :=
  laidMetH_of_parts3 (fuel := 8) (laidMet_laidAll (laid := laidU) _ (by kernel_rfl) (by kernel_rfl)) (by kernel_rfl) (by kernel_rfl)
set_option maxRecDepth 100000 in
theorem lifted (os : Os) (started : os.Started) (H : Type) (enc : TypeId × Value → H) :
    ReturnsInHanded {} Tryd.checked os 4 .any (fun w args => (Rows.fnReadValueSpec.pre enc Tryd.prog Tryd.f4 [] false w args ∧ laidMetH Tryd.prog laidU w) ∧ sizedMet enc Tryd.prog Tryd.f4 (OpenSpec.ofChange Rows.fnReadValueSpec) false w args)
      (Rows.fnReadValueSpec.post enc Tryd.prog Tryd.f4 false true false false) := by
  refine returnsInHanded_of_change_and (C := Tryd.checked) (X := fun w _ => laidMetH Tryd.prog laidU w) (fun _ _ _ hh h => h.of_heap hh) own started (by kernel_rfl) Tryd.func4
    (ChangeSpec.witness_shaped (enc := enc) (C := Tryd.checked) (os := os) (X := fun w _ => laidMetH Tryd.prog laidU w) false (World.laidAll Tryd.prog os laidU) #[.agg #[.string ByteArray.empty, .int .i64 0, .int .i64 0, .int .u64 0, .string ByteArray.empty], .int .u8 0] 8 (World.laidAll_os _ _ _) (World.shaped_of_ZipB (by kernel_rfl) (by kernel_rfl)) (by kernel_rfl) (by kernel_rfl) (by kernel_rfl) (door_met os _)) ?_
  intro W base args ds gs before hval0 hW _ _ hL _
  have hval : ∀ (j : Nat) t v, Tryd.f4.params[j]? = some t → args[j]? = some v → Value.okWide Tryd.prog W .any base t v := hval0
  have hW' := hW
  obtain ⟨p, q, hA0, hV0, rfl, hfz, hnd⟩ := hW
  have hA : DataW.TrodAll enc Tryd.prog W 0 (fun _ => true) true Tryd.f4.params.toList args.toList ds p := hA0
  have hV : DataW.TrodVars enc Tryd.prog W (fun _ => true) ["loop.example/pub-g03261/pub/snmp.ErrZeroByteBuffer", "loop.example/pub-g03261/pub/snmp._Asn1BER_index_0", "loop.example/pub-g03261/pub/snmp._Asn1BER_index_1", "loop.example/pub-g03261/pub/snmp._Asn1BER_index_2", "loop.example/pub-g03261/pub/snmp._Asn1BER_index_3", "loop.example/pub-g03261/pub/snmp.ErrInvalidPacketLength", "loop.example/pub-g03261/pub/snmp.ErrIntegerTooLarge", "loop.example/pub-g03261/pub/snmp.ErrZeroLenInteger", "loop.example/pub-g03261/pub/snmp.ErrBase128IntegerTooLarge", "loop.example/pub-g03261/pub/snmp.ErrBase128IntegerTruncated", "loop.example/pub-g03261/pub/snmp.ErrFloatTooLarge", "loop.example/pub-g03261/pub/snmp.ErrFloatBufferTooShort"] gs q := hV0
  rw [Tryd.params4] at hA hval
  obtain ⟨v0, vs0, d0, ds0, p0, q0, hargs, rfl, rfl, h0, r0⟩ := trodAll_cons hA
  obtain ⟨v1, vs1, d1, ds1, p1, q1, rfl, rfl, rfl, h1, r1⟩ := trodAll_cons r0
  obtain ⟨rfl, rfl, rfl⟩ := trodAll_nil r1
  obtain rfl : args = #[v0, v1] := by cases args; simp_all
  obtain ⟨g1, g2, g3, g4, g5, g6, g7, g8, g9, g10, g11, g12, rfl⟩ : ∃ g1 g2 g3 g4 g5 g6 g7 g8 g9 g10 g11 g12, gs = [g1, g2, g3, g4, g5, g6, g7, g8, g9, g10, g11, g12] := by
    have hl := vars_length hV
    match gs, hl with
    | [g1, g2, g3, g4, g5, g6, g7, g8, g9, g10, g11, g12], _ => exact ⟨_, _, _, _, _, _, _, _, _, _, _, _, rfl⟩
  have k0 := h0
  have lt0 : ∀ x ∈ p0, x.block < W.heap.size := by obtain ⟨m, hm⟩ := k0; exact DataW.trod_lt m _ _ _ hm
  obtain ⟨nm0, tx0, ty0, i0, u0, rfl, n0, x0, wt0, wi0, wu0⟩ := open_var (hval 0 24 v0 rfl rfl) h0
  have bt0 := bounds_i64 wt0
  have bi0 := bounds_i64 wi0
  have bu0 := bounds_u64 wu0
  obtain ⟨a1, rfl, rfl, rfl, w1⟩ := open_int Tryd.underlying5 (hval 1 5 v1 rfl rfl) h1
  have bd1 := bounds_u8 w1
  clear hA0 hval0
  simp only [List.append_nil] at hW'
  refine (walk nm0 tx0 ty0 i0 u0 (by omega) (by omega) (by omega) (by omega) a1 (by omega) (by omega) W hL).mono fun e W' ⟨he, bel⟩ => ?_
  subst he
  exact ⟨_, rfl, _, _, _, [], _, _, hW', trodAll_mk1 (shut_bool Tryd.underlying4 _), (trodAll_cons_mk (Below.trod laidOut (by kernel_rfl) (of_decide_eq_true (by kernel_rfl)) k0 bel lt0) (trodAll_cons_mk (shut_int Tryd.underlying5 w1) trodAll_mk0)), Below.trodVars laidOut bel (by kernel_rfl) hV, bel.frame _, fun h => by cases h⟩
theorem over : Rows.fnReadValueRow.holds Tryd.pinned (OpenSpec.ofChange Rows.fnReadValueSpec) :=
  OpenClaim.holds_of_wide 4 Tryd.f4 rfl rfl rfl rfl rfl rfl rfl ⟨rfl, rfl, rfl, rfl, rfl⟩ rfl rfl rfl rfl rfl (by kernel_rfl) Tryd.func4 (by kernel_rfl)
    (of_decide_eq_true (by kernel_rfl)) (by unfold Func.isWrapper; first | (rw [if_pos (by decide +kernel)]; kernel_rfl) | (rw [if_neg (by decide +kernel)]; exact ⟨rfl, rfl⟩))
    (fun os started H enc _ => lifted os started H enc)
theorem proved : Rows.FnReadValueCardSaid :=
  Claim7.holds_tied_plain_at .later [] [.data, .data, .data, .called, .called, .data, .data, .data, .data, .sentinel, .sentinel, .sentinel, .sentinel, .sentinel, .sentinel, .sentinel, .sentinel, .zero] true (true, "d4f6ea03bc9d38cd540cbee4e24fad1890cbd5cb11bd099a91ac13946ffc23cb") true
    over (fun _ h => by cases h) (by kernel_rfl) (fun _ h => by cases h) fnReadValue_row_tie rfl ⟨rfl, rfl⟩ (by kernel_rfl) rfl
    (fun f fn hf hfn => by
      obtain rfl : f = 4 := Option.some.inj ((show Tryd.prog.funcNamed "loop.example/pub-g03261/laws.FnReadValue" = some 4 by kernel_rfl).symm.trans hf) |>.symm
      obtain rfl : fn = Tryd.f4 := (Option.some.inj (Tryd.func4.symm.trans hfn)).symm
      exact ⟨by kernel_rfl, fun j t ht => by
        rw [Tryd.params4] at ht
        have h3 : t = 24 ∨ t = 5 := by
          match j with
          | 0 => simp at ht; subst ht; simp
          | 1 => simp at ht; subst ht; simp
          | j + 2 => simp at ht
        rcases h3 with rfl | rfl
        · exact (show Tryd.prog.wantsStandIn 24 = false by kernel_rfl)
        · exact (show Tryd.prog.wantsStandIn 5 = false by kernel_rfl)⟩)
    (by kernel_rfl)
#print axioms proved
end Go.Proofs.YtangjgclpipjdaaDoor.fnReadValue
