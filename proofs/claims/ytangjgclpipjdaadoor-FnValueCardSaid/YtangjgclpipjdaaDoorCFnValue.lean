/-
FnValue: the bytes that impl.Value makes of a variable are read by the reference as that variable's name and value; for the types INTEGER, OCTET STRING (at most 500 bytes), NULL, OBJECT IDENTIFIER, IpAddress, Counter32, Gauge32, TimeTicks, Counter64 and the three exceptions.
-/
import Derived.Test.YtangjgclpipjdaaDoorRows
import Derived.Test.YtangjgclpipjdaaDoorTie
import Derived.Test.YtangjgclpipjdaaDoorCards
import Derived.ProofKit
import Derived.OpenShut
import Derived.LaidMore
import Derived.LaidSub
import Derived.Lay
import Derived.Lib.LaidTab
import Derived.OpenVars
import Derived.ChangeVars
import Derived.Stop.Joined
import Derived.SevenTiedAt
import Derived.Test.YtangjgclpipjdaaDoorVB
import Derived.Test.YtangjgclpipjdaaDoorVD
import Derived.Test.YtangjgclpipjdaaDoorVM
import Derived.Test.YtangjgclpipjdaaDoorVH
set_option linter.unusedVariables false
namespace Go.Proofs.YtangjgclpipjdaaDoor.fnValue
open Go.ChangeShapes Go.WideShapes Go.ChangeAt Go.RowKit Go.Proofs.YtangjgclpipjdaaDoorW.PrintWords Go.Proofs.YtangjgclpipjdaaDoorW.PrintLast Go.Proofs.YtangjgclpipjdaaDoorW.PrintMore

theorem own : ownKnob Tryd.prog.godebug = none := by kernel_rfl
theorem laidOut : laidOutB Tryd.prog = true := by kernel_rfl
abbrev laidU : List (String × DataW Unit) := [("bytes.ErrTooLarge", Rows.laid_bytes_ErrTooLarge), ("net/netip.z4", Rows.laid_net_netip_z4), ("net/netip.z6noz", Rows.laid_net_netip_z6noz), ("net/netip.z0", Rows.laid_net_netip_z0)]
set_option maxRecDepth 100000 in
theorem z4_of {W : World} (h : laidMetH Tryd.prog laidU W) : ∃ z, W.cell? ⟨13, 0, none⟩ = some (.pointer (some z)) ∧ (∃ b, W.cell? z = some (.bool b)) ∧ W.cell? (z.add 1) = some (.string ⟨#[]⟩) := by
  have h2 := laidMetH.filter (fun x => x.1 == "net/netip.z4") h
  have e : laidU.filter (fun x => x.1 == "net/netip.z4") = [("net/netip.z4", Rows.laid_net_netip_z4)] := by rfl
  rw [e] at h2
  obtain ⟨ps, ⟨g', t', cs, fuel, p, q, hg', ht', hvar, hd, _, _⟩, _⟩ := h2
  obtain rfl := Option.some.inj ((show Tryd.prog.globalNamed "net/netip.z4" = some 13 by kernel_rfl).symm.trans hg')
  obtain rfl := Option.some.inj ((show (Tryd.prog.globals[13]?).map (·.type) = some 156 by kernel_rfl).symm.trans ht')
  obtain ⟨y0, n, hx, hl, hf⟩ := trod_struct1 Tryd.underlying156 hd
  have hc1 : Tryd.prog.cellsOf 154 = 1 := by kernel_rfl
  have hcl : cs.toList.length = 1 := hl.trans (by kernel_rfl)
  change DataW.trod _ _ W 0 _ false n 154 (List.take (Tryd.prog.cellsOf 154) cs.toList) = _ at hf
  rw [hc1, List.take_of_length_le (by omega)] at hf
  rcases DataW.trod_pointer Tryd.underlying154 hf with ⟨hcs, hy⟩ | ⟨a, cs', y, m, _, hcs, hy, hcl2, hin⟩
  · rw [hy] at hx
    simp [Rows.laid_net_netip_z4] at hx
  · refine ⟨a, ?_, ?_⟩
    · rw [World.var?_cell hg' hvar 0]
      obtain ⟨l⟩ := cs
      simp only at hcs
      subst hcs
      rfl
    · obtain ⟨y1, y2, k, hyy, hl2, h1, h2⟩ := trod_struct2 Tryd.underlying201 hin
      have hc2 : Tryd.prog.cellsOf 201 = 2 := by kernel_rfl
      have hcb : Tryd.prog.cellsOf 4 = 1 := by kernel_rfl
      have hct : Tryd.prog.cellsOf 9 = 1 := by kernel_rfl
      rw [hc2] at hl2 hcl2
      obtain ⟨c0, c1, rfl⟩ : ∃ c0 c1, cs' = [c0, c1] := by
        match cs', hl2 with
        | [c0, c1], _ => exact ⟨c0, c1, rfl⟩
      change DataW.trod _ _ W 0 _ false k 4 (List.take (Tryd.prog.cellsOf 4) [c0, c1]) = _ at h1
      change DataW.trod _ _ W 0 _ false k 9 (List.take (Tryd.prog.cellsOf 9) [c1]) = _ at h2
      rw [hcb] at h1
      rw [hct] at h2
      obtain ⟨b, hb, -⟩ := DataW.trod_bool Tryd.underlying4 h1
      obtain ⟨s, hs, hs2, -⟩ := DataW.trod_string Tryd.underlying9 h2
      obtain ⟨-, -, hcell⟩ := World.cells?_some hcl2
      have e0 := hcell 0 (by omega)
      have e1 := hcell 1 (by omega)
      simp at hb hs
      subst hb
      subst hs
      rw [Addr.add_zero'] at e0
      refine ⟨⟨b, e0⟩, ?_⟩
      rw [e1]
      rw [hy, hyy] at hx
      simp [Rows.laid_net_netip_z4] at hx
      have hx2 := hx.1.2
      rw [hs2] at hx2
      simp only [DataW.lit.injEq, Lit.string.injEq] at hx2
      have hs0 : s = ⟨#[]⟩ := by
        obtain ⟨⟨l⟩⟩ := s
        simp only at hx2
        subst hx2
        rfl
      rw [hs0]
      rfl
theorem z0_of {W : World} (h : laidMetH Tryd.prog laidU W) : W.cell? ⟨9, 0, none⟩ = some (.pointer none) := by
  have h2 := laidMetH.filter (fun x => x.1 == "net/netip.z0") h
  have e : laidU.filter (fun x => x.1 == "net/netip.z0") = [("net/netip.z0", Rows.laid_net_netip_z0)] := by rfl
  rw [e] at h2
  obtain ⟨ps, ⟨g', t', cs, fuel, p, q, hg', ht', hvar, hd, _, _⟩, _⟩ := h2
  obtain rfl := Option.some.inj ((show Tryd.prog.globalNamed "net/netip.z0" = some 9 by kernel_rfl).symm.trans hg')
  obtain rfl := Option.some.inj ((show (Tryd.prog.globals[9]?).map (·.type) = some 156 by kernel_rfl).symm.trans ht')
  obtain ⟨y0, n, hx, hl, hf⟩ := trod_struct1 Tryd.underlying156 hd
  have hc1 : Tryd.prog.cellsOf 154 = 1 := by kernel_rfl
  have hcl : cs.toList.length = 1 := hl.trans (by kernel_rfl)
  change DataW.trod _ _ W 0 _ false n 154 (List.take (Tryd.prog.cellsOf 154) cs.toList) = _ at hf
  rw [hc1, List.take_of_length_le (by omega)] at hf
  rcases DataW.trod_pointer Tryd.underlying154 hf with ⟨hcs, hy⟩ | ⟨a, cs', y, m, _, hcs, hy, _⟩
  · rw [World.var?_cell hg' hvar 0]
    obtain ⟨l⟩ := cs
    simp only at hcs
    subst hcs
    rfl
  · rw [hy] at hx
    simp [Rows.laid_net_netip_z0] at hx
theorem ty_byte {ty i u : Int} {tx c : List Int} {i' u' : Int} {tx' : List Int} (h : Cont ty i u tx c i' u' tx') : 0 ≤ ty ∧ ty ≤ 255 := by
  cases h <;> omega
theorem sOfVar_asked {nm tx : ByteArray} {ty i u : Int} {arcs c : List Int} {i' u' : Int} {tx' : List Int} (h : Asked nm tx ty i u arcs c i' u' tx') (u0 : 0 ≤ u) (u1 : u ≤ 18446744073709551615) (rest : List Int) : sOfVar (sVar arcs ty c 0 ++ rest) = some ((arcs, ty, i', u', tx'), rest) := by
  obtain ⟨t0, t1⟩ := ty_byte h.cont
  have hl := h.cont.len
  have hn := (sArcs_text _ _ h.name).2.1
  have a := sSealed_len 6 (sName arcs)
  have b := sSealed_len ty c
  have o := sOpen_sealed ty c [] 0 t0 t1 (by omega) (by omega) (by have := lenBytes_len c.length; omega)
  rw [List.append_nil] at o
  unfold sOfVar sVar
  rw [sNext_sealed 48 _ rest 0 (by omega) (by omega) (by simp; omega) (by omega) (by have := lenBytes_len (sSealed 6 (sName arcs) 0 ++ sSealed ty c 0).length; omega)]
  simp only
  rw [sNext_sealed 6 _ _ 0 (by omega) (by omega) (by omega) (by omega) (by have := lenBytes_len (sName arcs).length; omega)]
  simp only
  rw [o]
  simp only
  rw [sOf_asked h.name, h.cont.sTold u0 u1]
  simp [tellVar]
theorem sVar_isB {nm tx : ByteArray} {ty i u : Int} {arcs c : List Int} {i' u' : Int} {tx' : List Int} (h : Asked nm tx ty i u arcs c i' u' tx') (u0 : 0 ≤ u) (u1 : u ≤ 18446744073709551615) : IsB (sVar arcs ty c 0) := by
  have hl := h.cont.len
  have hn := (sArcs_text _ _ h.name).2.1
  have a := sSealed_len 6 (sName arcs)
  have b := sSealed_len ty c
  exact sSealed_isB _ _ _ (isB_append (sSealed_isB _ _ _ (sName_isB arcs (sArcs_bounds _ _ h.name)) (by omega) (by omega)) (sSealed_isB _ _ _ (h.cont.isB u0 u1) (by omega) (by omega))) (by simp; omega) (by omega)
set_option maxRecDepth 100000 in
set_option maxHeartbeats 4000000 in
theorem walk (nm tx : ByteArray) (ty i u : Int) (i0 : -9223372036854775808 ≤ i) (i1 : i ≤ 9223372036854775807) (u0 : 0 ≤ u) (u1 : u ≤ 18446744073709551615) (w : World) (hL : laidMetH Tryd.prog laidU w) :
    Calls Tryd.prog 3 #[varV nm ty i u tx] w fun e w' => e = .returned (.bool true) ∧ Below w.heap.size w w' := by
  obtain ⟨z, hz4, hzb, hzz⟩ := z4_of hL
  have HT := Lib.hid (show ZZone z w from ⟨⟨hz4, z0_of hL⟩, hzb, hzz⟩)
  clear hL hz4 hzb hzz
  have hblk := blk_new w (varO nm ty i u tx)
  have b0 := (Below.refl w.heap.size w).alloc (Nat.le_refl _) (varO nm ty i u tx)
  go_enter Tryd.func3, Tryd.ntmps3
  go_wp2_with fail
  refine (fits1_any nm tx ty i u _).mono ?_
  rintro e w1 ⟨rfl, hb1⟩
  obtain ⟨p0, p1, p2, p3, p4, -, -, -, -, -⟩ := var_cells (blk_below hblk hb1)
  have b1 := below_step b0 hb1
  have HP1 := Lib.hid (And.intro (blk_below hblk hb1) b1)
  clear hb1 b1 b0 hblk
  by_cases hfit : nm.size ≤ 2147483647 ∧ tx.size ≤ 2147483647
  case neg =>
    have hd : decide (nm.size ≤ 2147483647 ∧ tx.size ≤ 2147483647) = false := decide_eq_false hfit
    rw [hd]
    clear hd hfit
    go_wp2
    go_ret
    exact ⟨rfl, HP1.out.2⟩
  have hd : decide (nm.size ≤ 2147483647 ∧ tx.size ≤ 2147483647) = true := decide_eq_true hfit
  rw [hd]
  obtain ⟨hn, hz⟩ := hfit
  clear hd
  go_wp2_with fail
  refine (specValue_any nm tx ty i u i0 i1 u0 u1 hn hz 0 (by omega) _).mono ?_
  rintro e w2 ⟨hb2, h2⟩
  have HP2 := Lib.hid (And.intro (blk_below HP1.out.1 hb2) (And.intro (below_step HP1.out.2 hb2) (HT.out.on (below_step HP1.out.2 hb2))))
  clear hb2
  rcases h2 with ⟨v1, v2, rfl⟩ | ⟨arcs, c, i', u', tx', v1, v2, hask, rfl, hn1, hn2⟩
  · clear p0 p1 p2 p3 p4 HP1
    go_wp2
    go_ret
    exact ⟨rfl, HP2.out.2.1.alloc (by have := HP2.out.2.1.size; omega) _⟩
  · have hs2 : w.heap.size ≤ w2.heap.size := HP2.out.2.1.size
    clear p0 p1 p2 p3 p4 HP1 hn1 hn2
    have hOV := sOfVar_asked hask u0 u1 []
    rw [List.append_nil] at hOV
    have hIB := sVar_isB hask u0 u1
    have hLen := sVar_len arcs ty c (sArcs_text _ _ hask.name).2.1 hask.cont.len
    obtain ⟨dn, hdn⟩ : ∃ dn, dn = strOfNums (sDot arcs) := ⟨_, rfl⟩
    rw [← hdn]
    obtain ⟨dt, hdt⟩ : ∃ dt, dt = strOfNums tx' := ⟨_, rfl⟩
    rw [← hdt]
    have hIV := fun W hZ => implValue_any nm tx ty i u arcs c i' u' tx' hask i0 i1 u0 u1 z W hZ
    generalize sVar arcs ty c 0 = xs at *
    have b3 := (Below.refl w2.heap.size w2).alloc (Nat.le_refl _) (varO dn ty i' u' dt)
    have H3 := Lib.hid (And.intro hIV (And.intro hOV (And.intro hIB (And.intro hLen (And.intro hdn hdt)))))
    clear hIV hOV hIB hLen hdn hdt b3 hask
    have hbA := blk_alloc HP2.out.1 (varO dn ty i' u' dt)
    obtain ⟨p0, p1, p2, p3, p4, -, -, -, -, -⟩ := var_cells hbA
    go_wp2_with fail
    have b3 := (Below.refl w2.heap.size w2).alloc (Nat.le_refl _) (varO dn ty i' u' dt)
    refine (H3.out.1 _ (HP2.out.2.2.on b3)).mono ?_
    rintro e w3 ⟨v3, rfl, ho3, hb3⟩
    obtain ⟨A3, c3, rfl, hc3, hC3⟩ := Kd.R_reads ho3
    have hwant := blk_below (blk_new w2 (varO dn ty i' u' dt)) hb3
    have H4 := Lib.hid (And.intro hC3 (And.intro hwant (below_step (below_step HP2.out.2.1 b3) hb3)))
    clear p0 p1 p2 p3 p4 hbA b3 ho3 hb3 hC3 hwant
    go_wp2_with fail
    refine (ofVar_any A3 c3 xs w3 H4.out.1 hc3 H3.out.2.2.1 (by have := H3.out.2.2.2.1; omega)).mono ?_
    rintro e w4 ⟨hb4, hr4⟩
    have hO := H3.out.2.1
    rcases hr4 with ⟨hn4, -⟩ | ⟨arcs4, ty4, i4, u4, tx4, rest4, A4, c4, ho4, rfl, -⟩
    · rw [hO] at hn4; simp at hn4
    rw [hO] at ho4
    simp only [Option.some.injEq, Prod.mk.injEq] at ho4
    obtain ⟨⟨rfl, rfl, rfl, rfl, rfl⟩, rfl⟩ := ho4
    have hdn := H3.out.2.2.2.2.1
    have hdt := H3.out.2.2.2.2.2
    rw [← hdn, ← hdt]
    have hw4 := blk_below H4.out.2.1 hb4
    have hlt := blk_lt hw4
    have H5 := Lib.hid (below_step H4.out.2.2 hb4)
    obtain ⟨a0, a1, a2, a3, a4, -, -, -, -, -⟩ := var_cells (blk_alloc hw4 (varO dn ty i' u' dt))
    obtain ⟨e0, e1, e2, e3, e4, -, -, -, -, -⟩ := var_cells (blk_new w4 (varO dn ty i' u' dt))
    clear hO hdn hdt hw4 hb4 H4 H3 HP2
    go_wp2
    go_ret
    exact ⟨rfl, H5.out.alloc H5.out.size _⟩
theorem door_met (os : Os) (args : Array Value) : laidMetH Tryd.prog laidU ((World.laidAll Tryd.prog os laidU).forCall (fun _ _ => 0) ⟨#[], args, []⟩).memory :=
  laidMetH_of_parts3 (fuel := 8) (laidMet_laidAll (laid := laidU) _ (by kernel_rfl) (by kernel_rfl)) (by kernel_rfl) (by kernel_rfl)
set_option maxRecDepth 100000 in
theorem lifted (os : Os) (started : os.Started) (H : Type) (enc : TypeId × Value → H) :
    ReturnsInHanded {} Tryd.checked os 3 .any (fun w args => (Rows.fnValueSpec.pre enc Tryd.prog Tryd.f3 [] false w args ∧ laidMetH Tryd.prog laidU w) ∧ sizedMet enc Tryd.prog Tryd.f3 (OpenSpec.ofChange Rows.fnValueSpec) false w args)
      (Rows.fnValueSpec.post enc Tryd.prog Tryd.f3 false true false false) := by
  refine returnsInHanded_of_change_and (C := Tryd.checked) (X := fun w _ => laidMetH Tryd.prog laidU w) (fun _ _ _ hh h => h.of_heap hh) own started (by kernel_rfl) Tryd.func3
    (ChangeSpec.witness_shaped (enc := enc) (C := Tryd.checked) (os := os) (X := fun w _ => laidMetH Tryd.prog laidU w) false (World.laidAll Tryd.prog os laidU) #[.agg #[.string ByteArray.empty, .int .i64 0, .int .i64 0, .int .u64 0, .string ByteArray.empty]] 8 (World.laidAll_os _ _ _) (World.shaped_of_ZipB (by kernel_rfl) (by kernel_rfl)) (by kernel_rfl) (by kernel_rfl) (by kernel_rfl) (door_met os _)) ?_
  intro W base args ds gs before hval0 hW _ _ hL _
  have hval : ∀ (j : Nat) t v, Tryd.f3.params[j]? = some t → args[j]? = some v → Value.okWide Tryd.prog W .any base t v := hval0
  have hW' := hW
  obtain ⟨p, q, hA0, hV0, rfl, hfz, hnd⟩ := hW
  have hA : DataW.TrodAll enc Tryd.prog W 0 (fun _ => true) true Tryd.f3.params.toList args.toList ds p := hA0
  have hV : DataW.TrodVars enc Tryd.prog W (fun _ => true) [] gs q := hV0
  rw [Tryd.params3] at hA hval
  obtain ⟨v0, vs0, d0, ds0, p0, q0, hargs, rfl, rfl, h0, r0⟩ := trodAll_cons hA
  obtain ⟨rfl, rfl, rfl⟩ := trodAll_nil r0
  obtain rfl : args = #[v0] := by cases args; simp_all
  obtain ⟨rfl, rfl⟩ := trodVars_none hV
  have k0 := h0
  have lt0 : ∀ x ∈ p0, x.block < W.heap.size := by obtain ⟨m, hm⟩ := k0; exact DataW.trod_lt m _ _ _ hm
  obtain ⟨nm0, tx0, ty0, i0, u0, rfl, n0, x0, wt0, wi0, wu0⟩ := open_var (hval 0 24 v0 rfl rfl) h0
  have bt0 := bounds_i64 wt0
  have bi0 := bounds_i64 wi0
  have bu0 := bounds_u64 wu0
  clear hA0 hval0
  simp only [List.append_nil] at hW'
  refine (walk nm0 tx0 ty0 i0 u0 (by omega) (by omega) (by omega) (by omega) W hL).mono fun e W' ⟨he, bel⟩ => ?_
  subst he
  exact ⟨_, rfl, _, _, _, [], _, _, hW', trodAll_mk1 (shut_bool Tryd.underlying4 _), (trodAll_cons_mk (Below.trod laidOut (by kernel_rfl) (of_decide_eq_true (by kernel_rfl)) k0 bel lt0) trodAll_mk0), rfl, bel.frame _, fun h => by cases h⟩
theorem over : Rows.fnValueRow.holds Tryd.pinned (OpenSpec.ofChange Rows.fnValueSpec) :=
  OpenClaim.holds_of_wide 3 Tryd.f3 rfl rfl rfl rfl rfl rfl rfl ⟨rfl, rfl, rfl, rfl, rfl⟩ rfl rfl rfl rfl rfl (by kernel_rfl) Tryd.func3 (by kernel_rfl)
    (of_decide_eq_true (by kernel_rfl)) (by unfold Func.isWrapper; first | (rw [if_pos (by decide +kernel)]; kernel_rfl) | (rw [if_neg (by decide +kernel)]; exact ⟨rfl, rfl⟩))
    (fun os started H enc _ => lifted os started H enc)
theorem proved : Rows.FnValueCardSaid :=
  Claim7.holds_tied_plain_at .later [] [.sentinel, .called, .called, .zero] true (true, "d4f6ea03bc9d38cd540cbee4e24fad1890cbd5cb11bd099a91ac13946ffc23cb") true
    over (fun _ h => by cases h) (by kernel_rfl) (fun _ h => by cases h) fnValue_row_tie rfl ⟨rfl, rfl⟩ (by kernel_rfl) rfl
    (fun f fn hf hfn => by
      obtain rfl : f = 3 := Option.some.inj ((show Tryd.prog.funcNamed "loop.example/pub-g03261/laws.FnValue" = some 3 by kernel_rfl).symm.trans hf) |>.symm
      obtain rfl : fn = Tryd.f3 := (Option.some.inj (Tryd.func3.symm.trans hfn)).symm
      exact ⟨by kernel_rfl, fun j t ht => by
        rw [Tryd.params3] at ht
        have h3 : t = 24 := by
          match j with
          | 0 => simp at ht; subst ht; simp
          | j + 1 => simp at ht
        rcases h3 with rfl
        exact (show Tryd.prog.wantsStandIn 24 = false by kernel_rfl)⟩)
    (by kernel_rfl)
#print axioms proved
