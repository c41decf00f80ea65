/- The lemmas and walks that FnDecode and FnCut and FnRead rests on, part 12: Net2 Net3 DecS DecV. -/
import Derived.Lib.LaidTab
import Derived.Test.YtangjgclpipjdaaDoorQM7
import Derived.Test.YtangjgclpipjdaaDoorQM11
set_option linter.unusedVariables false
namespace Go.Proofs.YtangjgclpipjdaaDoor
open Go.RowKit Go.Proofs.YtangjgclpipjdaaDoorW.PrintWords Go.Proofs.YtangjgclpipjdaaDoorW.PrintLast Go.Proofs.YtangjgclpipjdaaDoorW.PrintMore
theorem ip_cells {W : World} {g : Nat} {n : Int} {z : Addr} (h : W.heap[g]? = some (ipO n z)) : W.cell? ⟨g, 0, none⟩ = some (.int .u64 0) ∧ W.cell? ⟨g, 1, none⟩ = some (.int .u64 (281470681743360 + n)) ∧ W.cell? ⟨g, 2, none⟩ = some (.pointer (some z)) :=
  ⟨(blk_cell h 0).trans rfl, (blk_cell h 1).trans rfl, (blk_cell h 2).trans rfl⟩
/-- Where appendTo4 stands: the receiver's block, the row, how it came about since W0. -/
structure T4 (W0 : World) (g : Nat) (v0 : Value) (B : Nat) (n : Int) (z : Addr) (v : Value) (xs : List Int) (W : World) : Prop where
  ip : W.heap[g]? = some (ipO n z)
  own : OwnB W B v xs
  app : App W0 v0 W v
theorem App.call {W W' : World} (v : Value) (hb : Below W.heap.size W W') : App W v W' v := ⟨⟨hb.os, hb.tape, hb.output, hb.size, fun k hk _ => hb.block k hk⟩, .inl rfl⟩
theorem T4.call {W0 W W' : World} {g B : Nat} {v0 v : Value} {n : Int} {z : Addr} {xs : List Int} (h : T4 W0 g v0 B n z v xs W) (hb : Below W.heap.size W W') : T4 W0 g v0 B n z v xs W' := ⟨blk_below h.ip hb, OwnB.below h.own hb, h.app.trans (App.call v hb)⟩
theorem T4.step {W0 W W' : World} {g B : Nat} {v0 v v' : Value} {n : Int} {z : Addr} {xs ys : List Int} (h : T4 W0 g v0 B n z v xs W) (hg : g < W0.heap.size) (h0 : v0.ownBlock ≠ some g) (k : App W v W' v') (ho : OwnB W' B v' ys) : T4 W0 g v0 B n z v' ys W' := by
  refine ⟨blk_grown h.ip k.1 ?_, ho, h.app.trans k⟩
  rcases h.app.2 with e | ⟨b, e, hb⟩
  · rw [e]; exact fun h => h0 h.symm
  · rw [e]; intro h; injection h with h; omega
theorem App.al (w : World) (v : Value) (o : Obj) : App w v (w.alloc o) v := ⟨World.grownBy_alloc w o _, .inl rfl⟩
theorem OwnB.lt {w : World} {B : Nat} {v : Value} {xs : List Int} (h : OwnB w B v xs) (k : Nat) (hk : v.ownBlock = some k) : k < w.heap.size := ((Kd.R_bound h).1 k hk).2.2.1
set_option maxRecDepth 100000 in
theorem appendTo4_any (a b c d : Int) (z : Addr) (B : Nat) (v : Value) (xs : List Int) (w : World) (ha : 0 ≤ a ∧ a ≤ 255) (hb : 0 ≤ b ∧ b ≤ 255) (hc : 0 ≤ c ∧ c ≤ 255) (hd : 0 ≤ d ∧ d ≤ 255) (ho : OwnB w B v xs) (hB : B ≤ w.heap.size) (hl : xs.length ≤ 10) :
    Calls Tryd.prog 121 #[ipV (ip4 a b c d) z, v] w fun e w' => ∃ v', e = .returned v' ∧ OwnB w' B v' (xs ++ dec a.toNat ++ [46] ++ dec b.toNat ++ [46] ++ dec c.toNat ++ [46] ++ dec d.toNat) ∧ Below B w w' := by
  obtain ⟨n, hn⟩ : ∃ n, n = ip4 a b c d := ⟨_, rfl⟩
  have HV := Lib.hid (fun i x W hi => v4_any a b c d z i x W ha hb hc hd hi)
  have hla := dec_len a ha.1 (by omega)
  have hlb := dec_len b hb.1 (by omega)
  have hlc := dec_len c hc.1 (by omega)
  have hld := dec_len d hd.1 (by omega)
  rw [← hn] at HV ⊢
  clear hn
  have hp := blk_new w (ipO n z)
  have hv0 : v.ownBlock ≠ some w.heap.size := fun e => by have := OwnB.lt ho _ e; omega
  have hsz : (w.alloc (ipO n z)).heap.size = w.heap.size + 1 := by simp
  have HEND := Lib.hid (fun (W' : World) (v' : Value) (k : App (w.alloc (ipO n z)) v W' v') => App.below (App.trans (App.al w v (ipO n z)) k) ho hB)
  obtain ⟨A0, c0, hv, hcc0, -⟩ := Kd.R_reads ho
  obtain ⟨l0, hl0⟩ : ∃ l0, l0 = xs := ⟨_, rfl⟩
  have HL0 := Lib.hid hl0
  have T0 : T4 (w.alloc (ipO n z)) w.heap.size v B n z v l0 (w.alloc (ipO n z)) := ⟨hp, by rw [hl0]; exact Kd.R_alloc ho _, App.refl _ _⟩
  have hle0 : l0.length ≤ 10 := by rw [hl0]; exact hl
  rw [hv, ← hl0]
  rw [← hl0] at hv hcc0
  subst hv
  clear ho hp hl0
  have H0 := Lib.hid T0
  obtain ⟨p0, p1, p2⟩ := ip_cells T0.ip
  clear T0
  go_enter Tryd.func121, Tryd.ntmps121
  go_wp2_with fail
  refine (HV.out 0 a _ (by simp)).mono ?_
  rintro e u0 ⟨rfl, hbu⟩
  have G0 := Lib.hid (H0.out.call hbu)
  clear hbu p0 p1 p2 H0
  go_wp2_with fail
  refine (appendDecimal_any B a ha.1 ha.2 _ l0 u0 G0.out.own (by have := G0.out.app.1.size; omega) (by omega)).mono ?_
  rintro e t0 ⟨vv, rfl, hov, hap⟩
  obtain ⟨l1, hl1⟩ : ∃ l, l = l0 ++ dec a.toNat := ⟨_, rfl⟩
  rw [← hl1] at hov
  have hle1 : l1.length ≤ 30 := by rw [hl1]; simp; omega
  have HL1 := Lib.hid hl1
  clear hl1
  obtain ⟨A1, c1, rfl, hcc1, -⟩ := Kd.R_reads hov
  have T1 := G0.out.step (by omega) hv0 hap hov
  have H1 := Lib.hid T1
  clear hov hap G0 T1
  go_wp2_with (at_builtin; refine app_bytes rfl (.tmp 9) (.tmp 10) 26 rfl Tryd.underlying26 infoB B (.slice A1 l1.length c1) l1 [46] (some ⟨t0.heap.size, 0, none⟩) 1 1 rfl rfl (Kd.R_alloc H1.out.own _) (lit_C t0 [46] 1 rfl (by simp) (by rfl)) (by have := H1.out.app.1.size; simp; omega) (by omega) ?_; intro vv s0 hov hgv hatv; refine Hid.out ?_)
  obtain ⟨l2, hl2⟩ : ∃ l, l = l1 ++ [46] := ⟨_, rfl⟩
  rw [← hl2] at hov
  have hle2 : l2.length ≤ 31 := by rw [hl2]; simp; omega
  have HL2 := Lib.hid hl2
  clear hl2
  have T2 := H1.out.step (by omega) hv0 (App.app hgv hatv) hov
  obtain ⟨A2, c2, rfl, hcc2, -⟩ := Kd.R_reads hov
  have H2 := Lib.hid T2
  obtain ⟨p0, p1, p2⟩ := ip_cells T2.ip
  clear hov hgv hatv H1 T2
  refine Lib.hid ?_
  go_wp2_with fail
  refine (HV.out 1 b _ (by simp)).mono ?_
  rintro e u1 ⟨rfl, hbu⟩
  have G1 := Lib.hid (H2.out.call hbu)
  clear hbu p0 p1 p2 H2
  go_wp2_with fail
  refine (appendDecimal_any B b hb.1 hb.2 _ l2 u1 G1.out.own (by have := G1.out.app.1.size; omega) (by omega)).mono ?_
  rintro e t1 ⟨vv, rfl, hov, hap⟩
  obtain ⟨l3, hl3⟩ : ∃ l, l = l2 ++ dec b.toNat := ⟨_, rfl⟩
  rw [← hl3] at hov
  have hle3 : l3.length ≤ 51 := by rw [hl3]; simp; omega
  have HL3 := Lib.hid hl3
  clear hl3
  obtain ⟨A3, c3, rfl, hcc3, -⟩ := Kd.R_reads hov
  have T3 := G1.out.step (by omega) hv0 hap hov
  have H3 := Lib.hid T3
  clear hov hap G1 T3
  go_wp2_with (at_builtin; refine app_bytes rfl (.tmp 16) (.tmp 17) 26 rfl Tryd.underlying26 infoB B (.slice A3 l3.length c3) l3 [46] (some ⟨t1.heap.size, 0, none⟩) 1 1 rfl rfl (Kd.R_alloc H3.out.own _) (lit_C t1 [46] 1 rfl (by simp) (by rfl)) (by have := H3.out.app.1.size; simp; omega) (by omega) ?_; intro vv s1 hov hgv hatv; refine Hid.out ?_)
  obtain ⟨l4, hl4⟩ : ∃ l, l = l3 ++ [46] := ⟨_, rfl⟩
  rw [← hl4] at hov
  have hle4 : l4.length ≤ 52 := by rw [hl4]; simp; omega
  have HL4 := Lib.hid hl4
  clear hl4
  have T4 := H3.out.step (by omega) hv0 (App.app hgv hatv) hov
  obtain ⟨A4, c4, rfl, hcc4, -⟩ := Kd.R_reads hov
  have H4 := Lib.hid T4
  obtain ⟨p0, p1, p2⟩ := ip_cells T4.ip
  clear hov hgv hatv H3 T4
  refine Lib.hid ?_
  go_wp2_with fail
  refine (HV.out 2 c _ (by simp)).mono ?_
  rintro e u2 ⟨rfl, hbu⟩
  have G2 := Lib.hid (H4.out.call hbu)
  clear hbu p0 p1 p2 H4
  go_wp2_with fail
  refine (appendDecimal_any B c hc.1 hc.2 _ l4 u2 G2.out.own (by have := G2.out.app.1.size; omega) (by omega)).mono ?_
  rintro e t2 ⟨vv, rfl, hov, hap⟩
  obtain ⟨l5, hl5⟩ : ∃ l, l = l4 ++ dec c.toNat := ⟨_, rfl⟩
  rw [← hl5] at hov
  have hle5 : l5.length ≤ 72 := by rw [hl5]; simp; omega
  have HL5 := Lib.hid hl5
  clear hl5
  obtain ⟨A5, c5, rfl, hcc5, -⟩ := Kd.R_reads hov
  have T5 := G2.out.step (by omega) hv0 hap hov
  have H5 := Lib.hid T5
  clear hov hap G2 T5
  go_wp2_with (at_builtin; refine app_bytes rfl (.tmp 23) (.tmp 24) 26 rfl Tryd.underlying26 infoB B (.slice A5 l5.length c5) l5 [46] (some ⟨t2.heap.size, 0, none⟩) 1 1 rfl rfl (Kd.R_alloc H5.out.own _) (lit_C t2 [46] 1 rfl (by simp) (by rfl)) (by have := H5.out.app.1.size; simp; omega) (by omega) ?_; intro vv s2 hov hgv hatv; refine Hid.out ?_)
  obtain ⟨l6, hl6⟩ : ∃ l, l = l5 ++ [46] := ⟨_, rfl⟩
  rw [← hl6] at hov
  have hle6 : l6.length ≤ 73 := by rw [hl6]; simp; omega
  have HL6 := Lib.hid hl6
  clear hl6
  have T6 := H5.out.step (by omega) hv0 (App.app hgv hatv) hov
  obtain ⟨A6, c6, rfl, hcc6, -⟩ := Kd.R_reads hov
  have H6 := Lib.hid T6
  obtain ⟨p0, p1, p2⟩ := ip_cells T6.ip
  clear hov hgv hatv H5 T6
  refine Lib.hid ?_
  go_wp2_with fail
  refine (HV.out 3 d _ (by simp)).mono ?_
  rintro e u3 ⟨rfl, hbu⟩
  have G3 := Lib.hid (H6.out.call hbu)
  clear hbu p0 p1 p2 H6
  go_wp2_with fail
  refine (appendDecimal_any B d hd.1 hd.2 _ l6 u3 G3.out.own (by have := G3.out.app.1.size; omega) (by omega)).mono ?_
  rintro e t3 ⟨vv, rfl, hov, hap⟩
  obtain ⟨l7, hl7⟩ : ∃ l, l = l6 ++ dec d.toNat := ⟨_, rfl⟩
  rw [← hl7] at hov
  have hle7 : l7.length ≤ 93 := by rw [hl7]; simp; omega
  have HL7 := Lib.hid hl7
  clear hl7
  obtain ⟨A7, c7, rfl, hcc7, -⟩ := Kd.R_reads hov
  have hend := HEND.out _ _ (G3.out.app.trans hap)
  have hfin := Lib.hid (And.intro hov hend)
  clear hov hap hend G3
  go_wp2
  go_ret
  refine ⟨_, rfl, ?_, hfin.out.2⟩
  rw [show l0 ++ dec a.toNat ++ [46] ++ dec b.toNat ++ [46] ++ dec c.toNat ++ [46] ++ dec d.toNat = l7 by rw [HL7.out, HL6.out, HL5.out, HL4.out, HL3.out, HL2.out, HL1.out]]
  exact hfin.out.1
end Go.Proofs.YtangjgclpipjdaaDoor
set_option linter.unusedVariables false
namespace Go.Proofs.YtangjgclpipjdaaDoor
open Go.RowKit Go.Proofs.YtangjgclpipjdaaDoorW.PrintWords Go.Proofs.YtangjgclpipjdaaDoorW.PrintLast Go.Proofs.YtangjgclpipjdaaDoorW.PrintMore
set_option maxRecDepth 100000 in
theorem addrFrom4_any (a b c d : Int) (z : Addr) (w : World) (ha : 0 ≤ a ∧ a ≤ 255) (hb : 0 ≤ b ∧ b ≤ 255) (hc : 0 ≤ c ∧ c ≤ 255) (hd : 0 ≤ d ∧ d ≤ 255) (hz : ZTab z w) :
    Calls Tryd.prog 117 #[.agg #[.int .u8 a, .int .u8 b, .int .u8 c, .int .u8 d]] w fun e w' => e = .returned (ipV (ip4 a b c d) z) ∧ Below w.heap.size w w' := by
  have o1 : bits .or .u64 281470681743360 (a * 16777216) = 281470681743360 + a * 16777216 := by
    rw [u64_or _ _ (by omega) (by omega) (by omega) (by omega), nat_join 32 _ _ (by omega) (by omega)]; omega
  have o2 : bits .or .u64 (281470681743360 + a * 16777216) (b * 65536) = 281470681743360 + a * 16777216 + b * 65536 := by
    rw [u64_or _ _ (by omega) (by omega) (by omega) (by omega), nat_join 24 _ _ (by omega) (by omega)]; omega
  have o3 : bits .or .u64 (281470681743360 + a * 16777216 + b * 65536) (c * 256) = 281470681743360 + a * 16777216 + b * 65536 + c * 256 := by
    rw [u64_or _ _ (by omega) (by omega) (by omega) (by omega), nat_join 16 _ _ (by omega) (by omega)]; omega
  have o4 : bits .or .u64 (281470681743360 + a * 16777216 + b * 65536 + c * 256) d = 281470681743360 + a * 16777216 + b * 65536 + c * 256 + d := by
    rw [u64_or _ _ (by omega) (by omega) (by omega) (by omega), nat_join 8 _ _ (by omega) (by omega)]; omega
  have e4 : 281470681743360 + a * 16777216 + b * 65536 + c * 256 + d = 281470681743360 + ip4 a b c d := by unfold ip4; omega
  have hz2 := cell_al (cell_al hz.1 (.cells #[.int .u8 a, .int .u8 b, .int .u8 c, .int .u8 d] 186)) (.cells #[.int .u64 0, .int .u64 0, .pointer none] 158)
  have HE := Lib.hid e4
  clear e4
  go_enter Tryd.func117, Tryd.ntmps117
  go_wp2
  have hr := blk_new (w.alloc (.cells #[.int .u8 a, .int .u8 b, .int .u8 c, .int .u8 d] 186)) (ipO (ip4 a b c d) z)
  rw [show (w.alloc (.cells #[.int .u8 a, .int .u8 b, .int .u8 c, .int .u8 d] 186)).heap.size = w.heap.size + 1 by simp] at hr
  rw [HE.out]
  exact bodyPost_ret (results_cell_row rfl _ _ (w.heap.size + 1) 158 #[.int .u64 0, .int .u64 (281470681743360 + ip4 a b c d), .pointer (some z)] (0, 0) _ rfl hr Tryd.underlying158 rfl (by kernel_rfl)) rfl ⟨rfl, ((Below.refl w.heap.size w).alloc (Nat.le_refl _) _).alloc (by simp) _⟩
set_option maxRecDepth 100000 in
theorem ipString_any (a b c d : Int) (z : Addr) (w : World) (ha : 0 ≤ a ∧ a ≤ 255) (hb : 0 ≤ b ∧ b ≤ 255) (hc : 0 ≤ c ∧ c ≤ 255) (hd : 0 ≤ d ∧ d ≤ 255) (hz : ZTab z w) :
    Calls Tryd.prog 101 #[ipV (ip4 a b c d) z] w fun e w' => e = .returned (.string (strOfNums (dots [a, b, c, d]))) ∧ Below w.heap.size w w' := by
  obtain ⟨ds, hds⟩ : ∃ ds, ds = dots [a, b, c, d] := ⟨_, rfl⟩
  have HDS := Lib.hid (show [] ++ dec a.toNat ++ [46] ++ dec b.toNat ++ [46] ++ dec c.toNat ++ [46] ++ dec d.toNat = ds by rw [hds]; simp [dots])
  rw [← hds]
  clear hds
  have hp := blk_new w (ipO (ip4 a b c d) z)
  have hb0 := (Below.refl w.heap.size w).alloc (Nat.le_refl _) (ipO (ip4 a b c d) z)
  have H0 := Lib.hid (And.intro hp (And.intro hb0 (hz.on hb0)))
  clear hz hp hb0
  go_enter Tryd.func101, Tryd.ntmps101
  go_wp2_with fail
  refine (isValid_any _ z _ H0.out.2.2).mono ?_
  rintro e w1 ⟨rfl, hb1⟩
  obtain ⟨p0, p1, p2⟩ := ip_cells (blk_below H0.out.1 hb1)
  have z1 := (H0.out.2.2.on hb1).1
  have q1 := fun W => eq_self 9998 W z
  simp only [Nat.reduceAdd] at q1
  have H1 := Lib.hid (And.intro (blk_below H0.out.1 hb1) (below_step H0.out.2.1 hb1))
  clear hb1
  obtain ⟨w2, hmk, ho2, hb2⟩ := make_own2 w1 15 (by omega)
  rw [show ((15 : Nat) : Int) = 15 from rfl] at hmk
  obtain ⟨p0', p1', p2'⟩ := ip_cells (blk_below H1.out.1 hb2)
  have H2 := Lib.hid (And.intro (blk_below H1.out.1 hb2) (And.intro (below_step H1.out.2 hb2) ho2))
  have hs2 := hb2.size
  have hs1 : w.heap.size < w1.heap.size := blk_lt H1.out.1
  clear hb2 ho2
  go_wp2_with fail
  refine (appendTo4_any a b c d z w1.heap.size _ [] w2 ha hb hc hd H2.out.2.2 hs2 (by simp)).mono ?_
  rintro e w3 ⟨v3, rfl, ho3, hb3⟩
  rw [HDS.out] at ho3
  have hcv := ho3.string (P := Tryd.prog) Tryd.underlying26 Tryd.underlying5 Tryd.underlying9
  have HF := Lib.hid (H2.out.2.1.trans (hb3.mono (by omega)))
  clear hb3
  go_wp2
  go_ret
  exact ⟨rfl, HF.out⟩
theorem results_ct {P : Program} {fn : Func} {p u : Tmp} {ty : TypeId} (h : fn.results = #[.cell p ty, .tmp u]) (tmps : Array Value) (w : World) (g : Nat) (t : TypeId) (cs : Array Value) (fr : Nat × Nat) (d : TypeDesc)
    (hp : tmps.getD p undef = .pointer (some ⟨g, 0, none⟩)) (hg : w.heap[g]? = some (.cells cs t fr))
    (hu : P.underlying ty = some d) (hd : (match d with | .struct _ | .array _ _ => true | _ => false) = true) (hi : (P.info? ty).map (·.size) = some cs.size) :
    (results fn tmps).run P w = .ok (.tuple #[.agg cs, tmps.getD u undef]) w := by
  have hp' : tmps[p]?.getD undef = .pointer (some ⟨g, 0, none⟩) := by simpa using hp
  simp [results, h, hp', asAddr, run_loadVar_row w g t ty cs fr d hg hu hd hi]
set_option maxRecDepth 100000 in
theorem addrFromSlice_any (a b c d : Int) (z : Addr) (A : Option Addr) (cc : Nat) (w : World) (ha : 0 ≤ a ∧ a ≤ 255) (hb : 0 ≤ b ∧ b ≤ 255) (hc : 0 ≤ c ∧ c ≤ 255) (hd : 0 ≤ d ∧ d ≤ 255) (hz : ZTab z w) (hcc : 4 ≤ cc) (hC : Kd.C (Kd.int .u8) w A 4 [a, b, c, d]) :
    Calls Tryd.prog 99 #[.slice A 4 cc] w fun e w' => e = .returned (.tuple #[ipV (ip4 a b c d) z, .bool true]) ∧ Below w.heap.size w w' := by
  obtain ⟨ad, rfl, c0⟩ := cell_at (xs := [a, b, c, d]) hC 0 (by simp)
  obtain ⟨ad1, e1, c1⟩ := cell_at (xs := [a, b, c, d]) hC 1 (by simp)
  obtain rfl : ad = ad1 := by injection e1
  obtain ⟨ad2, e2, c2⟩ := cell_at (xs := [a, b, c, d]) hC 2 (by simp)
  obtain rfl : ad = ad2 := by injection e2
  obtain ⟨ad3, e3, c3⟩ := cell_at (xs := [a, b, c, d]) hC 3 (by simp)
  obtain rfl : ad = ad3 := by injection e3
  have k0 : w.cell? (ad.add 0) = some (.int .u8 a) := c0
  have k1 : w.cell? (ad.add 1) = some (.int .u8 b) := c1
  have k2 : w.cell? (ad.add 2) = some (.int .u8 c) := c2
  have k3 : w.cell? (ad.add 3) = some (.int .u8 d) := c3
  have q0 := cell_al k0 (.cells #[.int .u64 0, .int .u64 0, .pointer none] 158)
  have q1 := cell_al k1 (.cells #[.int .u64 0, .int .u64 0, .pointer none] 158)
  have q2 := cell_al k2 (.cells #[.int .u64 0, .int .u64 0, .pointer none] 158)
  have q3 := cell_al k3 (.cells #[.int .u64 0, .int .u64 0, .pointer none] 158)
  rw [Addr.add_zero'] at q0
  simp only [Go.Addr.add, Nat.reduceEqDiff, if_false] at q1 q2 q3
  have harr := fun W => run_arrayAt (P := Tryd.prog) W 186 5 4 (some ad) 4 cc Tryd.underlying186 (Nat.le_refl _)
  have hb0 := (Below.refl w.heap.size w).alloc (Nat.le_refl _) (.cells #[.int .u64 0, .int .u64 0, .pointer none] 158)
  have hr := blk_new w (.cells #[.int .u64 0, .int .u64 0, .pointer none] 158)
  have HB := Lib.hid (And.intro hb0 (And.intro hr (hz.on hb0)))
  clear hb0 hr hz hC c0 c1 c2 c3 k0 k1 k2 k3 e1 e2 e3
  go_enter Tryd.func99, Tryd.ntmps99
  go_wp2_with fail
  refine (addrFrom4_any a b c d z _ ha hb hc hd HB.out.2.2).mono ?_
  rintro e w1 ⟨rfl, hb1⟩
  have hr := blk_below HB.out.2.1 hb1
  have r0 : w1.cell? ⟨w.heap.size, 0, none⟩ = some (.int .u64 0) := (blk_cell hr 0).trans rfl
  have r1 : w1.cell? ⟨w.heap.size, 1, none⟩ = some (.int .u64 0) := (blk_cell hr 1).trans rfl
  have r2 : w1.cell? ⟨w.heap.size, 2, none⟩ = some (.pointer none) := (blk_cell hr 2).trans rfl
  have f0 := blk_frozen hr 0
  have f1 := blk_frozen hr 1
  have f2 := blk_frozen hr 2
  have H1 := Lib.hid (And.intro hr (below_step HB.out.1 hb1))
  clear hr hb1
  go_wp2
  have g0 := blk_put (cs' := #[.int .u64 0, .int .u64 0, .pointer none]) H1.out.1 0 (.int .u64 0) rfl
  have g1 := blk_put (cs' := #[.int .u64 0, .int .u64 (281470681743360 + ip4 a b c d), .pointer none]) g0 1 (.int .u64 (281470681743360 + ip4 a b c d)) rfl
  have g2 := blk_put (cs' := #[.int .u64 0, .int .u64 (281470681743360 + ip4 a b c d), .pointer (some z)]) g1 2 (.pointer (some z)) rfl
  exact bodyPost_ret (results_ct rfl _ _ w.heap.size 158 #[.int .u64 0, .int .u64 (281470681743360 + ip4 a b c d), .pointer (some z)] (0, 0) _ rfl g2 Tryd.underlying158 rfl (by kernel_rfl)) rfl ⟨rfl, below_set (below_set (below_set H1.out.2 (by omega)) (by omega)) (by omega)⟩
set_option maxRecDepth 100000 in
theorem zzAddress_any (a b c d : Int) (z : Addr) (A : Option Addr) (cc : Nat) (w : World) (ha : 0 ≤ a ∧ a ≤ 255) (hb : 0 ≤ b ∧ b ≤ 255) (hc : 0 ≤ c ∧ c ≤ 255) (hd : 0 ≤ d ∧ d ≤ 255) (hz : ZTab z w) (hcc : 4 ≤ cc) (hC : Kd.C (Kd.int .u8) w A 4 [a, b, c, d]) :
    Calls Tryd.prog 75 #[.slice A 4 cc] w fun e w' => e = .returned (.string (strOfNums (dots [a, b, c, d]))) ∧ Below w.heap.size w w' := by
  have HD := Lib.hid (fun W hz => ipString_any a b c d z W ha hb hc hd hz)
  have H1 := Lib.hid (fun W => addrFromSlice_any a b c d z A cc W ha hb hc hd)
  obtain ⟨ds, hds⟩ : ∃ ds, ds = strOfNums (dots [a, b, c, d]) := ⟨_, rfl⟩
  rw [← hds] at HD ⊢
  clear hds
  have HZ := Lib.hid (And.intro hz hC)
  clear hz hC
  go_enter Tryd.func75, Tryd.ntmps75
  go_wp2_with fail
  refine (H1.out w HZ.out.1 hcc HZ.out.2).mono ?_
  rintro e w1 ⟨rfl, hb1⟩
  have hr := blk_new w1
  have H2 := Lib.hid (And.intro hb1 (HZ.out.1.on hb1))
  clear hb1 hr
  go_wp2_with fail
  have b2 := (Below.refl w1.heap.size w1).alloc (Nat.le_refl _) (ipO (ip4 a b c d) z)
  refine (unmap_any (ip4 a b c d) z _ (H2.out.2.on b2)).mono ?_
  rintro e w3 ⟨rfl, hb3⟩
  have H3 := Lib.hid (And.intro (below_step (below_step H2.out.1 b2) hb3) ((H2.out.2.on b2).on hb3))
  clear hb3 b2
  go_wp2_with fail
  refine (HD.out _ H3.out.2).mono ?_
  rintro e w4 ⟨rfl, hb4⟩
  have H4 := Lib.hid (below_step H3.out.1 hb4)
  clear hb4
  go_wp2
  go_ret
  exact ⟨rfl, H4.out⟩
end Go.Proofs.YtangjgclpipjdaaDoor
set_option linter.unusedVariables false
namespace Go.Proofs.YtangjgclpipjdaaDoor
open Go.RowKit Go.Proofs.YtangjgclpipjdaaDoorW.PrintWords Go.Proofs.YtangjgclpipjdaaDoorW.PrintLast Go.Proofs.YtangjgclpipjdaaDoorW.PrintMore
abbrev AsnTab (w : World) : Prop := Lib.TabIs Tryd.prog w "loop.example/pub-g03261/pub/snmp._Asn1BER_index_0" .u8 [0, 13, 20, 27, 36, 47, 51, 67, 84]
theorem AsnTab.on {w w' : World} (h : AsnTab w) (hb : Below w.heap.size w w') : AsnTab w' := Lib.tabBelow_of_tabIs h w' hb
set_option maxRecDepth 100000 in
theorem asnString_any (w : World) (ht : AsnTab w) : Calls Tryd.prog 70 #[.int .u8 2] w fun e w' => ∃ s, e = .returned (.string s) ∧ Below w.heap.size w w' := by
  have c2 := ht.cell (g := 3) (by kernel_rfl) 2 (by decide)
  have c3 := ht.cell (g := 3) (by kernel_rfl) 3 (by decide)
  simp at c2 c3
  clear ht
  go_enter Tryd.func70, Tryd.ntmps70
  go_wp2
  go_quiet (fail)
  go_wp2
  go_ret
  exact ⟨_, rfl, pw_below_drewN (Below.refl _ _) _⟩
end Go.Proofs.YtangjgclpipjdaaDoor
set_option linter.unusedVariables false
namespace Go.Proofs.YtangjgclpipjdaaDoor
open Go.RowKit Go.Proofs.YtangjgclpipjdaaDoorW.PrintWords Go.Proofs.YtangjgclpipjdaaDoorW.PrintLast Go.Proofs.YtangjgclpipjdaaDoorW.PrintMore
/-- A variable of the package's own kind (a value, its type) in a block. -/
abbrev vbO (v : Value) (t : Int) : Obj := .cells #[v, .int .u8 t] 111
/-- What decodeValue leaves: the block g holds v of the type t; no other old block has turned. -/
abbrev KeptG (w W : World) (g : Nat) : Prop := w.grownBy W (some g)
theorem KeptG.kept {w W : World} {g : Nat} (h : KeptG w W g) : Kept w W (fun k => k = g) := ⟨h.size, fun i hi hn => h.block i hi (fun e => hn (Option.some.inj e))⟩
theorem keptG_of {w W : World} {g : Nat} (hb : Below w.heap.size w W) : KeptG w W g := ⟨hb.os, hb.tape, hb.output, hb.size, fun k hk _ => hb.block k hk⟩
theorem keptG_below {w W W2 : World} {g : Nat} (h : KeptG w W g) (hb : Below W.heap.size W W2) : KeptG w W2 g := ⟨hb.os.trans h.os, hb.tape.trans h.tape, hb.output.trans h.output, Nat.le_trans h.size hb.size, fun k hk hn => (hb.block k (Nat.lt_of_lt_of_le hk h.size)).trans (h.block k hk hn)⟩
def Decoded (w w' : World) (g : Nat) (v : Value) (t : Int) : Prop := w'.heap[g]? = some (vbO v t) ∧ KeptG w w' g
theorem kept_one {w W : World} {g : Nat} (i : Nat) (hk : KeptG w W g) (v : Value) : KeptG w (W.setCell ⟨g, i, none⟩ v) g := ⟨hk.os, hk.tape, hk.output, by simpa [World.setCell] using hk.size, fun k h hne => (Below.heap_setCell _ _ _ _ (by intro e; exact hne (by rw [e]))).trans (hk.block k h hne)⟩
theorem kept_two {w w4 : World} {g : Nat} (hb : Below w.heap.size w w4) (t v : Value) : KeptG w ((w4.setCell ⟨g, 1, none⟩ t).setCell ⟨g, 0, none⟩ v) g := kept_one 0 (kept_one 1 (keptG_of hb) t) v
theorem part_zero (W : World) (g : Nat) (h : W.heap[g]? = some (.cells #[] 103 (0, 0))) : (partAt ⟨g, 0, none⟩ 0 0).run Tryd.prog W = .ok ⟨g, 0, none⟩ W := by
  have hc : Tryd.prog.cellsOf 103 = 0 := by kernel_rfl
  simp [partAt, byteOf, noView, viewAt, World.shape?, h, hc, Result.andThen]
theorem cell_dr {W : World} {a : Addr} {v : Value} (c : W.cell? a = some v) : W.drew.cell? a = some v := c
set_option maxRecDepth 100000 in
set_option maxHeartbeats 400000 in
theorem dec_int (x : Value) (A : Option Addr) (cc : Nat) (xs c : List Int) (L : Nat) (A' : Option Addr) (c' : Nat) (g : Nat) (hc : IsB c) (c1 : 1 ≤ c.length) (c8 : c.length ≤ 8) (hE : Elem 2 c xs L A cc A' c') (hx : xs.length ≤ 100000) (hL : L = xs.length) (w : World) (hr : Kd.C (Kd.int .u8) w A xs.length xs) (ht : AsnTab w)
    (gx : Nat) (hgx : w.heap[gx]? = some (.cells #[] 103)) (hg : w.heap[g]? = some (vbO .nilIface 0)) (hA : ∀ ad, A = some ad → ad.block ≠ g) :
    Calls Tryd.prog 49 #[.pointer (some ⟨gx, 0, none⟩), .slice A xs.length cc, .pointer (some ⟨g, 0, none⟩)] w fun e w' => e = .returned .nilIface ∧ Decoded w w' g (.iface 3 (.int .i64 (sVal c))) 2 := by
  subst hL
  have two := hE.two
  have hcl := hE.clen
  have hcut := hE.cut
  obtain ⟨ad, rfl, k0⟩ := hE.head w hr
  have k0 : w.cell? ad = some (.int .u8 2) := k0
  have HE := Lib.hid (And.intro hE (And.intro hr (And.intro ht (And.intro hg (And.intro (hA ad rfl) hc)))))
  clear hE hr ht hA hc
  go_enter Tryd.func49, Tryd.ntmps49
  go_wp2_with fail
  have hpart := fun W => part_zero W gx
  have hpos : (0 : Int) < xs.length := by omega
  have hposn : 0 < xs.length := by omega
  have hgd : w.drew.heap[gx]? = some (.cells #[] 103 (0, 0)) := hgx
  have BD : Below w.heap.size w w.drew := below_drew (Below.refl _ _)
  go_region_held3 (fun w' => w'.cell? ad = some (.int .u8 2) ∧ w'.heap[gx]? = some (.cells #[] 103 (0, 0))) (first | with_reducible exact ⟨cell_dr k0, hgd⟩ | with_reducible exact ⟨cell_up' k0 B1, blk_below hgx B1⟩ | with_reducible exact ⟨cell_al (cell_up' k0 B1) _, blk_alloc (blk_below hgx B1) _⟩ | with_reducible exact ⟨cell_up' k0 B2, blk_below hgx B2⟩) (first
    | ((go_at_call 70; (with_reducible refine (asnString_any w.drew (AsnTab.on HE.out.2.2.1 BD)).mono ?_); rintro e w1 ⟨s1, rfl, hb1⟩; have B1 := below_step BD hb1))
    | ((go_at_call 69; (with_reducible refine (printf_any _ _ _).mono ?_); rintro e w2 ⟨rfl, hb2⟩; have B2 := below_step (B1.alloc B1.size _) hb2)))
  have hr2 := Kd.C_below HE.out.2.1 B2
  have hg2 := blk_below HE.out.2.2.2.1 B2
  have H2 := Lib.hid (And.intro B2 (And.intro hr2 hg2))
  have k2 := cell_up' k0 B2
  have k3 := blk_below hgx B2
  have v0 : w2.cell? ⟨g, 0, none⟩ = some .nilIface := (blk_cell hg2 0).trans rfl
  have v1 : w2.cell? ⟨g, 1, none⟩ = some (.int .u8 0) := (blk_cell hg2 1).trans rfl
  have f0 := blk_frozen hg2 0
  have f1 := blk_frozen hg2 1
  have ne1 : ad.block ≠ g := HE.out.2.2.2.2.1
  clear hr2 hg2 B1 B2 hb1 hb2 BD hgd k0 hgx
  go_wp2_with fail
  refine (HE.out.1.parse _ H2.out.2.1).mono ?_
  rintro e w3 ⟨rfl, rfl⟩
  have L0 : (0 : Int) ≤ (xs.length : Int) - c.length := by omega
  have L1 : (xs.length : Int) - c.length ≤ xs.length := by omega
  go_wp2_with fail
  refine (parseInt_any A' c' c _ (HE.out.1.reads _ H2.out.2.1) HE.out.2.2.2.2.2 c1 c8).mono ?_
  rintro e w4 ⟨rfl, hb4⟩
  have B4 := below_step H2.out.1 hb4
  have hg4 := blk_below H2.out.2.2 hb4
  have k4 := cell_up' k2 hb4
  have k5 := blk_below k3 hb4
  have HF := Lib.hid (And.intro B4 hg4)
  clear v0 v1 f0 f1 k2 k3 H2
  have v0 : w4.cell? ⟨g, 0, none⟩ = some .nilIface := (blk_cell hg4 0).trans rfl
  have v1 : w4.cell? ⟨g, 1, none⟩ = some (.int .u8 0) := (blk_cell hg4 1).trans rfl
  have f0 := blk_frozen hg4 0
  have f1 := blk_frozen hg4 1
  have ne2 : g ≠ ad.block := Ne.symm ne1
  have kk4 := (cell_far (W := w4) (p := ⟨g, 1, none⟩) (a := ad) ne1 (.int .u8 2)).trans k4
  clear hg4 B4 hb4
  go_wp2_with fail
  have q := blk_put (cs' := #[.iface 3 (.int .i64 (sVal c)), .int .u8 2]) (blk_put (cs' := #[.nilIface, .int .u8 2]) HF.out.2 1 (.int .u8 2) rfl) 0 (.iface 3 (.int .i64 (sVal c))) rfl
  have qk : KeptG w ((w4.setCell ⟨g, 1, none⟩ (.int .u8 2)).setCell ⟨g, 0, none⟩ (.iface 3 (.int .i64 (sVal c)))) g := kept_two HF.out.1 _ _
  have hne := blk_ne k5 HF.out.2 (by decide)
  have qx := blk_far (p := ⟨g, 0, none⟩) (blk_far (p := ⟨g, 1, none⟩) k5 hne (.int .u8 2)) hne (.iface 3 (.int .i64 (sVal c)))
  generalize (w4.setCell ⟨g, 1, none⟩ (.int .u8 2)).setCell ⟨g, 0, none⟩ (.iface 3 (.int .i64 (sVal c))) = w6 at q qk qx ⊢
  have c6 : w6.cell? ⟨g, 0, none⟩ = some (.iface 3 (.int .i64 (sVal c))) := (blk_cell q 0).trans rfl
  have qd : w6.drew.heap[gx]? = some (.cells #[] 103 (0, 0)) := qx
  clear k4 k5 kk4 v0 v1 f0 f1
  go_region_held3 (fun w' => w'.cell? ⟨g, 0, none⟩ = some (.iface 3 (.int .i64 (sVal c))) ∧ w'.heap[gx]? = some (.cells #[] 103 (0, 0))) (first | with_reducible exact ⟨cell_dr c6, qd⟩ | with_reducible exact ⟨cell_al (cell_dr c6) _, blk_alloc qd _⟩ | with_reducible exact ⟨cell_dr (cell_al c6 _), blk_drew (blk_alloc qx _)⟩ | with_reducible exact ⟨cell_up' c6 B7, blk_below qx B7⟩)
    ((go_at_call 69; (with_reducible refine (printf_any _ _ _).mono ?_); rintro e w7 ⟨rfl, hb7⟩; have B7 : Below w6.heap.size w6 w7 := below_step ((below_drew (Below.refl w6.heap.size w6)).alloc (Nat.le_refl _) _) hb7))
  go_wp2
  go_ret
  exact ⟨rfl, blk_below q B7, keptG_below qk B7⟩
end Go.Proofs.YtangjgclpipjdaaDoor
