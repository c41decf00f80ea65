/- The lemmas and walks that FnDecode and FnCut and FnRead rests on, part 19: Decode. -/
import Derived.Test.YtangjgclpipjdaaDoorQM17
import Derived.Test.YtangjgclpipjdaaDoorQM18
set_option linter.unusedVariables false
namespace Go.Proofs.YtangjgclpipjdaaDoor
open Go.RowKit Go.Proofs.YtangjgclpipjdaaDoorW.PrintWords Go.Proofs.YtangjgclpipjdaaDoorW.PrintLast Go.Proofs.YtangjgclpipjdaaDoorW.PrintMore
theorem sVars_count : ∀ (n : Nat) (b : List Int) (vs : List VarP), IsB b → sVars n b = some vs → vs.length ≤ b.length
  | n, [], vs, _, h => by
    have : sVars n [] = some [] := by cases n <;> rfl
    rw [this] at h
    injection h with h
    subst h
    simp
  | 0, _ :: _, _, _, h => by simp [sVars] at h
  | n + 1, x :: l, vs, hb, h => by
    simp only [sVars] at h
    rcases ho : sOfVar (x :: l) with _ | ⟨v, rest⟩
    · rw [ho] at h; simp at h
    rw [ho] at h
    simp only at h
    obtain ⟨vs', hv, rfl⟩ := Option.map_eq_some_iff.1 h
    obtain ⟨h1, h2⟩ := sOfVar_rest ho hb
    have := sVars_count n rest vs' h2 hv
    simp only [List.length_cons] at h1 ⊢
    omega
theorem sMsg_count {xs : List Int} {p : MsgP} (hB : IsB xs) (h : sMsg xs = some p) : p.vars.length ≤ xs.length := by
  obtain ⟨inn, cv, in1, in2, body, ci, b1, cs, b2, cx, b3, list, hp⟩ := sMsg_parts h
  have h1 := sOpen_isB hB (sNext_open hp.n1)
  have h2 := sOpen_isB h1.1 (sNext_open hp.n2)
  have h3 := sOpen_isB h2.2.1 (sNext_open hp.n3)
  have h4 := sOpen_isB h3.2.1 hp.n4
  have h5 := sOpen_isB h4.1 (sNext_open hp.n5)
  have h6 := sOpen_isB h5.2.1 (sNext_open hp.n6)
  have h7 := sOpen_isB h6.2.1 (sNext_open hp.n7)
  have h8 := sOpen_isB h7.2.1 (sNext_open hp.n8)
  have l1 := sOpen_len hB (sNext_open hp.n1)
  have l2 := sOpen_len h1.1 (sNext_open hp.n2)
  have l3 := sOpen_len h2.2.1 (sNext_open hp.n3)
  have l4 := sOpen_len h3.2.1 hp.n4
  have l5 := sOpen_len h4.1 (sNext_open hp.n5)
  have l6 := sOpen_len h5.2.1 (sNext_open hp.n6)
  have l7 := sOpen_len h6.2.1 (sNext_open hp.n7)
  have l8 := sOpen_len h7.2.1 (sNext_open hp.n8)
  have := sVars_count _ _ _ h8.1 hp.vs
  omega
/-- append(list, v) as a step of a region that draws its order. -/
theorem app_var_step {W : World} {ops : Array Oper} {o : Oper} {a : Act} {Kc : Act → World → Prop} {Q : Exit → Act → World → Prop} (hw : Region.wanted o (yielded ops a.tmps) = true) (s x : Operand)
    (ho : o.op = .call { callee := .builtin .append, args := #[s, x], argTypes := #[37, 37] }) (B : Nat) (v : Value) (xs : List VarT) (p : VarT) (hs : a.eval s = v) {n : Nat} (hx : a.eval x = .slice (some ⟨n, 0, none⟩) 1 1) (hn : n = W.heap.size) (HO : OwnV W B v xs) (hB : B ≤ W.heap.size) (hl : xs.length ≤ 1000000)
    (h : ∀ v1 w1, OwnV w1 B v1 (xs ++ [p]) → W.grownBy w1 v.ownBlock → (v1.ownBlock = v.ownBlock ∨ ∃ b, v1.ownBlock = some b ∧ W.heap.size ≤ b) → Kc (a.put o.dst v1) w1) :
    if Region.wanted o (yielded ops a.tmps) = true then Oper.wp Tryd.prog o a (W.alloc (.cells p.cells.toArray 24)) Kc Q else Kc (a.put o.dst undef) (W.alloc (.cells p.cells.toArray 24)) :=
  Kd.R_append_step kVar (w0 := W) B hw s x 37 24 (varV ⟨#[]⟩ 0 0 0 ⟨#[]⟩) 56 ho Tryd.underlying37 infoVz rfl (by decide) (by decide) v xs p p.cells (fun _ => True) (fun _ => False) hs (hn ▸ hx) rfl (fun _ h => h.elim) (fun _ _ => trivial) HO (Below.refl _ _) hB (by omega) (fun v1 w1 h1 _ hg hat => h v1 w1 h1 hg hat)
def GotDec (p : MsgP) (w w' : World) (e : Ending) : Prop := Below w.heap.size w w' ∧ ∃ v, e = .returned (.tuple #[.agg ((msgP p).arr v), .bool true]) ∧ OwnV w' w.heap.size v (p.vars.map VarP.t)
set_option maxRecDepth 100000 in
set_option maxHeartbeats 8000000 in
theorem decode_ok (xs : List Int) (p : MsgP) (hm : sMsg xs = some p) (hI : DecIn p) (A : Option Addr) (cc : Nat) (hcc : xs.length ≤ cc) (hB : IsB xs) (hx : xs.length ≤ 16384) (w : World) (hr : Kd.C (Kd.int .u8) w A xs.length xs) (z : Addr) (hT : Tabs z w) :
    Calls Tryd.prog 20 #[.slice A xs.length cc] w fun e w' => GotDec p w w' e := by
  have hsw := sMsg_sw 5 hm
  have hcnt := sMsg_count hB hm
  have HH := Lib.hid (And.intro hr (And.intro hT (And.intro hm (And.intro hI hsw))))
  have b0 := (Below.refl w.heap.size w).alloc (Nat.le_refl _) (msgO zeroM (.slice none 0 0))
  have r0 := blk_new w (msgO zeroM (.slice none 0 0))
  clear hr hT hm hI hsw
  go_enter Tryd.func20, Tryd.ntmps20
  go_wp2_with fail
  refine (whole_ok 10 (by omega) xs HH.out.2.2.2.2 A cc hcc hB (by omega) _ (Kd.C_below HH.out.1 b0)).mono ?_
  rintro e w1 ⟨rfl, hb1⟩
  have H1 := Lib.hid (And.intro (below_step b0 hb1) (blk_below r0 hb1))
  clear b0 r0 hb1
  go_wp2_with fail
  have bg := H1.out.1.alloc H1.out.1.size (.cells #[] 103)
  have hgx := blk_new w1 (.cells #[] 103)
  refine (Clone_any _ xs _ _ (readB_of hcc (Kd.C_below HH.out.1 bg)) (by omega)).mono ?_
  rintro e w2 ⟨v2, rfl, ho2, hb2⟩
  obtain ⟨A2, c2, rfl, hc2, hC2⟩ := Kd.R_reads ho2
  have b2 := below_step bg hb2
  have H2 := Lib.hid (And.intro b2 (And.intro (blk_below (blk_alloc H1.out.2 (.cells #[] 103)) hb2) (And.intro hC2 (And.intro (blk_below hgx hb2) (HH.out.2.1.on b2)))))
  have hs2 := b2.size
  clear bg hgx ho2 hb2 b2 hC2
  go_wp2_with fail
  refine (packet_any xs p HH.out.2.2.1 HH.out.2.2.2.1 A2 c2 hc2 hB (by omega) w2 H2.out.2.2.1 z H2.out.2.2.2.2 w1.heap.size H2.out.2.2.2.1).mono ?_
  rintro e w3 ⟨rfl, V', ps, b, r1, r2, r3, r4⟩
  obtain ⟨A5, c5, rfl, -⟩ := Kd.R_slice r2
  obtain ⟨sc, hsc⟩ : ∃ sc, sc = strOfNums p.com := ⟨_, rfl⟩
  have hpk : pkP p = if p.kind = 165 then ⟨p.ver, sc, p.kind, p.id, 0, 0, p.st, p.ix⟩ else ⟨p.ver, sc, p.kind, p.id, p.st, p.ix, 0, 0⟩ := by
    unfold pkP pkOf
    rw [hsc]
  have hI := HH.out.2.2.2.1
  have v0 := hI.v0
  have v1 := hI.v1
  have k0 := hI.k0
  have k1 := hI.k1
  have k4 := hI.k4
  have s0 := hI.s0
  have s1 := hI.s1
  have x0 := hI.x0
  have x1 := hI.x1
  have z4 : (p.kind == 164) = false := beq_eq_false_iff_ne.2 k4
  have H3 := Lib.hid (And.intro (below_step H2.out.1 r4) (And.intro (blk_below H2.out.2.1 r4) (And.intro r2 (And.intro r3 (And.intro (Kd.C_below H2.out.2.2.1 r4) hsc)))))
  obtain ⟨ver, hver⟩ : ∃ ver, ver = p.ver := ⟨_, rfl⟩
  obtain ⟨kind, hkind⟩ : ∃ kind, kind = p.kind := ⟨_, rfl⟩
  obtain ⟨id, hid⟩ : ∃ id, id = p.id := ⟨_, rfl⟩
  obtain ⟨st, hst⟩ : ∃ st, st = p.st := ⟨_, rfl⟩
  obtain ⟨ix, hix⟩ : ∃ ix, ix = p.ix := ⟨_, rfl⟩
  rw [← hver] at v0 v1 hpk
  rw [← hkind] at k0 k1 k4 z4 hpk
  rw [← hid] at hpk
  rw [← hst] at s0 s1 hpk
  rw [← hix] at x0 x1 hpk
  have HE := Lib.hid (And.intro hver (And.intro hkind (And.intro hid (And.intro hst hix))))
  rw [hpk] at r1
  clear hI hsc r2 r3 r4 hver hkind hid hst hix hpk
  by_cases k5 : kind = 165
  · rw [if_pos k5] at r1
    have z5 : (kind == 165) = true := beq_iff_eq.2 k5
    clear k5
    have q0 : w3.cell? ⟨w2.heap.size, 0, none⟩ = some (.int .u8 ver) := (blk_cell r1 0).trans rfl
    have q1 : w3.cell? ⟨w2.heap.size, 1, none⟩ = some (.string sc) := (blk_cell r1 1).trans rfl
    have q2 : w3.cell? ⟨w2.heap.size, 2, none⟩ = some (.int .u8 kind) := (blk_cell r1 2).trans rfl
    have q4 : w3.cell? ⟨w2.heap.size, 4, none⟩ = some (.int .u32 id) := (blk_cell r1 4).trans rfl
    have q6 : w3.cell? ⟨w2.heap.size, 8, none⟩ = some (.int .u8 st) := (blk_cell r1 8).trans rfl
    have q7 : w3.cell? ⟨w2.heap.size, 9, none⟩ = some (.int .u32 ix) := (blk_cell r1 9).trans rfl
    have q10 : w3.cell? ⟨w2.heap.size, 10, none⟩ = some (.slice A5 ps.length c5) := (blk_cell r1 10).trans rfl
    have HP := Lib.hid r1
    clear r1
    go_wp2_with fail
    have n0 := World.new_ne w3 _ q0
    have wver : IntKind.i64.wrap ver = ver := by simp [IntKind.wrap, IntKind.bits, IntKind.signed]; omega
    have wkind : IntKind.i64.wrap kind = kind := by simp [IntKind.wrap, IntKind.bits, IntKind.signed]; omega
    have wst : IntKind.i64.wrap st = st := by simp [IntKind.wrap, IntKind.bits, IntKind.signed]; omega
    have wix : IntKind.i64.wrap ix = ix := by simp [IntKind.wrap, IntKind.bits, IntKind.signed]; omega
    go_region_held3 (fun w' => w'.cell? ⟨w2.heap.size, 0, none⟩ = some (.int .u8 ver) ∧ w'.cell? ⟨w2.heap.size, 1, none⟩ = some (.string sc) ∧ w'.cell? ⟨w2.heap.size, 2, none⟩ = some (.int .u8 kind) ∧ w'.cell? ⟨w2.heap.size, 4, none⟩ = some (.int .u32 id)) (first | with_reducible exact ⟨cell_dr q0, cell_dr q1, cell_dr q2, cell_dr q4⟩ | with_reducible exact ⟨cell_al (cell_dr q0) _, cell_al (cell_dr q1) _, cell_al (cell_dr q2) _, cell_al (cell_dr q4) _⟩ | with_reducible exact ⟨cell_dr (cell_al q0 _), cell_dr (cell_al q1 _), cell_dr (cell_al q2 _), cell_dr (cell_al q4 _)⟩ | go_keep) (fail)
    go_wp2_with fail
    have b34 : Below w3.heap.size w3 (w3.alloc (msgO (⟨ver, sc, kind, id, 0, 0, ⟨#[]⟩, ⟨#[]⟩, 0, 0, 0⟩ : MsgT) (.slice none 0 0))).drew := below_drew ((Below.refl w3.heap.size w3).alloc (Nat.le_refl _) _)
    have hout : (w3.alloc (msgO (⟨ver, sc, kind, id, 0, 0, ⟨#[]⟩, ⟨#[]⟩, 0, 0, 0⟩ : MsgT) (.slice none 0 0))).drew.heap[w3.heap.size]? = some (msgO (⟨ver, sc, kind, id, 0, 0, ⟨#[]⟩, ⟨#[]⟩, 0, 0, 0⟩ : MsgT) (.slice none 0 0)) := blk_new w3 _
    have hp4 := blk_below HP.out b34
    have H4 := Lib.hid (And.intro b34 hout)
    have hz23 : w2.heap.size < w3.heap.size := blk_lt HP.out
    generalize (w3.alloc (msgO (⟨ver, sc, kind, id, 0, 0, ⟨#[]⟩, ⟨#[]⟩, 0, 0, 0⟩ : MsgT) (.slice none 0 0))).drew = w4 at *
    have o4 : w4.cell? ⟨w3.heap.size, 4, none⟩ = some (.int .i64 0) := (blk_cell hout 4).trans rfl
    have o5 : w4.cell? ⟨w3.heap.size, 5, none⟩ = some (.int .i64 0) := (blk_cell hout 5).trans rfl
    have fo4 := blk_frozen hout 4
    have fo5 := blk_frozen hout 5
    have t6 : w4.cell? ⟨w2.heap.size, 8, none⟩ = some (.int .u8 st) := (blk_cell hp4 8).trans rfl
    have t7 : w4.cell? ⟨w2.heap.size, 9, none⟩ = some (.int .u32 ix) := (blk_cell hp4 9).trans rfl
    have hne : w3.heap.size ≠ w2.heap.size := by omega
    clear q0 q1 q2 q4 q6 q7 q10 n0 b34 hout hp4
    have mixed : Tryd.prog.follows Departure.mixedOrders = true := by kernel_rfl
    go_region_o
    have hout5 : ((w4.setCell ⟨w3.heap.size, 4, none⟩ (.int .i64 st)).setCell ⟨w3.heap.size, 5, none⟩ (.int .i64 ix)).drew.heap[w3.heap.size]? = some (msgO (⟨ver, sc, kind, id, st, ix, ⟨#[]⟩, ⟨#[]⟩, 0, 0, 0⟩ : MsgT) (.slice none 0 0)) := blk_put (cs' := (⟨ver, sc, kind, id, st, ix, ⟨#[]⟩, ⟨#[]⟩, 0, 0, 0⟩ : MsgT).arr (.slice none 0 0)) (blk_put (cs' := (⟨ver, sc, kind, id, st, 0, ⟨#[]⟩, ⟨#[]⟩, 0, 0, 0⟩ : MsgT).arr (.slice none 0 0)) H4.out.2 4 (.int .i64 st) rfl) 5 (.int .i64 ix) rfl
    have b35 : Below w3.heap.size w3 ((w4.setCell ⟨w3.heap.size, 4, none⟩ (.int .i64 st)).setCell ⟨w3.heap.size, 5, none⟩ (.int .i64 ix)).drew := below_drew (below_set (j := 5) (v := .int .i64 ix) (below_set (j := 4) (v := .int .i64 st) H4.out.1 (Nat.le_refl _)) (Nat.le_refl _))
    have H5 := Lib.hid (And.intro b35 hout5)
    clear o4 o5 fo4 fo5 t6 t7 hne mixed hout5
    generalize ((w4.setCell ⟨w3.heap.size, 4, none⟩ (.int .i64 st)).setCell ⟨w3.heap.size, 5, none⟩ (.int .i64 ix)).drew = w5 at *
    have t10 : w5.cell? ⟨w2.heap.size, 10, none⟩ = some (.slice A5 ps.length c5) := (blk_cell (blk_below HP.out b35) 10).trans rfl
    clear b35
    go_wp2_with fail
    try simp only [wver, wkind, wst, wix]
    go_loopg [113] ps.length (fun k v113 wr => ∃ j : Nat, v113 = .int .i64 j ∧ Hid (∃ V' : Value, j ≤ ps.length ∧ k = ps.length - j ∧ Below w3.heap.size w3 wr ∧ wr.heap[w3.heap.size]? = some (msgO (⟨ver, sc, kind, id, st, ix, ⟨#[]⟩, ⟨#[]⟩, 0, 0, 0⟩ : MsgT) V') ∧ OwnV wr (w3.heap.size + 1) V' ((p.vars.take j).map VarP.t)))
    case atStart => exact ⟨0, rfl, Lib.hid ⟨_, Nat.zero_le _, rfl, H5.out.1, H5.out.2, OwnV.nil _ _⟩⟩
    case round =>
      obtain ⟨j, rfl, HJ⟩ := hrel
      obtain ⟨V', hj, hk, hbw, hout, hown⟩ := HJ.out
      clear HJ H5 t10
      have hpl := H3.out.2.2.2.1.1
      by_cases hjl : j < ps.length
      · obtain ⟨A9, c9, e9, hc9, hC9⟩ := Kd.R_reads H3.out.2.2.1
        obtain rfl : A5 = A9 := by injection e9
        clear e9
        obtain ⟨ad, rfl, y0, y1, y2⟩ := pdu_at (Kd.C_below hC9 hbw) j hjl
        have hjv : j < p.vars.length := by omega
        have hpi := H3.out.2.2.2.1.2 j hjv hjl
        have htk : (p.vars.take (j + 1)).map VarP.t = (p.vars.take j).map VarP.t ++ [VarP.t p.vars[j]] := by
          rw [List.take_succ_eq_append_getElem hjv, List.map_append, List.map_cons, List.map_nil]
        have htl : ((p.vars.take j).map VarP.t).length = j := by simp; omega
        generalize ps[j] = pj at *
        generalize p.vars[j] = vj at *
        generalize (p.vars.take j).map VarP.t = ts at *
        obtain ⟨pv, pnm, pty⟩ := pj
        obtain ⟨p1, p2, p3, p4, p5⟩ := hpi
        simp only at p1 p2 p3 p4 p5 y0 y1 y2
        obtain ⟨AV, cV, rfl, -⟩ := Kd.R_slice hown
        rw [htl] at hown hout
        have HK := Lib.hid (And.intro hk (And.intro hbw (And.intro hout (And.intro hown (And.intro htk (And.intro htl (And.intro p1 (And.intro p2 p5))))))))
        clear hk hbw hout hown htk htl p1 p2 p5 hC9 hc9 hpl
        cases pv with
        | nil =>
          simp only [PV.val] at *
          go_wp2_with fail
          have bv := (Below.refl wr.heap.size wr).alloc (Nat.le_refl _) (pduO pnm pty (.nilIface))
          have hvb := blk_new wr (pduO pnm pty (.nilIface))
          have bvd := below_drew bv
          have hvd : (wr.alloc (pduO pnm pty (.nilIface))).drew.heap[wr.heap.size]? = some (pduO pnm pty (.nilIface)) := hvb
          have hod := blk_below HK.out.2.2.1 bvd
          have hzr : w3.heap.size < wr.heap.size := blk_lt HK.out.2.2.1
          refine start_ (n := 13) (S := fun w' => w'.cell? ⟨wr.heap.size, 0, none⟩ = some (.nilIface) ∧ w'.cell? ⟨wr.heap.size, 1, none⟩ = some (.string pnm) ∧ w'.cell? ⟨wr.heap.size, 2, none⟩ = some (.int .u8 pty) ∧ w'.cell? ⟨w3.heap.size, 6, none⟩ = some (.slice AV j cV)) (ds := [12]) #[false, false, false, false, false, false, false, false, false, false, false, false, false] (by kernel_rfl) rfl rfl ⟨(blk_cell hvd 0).trans rfl, (blk_cell hvd 1).trans rfl, (blk_cell hvd 2).trans rfl, (blk_cell hod 6).trans rfl⟩ (fun hHeld => ?_)
          have HD := Lib.hid (And.intro bvd (And.intro hvd hod))
          clear bv hvb bvd hvd hod y0 y1 y2
          generalize (wr.alloc (pduO pnm pty (.nilIface))).drew = wd at *
          refine pure_ (i := 0) (N := some 117) (v := ?_) (a' := ?_) #[true, false, false, false, false, false, false, false, false, false, false, false, false] rfl rfl (by kernel_rfl) (fun _ _ _ h => h) (Or.inl ⟨by rfl, ?_⟩) ?_ ?_
          rotate_left
          · intro w'
            go_simp
            with_reducible rfl
          rotate_left
          · simp only [Act.put, List.setIfInBounds_toArray, List.set_cons_zero, List.set_cons_succ]
            rfl
          refine pure_ (i := 2) (N := some 119) (v := ?_) (a' := ?_) #[true, false, true, false, false, false, false, false, false, false, false, false, false] rfl rfl (by kernel_rfl) (fun _ _ _ h => h) (Or.inl ⟨by rfl, ?_⟩) ?_ ?_
          rotate_left
          · intro w'
            go_simp
            with_reducible rfl
          rotate_left
          · simp only [Act.put, List.setIfInBounds_toArray, List.set_cons_zero, List.set_cons_succ]
            rfl
          refine pure_ (i := 4) (N := some 121) (v := ?_) (a' := ?_) #[true, false, true, false, true, false, false, false, false, false, false, false, false] rfl rfl (by kernel_rfl) (fun _ _ _ h => h) (Or.inl ⟨by rfl, ?_⟩) ?_ ?_
          rotate_left
          · intro w'
            go_simp
            with_reducible rfl
          rotate_left
          · simp only [Act.put, List.setIfInBounds_toArray, List.set_cons_zero, List.set_cons_succ]
            rfl
          refine pure_ (i := 6) (N := some 123) (v := ?_) (a' := ?_) #[true, false, true, false, true, false, true, false, false, false, false, false, false] rfl rfl (by kernel_rfl) (fun _ _ _ h => h) (Or.inl ⟨by rfl, ?_⟩) ?_ ?_
          rotate_left
          · intro w'
            go_simp
            with_reducible rfl
          rotate_left
          · simp only [Act.put, List.setIfInBounds_toArray, List.set_cons_zero, List.set_cons_succ]
            rfl
          refine take_ (i := 1) (N := some 118) (v := ?_) (a' := ?_) #[true, true, true, false, true, false, true, false, false, false, false, false, false] rfl rfl (by kernel_rfl) (fun _ _ _ h => h) (Or.inl ⟨by rfl, ?_⟩) hHeld ?_ ?_
          rotate_left
          · rintro w' ⟨s0, s1, s2, s6⟩
            go_simp
            with_reducible rfl
          rotate_left
          · simp only [Act.put, List.setIfInBounds_toArray, List.set_cons_zero, List.set_cons_succ]
            rfl
          refine take_ (i := 3) (N := some 120) (v := ?_) (a' := ?_) #[true, true, true, true, true, false, true, false, false, false, false, false, false] rfl rfl (by kernel_rfl) (fun _ _ _ h => h) (Or.inl ⟨by rfl, ?_⟩) hHeld ?_ ?_
          rotate_left
          · rintro w' ⟨s0, s1, s2, s6⟩
            go_simp
            with_reducible rfl
          rotate_left
          · simp only [Act.put, List.setIfInBounds_toArray, List.set_cons_zero, List.set_cons_succ]
            rfl
          refine take_ (i := 5) (N := some 122) (v := ?_) (a' := ?_) #[true, true, true, true, true, true, true, false, false, false, false, false, false] rfl rfl (by kernel_rfl) (fun _ _ _ h => h) (Or.inl ⟨by rfl, ?_⟩) hHeld ?_ ?_
          rotate_left
          · rintro w' ⟨s0, s1, s2, s6⟩
            go_simp
            with_reducible rfl
          rotate_left
          · simp only [Act.put, List.setIfInBounds_toArray, List.set_cons_zero, List.set_cons_succ]
            rfl
          refine take_ (i := 7) (N := some 124) (v := ?_) (a' := ?_) #[true, true, true, true, true, true, true, true, false, false, false, false, false] rfl rfl (by kernel_rfl) (fun _ _ _ h => h) (Or.inl ⟨by rfl, ?_⟩) hHeld ?_ ?_
          rotate_left
          · rintro w' ⟨s0, s1, s2, s6⟩
            go_simp
            with_reducible rfl
          rotate_left
          · simp only [Act.put, List.setIfInBounds_toArray, List.set_cons_zero, List.set_cons_succ]
            rfl
          refine one_ (i := 8) (N := some 125) #[true, true, true, true, true, true, true, true, true, false, false, false, false] rfl rfl (by kernel_rfl) (by decide) (fun K hK => ?_)
          refine goes_ Tryd.func37 (by kernel_rfl) rfl #[.string pnm, .int .u8 pty, .nilIface] (by rfl) rfl rfl (by (try simp only [List.map_toArray, List.map_cons, List.map_nil]); first | done | rfl) ?_
          refine (told_any pnm pty p3 p4 (.nilIface) vj.2.2.1 vj.2.2.2.1 vj.2.2.2.2 wd (HK.out.2.2.2.2.2.2.2.2 wd (Kd.C_below H3.out.2.2.2.2.1 (below_step HK.out.2.1 HD.out.1)))).mono ?_
          rintro e w6 ⟨rfl, hb6⟩
          refine ⟨_, rfl, ?_⟩
          have hv6 := blk_below HD.out.2.1 hb6
          have ho6 := blk_below HD.out.2.2 hb6
          have b6 := below_step HD.out.1 hb6
          have hown6 := HK.out.2.2.2.1.below b6
          obtain ⟨i', hi'⟩ : ∃ i', i' = vj.2.2.1 := ⟨_, rfl⟩
          obtain ⟨u', hu'⟩ : ∃ u', u' = vj.2.2.2.1 := ⟨_, rfl⟩
          obtain ⟨dt, hdt⟩ : ∃ dt, dt = strOfNums vj.2.2.2.2 := ⟨_, rfl⟩
          rw [← hi', ← hu', ← hdt]
          have hvt : VarP.t vj = ⟨pnm, pty, i', u', dt⟩ := by rw [hi', hu', hdt, HK.out.2.2.2.2.2.2.1, HK.out.2.2.2.2.2.2.2.1]; rfl
          have H6 := Lib.hid (And.intro b6 (And.intro hown6 (And.intro hv6 (And.intro ho6 hvt))))
          have S6 : w6.cell? ⟨wr.heap.size, 0, none⟩ = some (.nilIface) ∧ w6.cell? ⟨wr.heap.size, 1, none⟩ = some (.string pnm) ∧ w6.cell? ⟨wr.heap.size, 2, none⟩ = some (.int .u8 pty) ∧ w6.cell? ⟨w3.heap.size, 6, none⟩ = some (.slice AV j cV) := ⟨(blk_cell hv6 0).trans rfl, (blk_cell hv6 1).trans rfl, (blk_cell hv6 2).trans rfl, (blk_cell ho6 6).trans rfl⟩
          clear hb6 hv6 ho6 b6 hown6 hi' hu' hdt hvt hHeld
          refine hK.out _ _ S6 (fun hHeld => ?_)
          clear hK K S6
          refine one_ (i := 9) (N := some 126) #[true, true, true, true, true, true, true, true, true, true, false, false, false] rfl rfl (by kernel_rfl) (by decide) (fun K hK => ?_)
          refine value_ (v := .slice (some ⟨w6.heap.size, 0, none⟩) 1 1) (w1 := w6.alloc (.cells #[.string pnm, .int .i64 pty, .int .i64 i', .int .u64 u', .string dt] 24)) (by rfl) rfl (by first | (go_simp; done) | (go_simp; rfl)) ?_
          refine hK.out _ _ ⟨cell_al hHeld.1 _, cell_al hHeld.2.1 _, cell_al hHeld.2.2.1 _, cell_al hHeld.2.2.2 _⟩ (fun hHeld => ?_)
          clear hK K
          refine one_ (i := 10) (N := some 127) #[true, true, true, true, true, true, true, true, true, true, true, false, false] rfl rfl (by kernel_rfl) (by decide) (fun K hK => ?_)
          have hl5 : (ts ++ [(⟨pnm, pty, i', u', dt⟩ : VarT)]).length = j + 1 := by rw [List.length_append, HK.out.2.2.2.2.2.1]; rfl
          have hs6 := H6.out.1.size
          refine app_var_step (W := w6) (by rfl) (.tmp 118) (.tmp 126) rfl (w3.heap.size + 1) (.slice AV j cV) ts ⟨pnm, pty, i', u', dt⟩ (by rfl) (by rfl) rfl H6.out.2.1 (by omega) (by rw [HK.out.2.2.2.2.2.1]; omega) ?_
          intro v1 w9 ho9 hg9 hat9
          obtain ⟨A8, c8, rfl, -⟩ := Kd.R_slice ho9
          rw [hl5] at ho9 ⊢
          have hkne : ∀ k, (Value.slice AV j cV).ownBlock = some k → k ≠ wr.heap.size := fun k hk => by
            obtain ⟨h0, -⟩ := Kd.R_bound HK.out.2.2.2.1
            have := (h0 k hk).2.2.1
            omega
          have hv9 := grown_blk hg9 H6.out.2.2.1 hkne
          have ho9b := grown_blk hg9 H6.out.2.2.2.1 (fun k hk => by have := H6.out.2.1.block k hk; omega)
          have z9 : w9.cell? ⟨w3.heap.size, 6, none⟩ = some (.slice AV j cV) := (blk_cell ho9b 6).trans rfl
          have zf9 := blk_frozen ho9b 6
          refine hK.out _ _ ⟨(blk_cell hv9 0).trans rfl, (blk_cell hv9 1).trans rfl, (blk_cell hv9 2).trans rfl, z9⟩ (fun hHeld => ?_)
          clear hK K
          refine pure_ (i := 11) (N := some 128) (v := ?_) (a' := ?_) #[true, true, true, true, true, true, true, true, true, true, true, true, false] rfl rfl (by kernel_rfl) (fun _ _ _ h => h) (Or.inl ⟨by rfl, ?_⟩) ?_ ?_
          rotate_left
          · intro w'
            go_simp
            with_reducible rfl
          rotate_left
          · simp only [Act.put, List.setIfInBounds_toArray, List.set_cons_zero, List.set_cons_succ]
            rfl
          refine last_ (i := 12) (N := none) #[true, true, true, true, true, true, true, true, true, true, true, true, true] rfl rfl (by kernel_rfl) (by decide) (fun K hK => ?_)
          refine skip_ (w1 := w9.setCell ⟨w3.heap.size, 6, none⟩ (.slice A8 (j + 1) c8)) (by rfl) rfl (by first | (go_simp; done) | (go_simp; rfl)) ?_
          refine hK.out _ _ ?_
          clear hK K
          refine done_ (by kernel_rfl) ?_
          have b9 := (below_step HK.out.2.1 H6.out.1).grown hg9 (by omega) (fun k hk => by have := H6.out.2.1.block k hk; omega)
          have hput : (w9.setCell ⟨w3.heap.size, 6, none⟩ (.slice A8 (j + 1) c8)).heap[w3.heap.size]? = some (msgO (⟨ver, sc, kind, id, st, ix, ⟨#[]⟩, ⟨#[]⟩, 0, 0, 0⟩ : MsgT) (.slice A8 (j + 1) c8)) := blk_put (cs' := (⟨ver, sc, kind, id, st, ix, ⟨#[]⟩, ⟨#[]⟩, 0, 0, 0⟩ : MsgT).arr (.slice A8 (j + 1) c8)) ho9b 6 _ rfl
          have ho10 : OwnV (w9.setCell ⟨w3.heap.size, 6, none⟩ (.slice A8 (j + 1) c8)) (w3.heap.size + 1) (.slice A8 (j + 1) c8) (ts ++ [⟨pnm, pty, i', u', dt⟩]) := ho9.move (fun k hk => Below.heap_setCell _ _ _ _ (by have := ho9.block k hk; show k ≠ w3.heap.size; omega))
          have H10 := Lib.hid (And.intro (below_set (j := 6) (v := .slice A8 (j + 1) c8) b9 (Nat.le_refl _)) (And.intro hput ho10))
          clear b9 hput ho10 ho9 hg9 hat9 hv9 ho9b z9 zf9 hHeld hkne
          go_wp2
          go_roundg (ps.length - (j + 1))
          case measure =>
            have := HK.out.1
            omega
          case rel => exact ⟨j + 1, by go_num, Lib.hid ⟨_, by omega, rfl, H10.out.1, H10.out.2.1, by rw [HK.out.2.2.2.2.1, H6.out.2.2.2.2]; exact H10.out.2.2⟩⟩
        | ifc t x =>
          simp only [PV.val] at *
          go_wp2_with fail
          have bv := (Below.refl wr.heap.size wr).alloc (Nat.le_refl _) (pduO pnm pty (.iface t x))
          have hvb := blk_new wr (pduO pnm pty (.iface t x))
          have bvd := below_drew bv
          have hvd : (wr.alloc (pduO pnm pty (.iface t x))).drew.heap[wr.heap.size]? = some (pduO pnm pty (.iface t x)) := hvb
          have hod := blk_below HK.out.2.2.1 bvd
          have hzr : w3.heap.size < wr.heap.size := blk_lt HK.out.2.2.1
          refine start_ (n := 13) (S := fun w' => w'.cell? ⟨wr.heap.size, 0, none⟩ = some (.iface t x) ∧ w'.cell? ⟨wr.heap.size, 1, none⟩ = some (.string pnm) ∧ w'.cell? ⟨wr.heap.size, 2, none⟩ = some (.int .u8 pty) ∧ w'.cell? ⟨w3.heap.size, 6, none⟩ = some (.slice AV j cV)) (ds := [12]) #[false, false, false, false, false, false, false, false, false, false, false, false, false] (by kernel_rfl) rfl rfl ⟨(blk_cell hvd 0).trans rfl, (blk_cell hvd 1).trans rfl, (blk_cell hvd 2).trans rfl, (blk_cell hod 6).trans rfl⟩ (fun hHeld => ?_)
          have HD := Lib.hid (And.intro bvd (And.intro hvd hod))
          clear bv hvb bvd hvd hod y0 y1 y2
          generalize (wr.alloc (pduO pnm pty (.iface t x))).drew = wd at *
          refine pure_ (i := 0) (N := some 117) (v := ?_) (a' := ?_) #[true, false, false, false, false, false, false, false, false, false, false, false, false] rfl rfl (by kernel_rfl) (fun _ _ _ h => h) (Or.inl ⟨by rfl, ?_⟩) ?_ ?_
          rotate_left
          · intro w'
            go_simp
            with_reducible rfl
          rotate_left
          · simp only [Act.put, List.setIfInBounds_toArray, List.set_cons_zero, List.set_cons_succ]
            rfl
          refine pure_ (i := 2) (N := some 119) (v := ?_) (a' := ?_) #[true, false, true, false, false, false, false, false, false, false, false, false, false] rfl rfl (by kernel_rfl) (fun _ _ _ h => h) (Or.inl ⟨by rfl, ?_⟩) ?_ ?_
          rotate_left
          · intro w'
            go_simp
            with_reducible rfl
          rotate_left
          · simp only [Act.put, List.setIfInBounds_toArray, List.set_cons_zero, List.set_cons_succ]
            rfl
          refine pure_ (i := 4) (N := some 121) (v := ?_) (a' := ?_) #[true, false, true, false, true, false, false, false, false, false, false, false, false] rfl rfl (by kernel_rfl) (fun _ _ _ h => h) (Or.inl ⟨by rfl, ?_⟩) ?_ ?_
          rotate_left
          · intro w'
            go_simp
            with_reducible rfl
          rotate_left
          · simp only [Act.put, List.setIfInBounds_toArray, List.set_cons_zero, List.set_cons_succ]
            rfl
          refine pure_ (i := 6) (N := some 123) (v := ?_) (a' := ?_) #[true, false, true, false, true, false, true, false, false, false, false, false, false] rfl rfl (by kernel_rfl) (fun _ _ _ h => h) (Or.inl ⟨by rfl, ?_⟩) ?_ ?_
          rotate_left
          · intro w'
            go_simp
            with_reducible rfl
          rotate_left
          · simp only [Act.put, List.setIfInBounds_toArray, List.set_cons_zero, List.set_cons_succ]
            rfl
          refine take_ (i := 1) (N := some 118) (v := ?_) (a' := ?_) #[true, true, true, false, true, false, true, false, false, false, false, false, false] rfl rfl (by kernel_rfl) (fun _ _ _ h => h) (Or.inl ⟨by rfl, ?_⟩) hHeld ?_ ?_
          rotate_left
          · rintro w' ⟨s0, s1, s2, s6⟩
            go_simp
            with_reducible rfl
          rotate_left
          · simp only [Act.put, List.setIfInBounds_toArray, List.set_cons_zero, List.set_cons_succ]
            rfl
          refine take_ (i := 3) (N := some 120) (v := ?_) (a' := ?_) #[true, true, true, true, true, false, true, false, false, false, false, false, false] rfl rfl (by kernel_rfl) (fun _ _ _ h => h) (Or.inl ⟨by rfl, ?_⟩) hHeld ?_ ?_
          rotate_left
          · rintro w' ⟨s0, s1, s2, s6⟩
            go_simp
            with_reducible rfl
          rotate_left
          · simp only [Act.put, List.setIfInBounds_toArray, List.set_cons_zero, List.set_cons_succ]
            rfl
          refine take_ (i := 5) (N := some 122) (v := ?_) (a' := ?_) #[true, true, true, true, true, true, true, false, false, false, false, false, false] rfl rfl (by kernel_rfl) (fun _ _ _ h => h) (Or.inl ⟨by rfl, ?_⟩) hHeld ?_ ?_
          rotate_left
          · rintro w' ⟨s0, s1, s2, s6⟩
            go_simp
            with_reducible rfl
          rotate_left
          · simp only [Act.put, List.setIfInBounds_toArray, List.set_cons_zero, List.set_cons_succ]
            rfl
          refine take_ (i := 7) (N := some 124) (v := ?_) (a' := ?_) #[true, true, true, true, true, true, true, true, false, false, false, false, false] rfl rfl (by kernel_rfl) (fun _ _ _ h => h) (Or.inl ⟨by rfl, ?_⟩) hHeld ?_ ?_
          rotate_left
          · rintro w' ⟨s0, s1, s2, s6⟩
            go_simp
            with_reducible rfl
          rotate_left
          · simp only [Act.put, List.setIfInBounds_toArray, List.set_cons_zero, List.set_cons_succ]
            rfl
          refine one_ (i := 8) (N := some 125) #[true, true, true, true, true, true, true, true, true, false, false, false, false] rfl rfl (by kernel_rfl) (by decide) (fun K hK => ?_)
          refine goes_ Tryd.func37 (by kernel_rfl) rfl #[.string pnm, .int .u8 pty, .iface t x] (by rfl) rfl rfl (by (try simp only [List.map_toArray, List.map_cons, List.map_nil]); first | done | rfl) ?_
          refine (told_any pnm pty p3 p4 (.iface t x) vj.2.2.1 vj.2.2.2.1 vj.2.2.2.2 wd (HK.out.2.2.2.2.2.2.2.2 wd (Kd.C_below H3.out.2.2.2.2.1 (below_step HK.out.2.1 HD.out.1)))).mono ?_
          rintro e w6 ⟨rfl, hb6⟩
          refine ⟨_, rfl, ?_⟩
          have hv6 := blk_below HD.out.2.1 hb6
          have ho6 := blk_below HD.out.2.2 hb6
          have b6 := below_step HD.out.1 hb6
          have hown6 := HK.out.2.2.2.1.below b6
          obtain ⟨i', hi'⟩ : ∃ i', i' = vj.2.2.1 := ⟨_, rfl⟩
          obtain ⟨u', hu'⟩ : ∃ u', u' = vj.2.2.2.1 := ⟨_, rfl⟩
          obtain ⟨dt, hdt⟩ : ∃ dt, dt = strOfNums vj.2.2.2.2 := ⟨_, rfl⟩
          rw [← hi', ← hu', ← hdt]
          have hvt : VarP.t vj = ⟨pnm, pty, i', u', dt⟩ := by rw [hi', hu', hdt, HK.out.2.2.2.2.2.2.1, HK.out.2.2.2.2.2.2.2.1]; rfl
          have H6 := Lib.hid (And.intro b6 (And.intro hown6 (And.intro hv6 (And.intro ho6 hvt))))
          have S6 : w6.cell? ⟨wr.heap.size, 0, none⟩ = some (.iface t x) ∧ w6.cell? ⟨wr.heap.size, 1, none⟩ = some (.string pnm) ∧ w6.cell? ⟨wr.heap.size, 2, none⟩ = some (.int .u8 pty) ∧ w6.cell? ⟨w3.heap.size, 6, none⟩ = some (.slice AV j cV) := ⟨(blk_cell hv6 0).trans rfl, (blk_cell hv6 1).trans rfl, (blk_cell hv6 2).trans rfl, (blk_cell ho6 6).trans rfl⟩
          clear hb6 hv6 ho6 b6 hown6 hi' hu' hdt hvt hHeld
          refine hK.out _ _ S6 (fun hHeld => ?_)
          clear hK K S6
          refine one_ (i := 9) (N := some 126) #[true, true, true, true, true, true, true, true, true, true, false, false, false] rfl rfl (by kernel_rfl) (by decide) (fun K hK => ?_)
          refine value_ (v := .slice (some ⟨w6.heap.size, 0, none⟩) 1 1) (w1 := w6.alloc (.cells #[.string pnm, .int .i64 pty, .int .i64 i', .int .u64 u', .string dt] 24)) (by rfl) rfl (by first | (go_simp; done) | (go_simp; rfl)) ?_
          refine hK.out _ _ ⟨cell_al hHeld.1 _, cell_al hHeld.2.1 _, cell_al hHeld.2.2.1 _, cell_al hHeld.2.2.2 _⟩ (fun hHeld => ?_)
          clear hK K
          refine one_ (i := 10) (N := some 127) #[true, true, true, true, true, true, true, true, true, true, true, false, false] rfl rfl (by kernel_rfl) (by decide) (fun K hK => ?_)
          have hl5 : (ts ++ [(⟨pnm, pty, i', u', dt⟩ : VarT)]).length = j + 1 := by rw [List.length_append, HK.out.2.2.2.2.2.1]; rfl
          have hs6 := H6.out.1.size
          refine app_var_step (W := w6) (by rfl) (.tmp 118) (.tmp 126) rfl (w3.heap.size + 1) (.slice AV j cV) ts ⟨pnm, pty, i', u', dt⟩ (by rfl) (by rfl) rfl H6.out.2.1 (by omega) (by rw [HK.out.2.2.2.2.2.1]; omega) ?_
          intro v1 w9 ho9 hg9 hat9
          obtain ⟨A8, c8, rfl, -⟩ := Kd.R_slice ho9
          rw [hl5] at ho9 ⊢
          have hkne : ∀ k, (Value.slice AV j cV).ownBlock = some k → k ≠ wr.heap.size := fun k hk => by
            obtain ⟨h0, -⟩ := Kd.R_bound HK.out.2.2.2.1
            have := (h0 k hk).2.2.1
            omega
          have hv9 := grown_blk hg9 H6.out.2.2.1 hkne
          have ho9b := grown_blk hg9 H6.out.2.2.2.1 (fun k hk => by have := H6.out.2.1.block k hk; omega)
          have z9 : w9.cell? ⟨w3.heap.size, 6, none⟩ = some (.slice AV j cV) := (blk_cell ho9b 6).trans rfl
          have zf9 := blk_frozen ho9b 6
          refine hK.out _ _ ⟨(blk_cell hv9 0).trans rfl, (blk_cell hv9 1).trans rfl, (blk_cell hv9 2).trans rfl, z9⟩ (fun hHeld => ?_)
          clear hK K
          refine pure_ (i := 11) (N := some 128) (v := ?_) (a' := ?_) #[true, true, true, true, true, true, true, true, true, true, true, true, false] rfl rfl (by kernel_rfl) (fun _ _ _ h => h) (Or.inl ⟨by rfl, ?_⟩) ?_ ?_
          rotate_left
          · intro w'
            go_simp
            with_reducible rfl
          rotate_left
          · simp only [Act.put, List.setIfInBounds_toArray, List.set_cons_zero, List.set_cons_succ]
            rfl
          refine last_ (i := 12) (N := none) #[true, true, true, true, true, true, true, true, true, true, true, true, true] rfl rfl (by kernel_rfl) (by decide) (fun K hK => ?_)
          refine skip_ (w1 := w9.setCell ⟨w3.heap.size, 6, none⟩ (.slice A8 (j + 1) c8)) (by rfl) rfl (by first | (go_simp; done) | (go_simp; rfl)) ?_
          refine hK.out _ _ ?_
          clear hK K
          refine done_ (by kernel_rfl) ?_
          have b9 := (below_step HK.out.2.1 H6.out.1).grown hg9 (by omega) (fun k hk => by have := H6.out.2.1.block k hk; omega)
          have hput : (w9.setCell ⟨w3.heap.size, 6, none⟩ (.slice A8 (j + 1) c8)).heap[w3.heap.size]? = some (msgO (⟨ver, sc, kind, id, st, ix, ⟨#[]⟩, ⟨#[]⟩, 0, 0, 0⟩ : MsgT) (.slice A8 (j + 1) c8)) := blk_put (cs' := (⟨ver, sc, kind, id, st, ix, ⟨#[]⟩, ⟨#[]⟩, 0, 0, 0⟩ : MsgT).arr (.slice A8 (j + 1) c8)) ho9b 6 _ rfl
          have ho10 : OwnV (w9.setCell ⟨w3.heap.size, 6, none⟩ (.slice A8 (j + 1) c8)) (w3.heap.size + 1) (.slice A8 (j + 1) c8) (ts ++ [⟨pnm, pty, i', u', dt⟩]) := ho9.move (fun k hk => Below.heap_setCell _ _ _ _ (by have := ho9.block k hk; show k ≠ w3.heap.size; omega))
          have H10 := Lib.hid (And.intro (below_set (j := 6) (v := .slice A8 (j + 1) c8) b9 (Nat.le_refl _)) (And.intro hput ho10))
          clear b9 hput ho10 ho9 hg9 hat9 hv9 ho9b z9 zf9 hHeld hkne
          go_wp2
          go_roundg (ps.length - (j + 1))
          case measure =>
            have := HK.out.1
            omega
          case rel => exact ⟨j + 1, by go_num, Lib.hid ⟨_, by omega, rfl, H10.out.1, H10.out.2.1, by rw [HK.out.2.2.2.2.1, H6.out.2.2.2.2]; exact H10.out.2.2⟩⟩
      · obtain rfl : j = ps.length := by omega
        rw [show p.vars.take ps.length = p.vars by rw [hpl]; exact List.take_length] at hown
        obtain ⟨AV, cV, rfl, -⟩ := Kd.R_slice hown
        rw [List.length_map, ← hpl] at hown hout
        have hres := blk_below H3.out.2.1 hbw
        have hlt := blk_lt H3.out.2.1
        have hmp : msgP p = (⟨ver, sc, kind, id, st, ix, ⟨#[]⟩, ⟨#[]⟩, 0, 0, 0⟩ : MsgT) := by unfold msgP; rw [HE.out.1, HE.out.2.1, HE.out.2.2.1, HE.out.2.2.2.1, HE.out.2.2.2.2, H3.out.2.2.2.2.2]
        obtain ⟨o0, o1, o2, o3, o4, o5, o6, o7, o8, o9, o10, o11⟩ := msg_cells hout
        obtain ⟨r0, r1, r2, r3, r4, r5, r6, r7, r8, r9, r10, r11⟩ := msg_cells hres
        have hfr := fun i => blk_frozen hres i
        have f0 := hfr 0
        have f1 := hfr 1
        have f2 := hfr 2
        have f3 := hfr 3
        have f4 := hfr 4
        have f5 := hfr 5
        have f6 := hfr 6
        have f7 := hfr 7
        have f8 := hfr 8
        have f9 := hfr 9
        have f10 := hfr 10
        have f11 := hfr 11
        have HF := Lib.hid (And.intro hres (And.intro (below_step H3.out.1 hbw) (And.intro hown hmp)))
        have hne : w3.heap.size ≠ w.heap.size := by omega
        clear hres hbw hown hmp hout hfr hk hpl
        go_wp2
        refine msg_ret (m := (⟨ver, sc, kind, id, st, ix, ⟨#[]⟩, ⟨#[]⟩, 0, 0, 0⟩ : MsgT)) (v := .slice AV ps.length cV) rfl rfl rfl HF.out.1 ?_
        exact ⟨setMsg_below HF.out.2.1 (Nat.le_refl _) _ _, _, by rw [HF.out.2.2.2]; rfl, Kd.R_lower (OwnV.setMsg HF.out.2.2.1 w.heap.size (by omega) _ _) (by omega)⟩
  · rw [if_neg k5] at r1
    have z5 : (kind == 165) = false := beq_eq_false_iff_ne.2 k5
    have q0 : w3.cell? ⟨w2.heap.size, 0, none⟩ = some (.int .u8 ver) := (blk_cell r1 0).trans rfl
    have q1 : w3.cell? ⟨w2.heap.size, 1, none⟩ = some (.string sc) := (blk_cell r1 1).trans rfl
    have q2 : w3.cell? ⟨w2.heap.size, 2, none⟩ = some (.int .u8 kind) := (blk_cell r1 2).trans rfl
    have q4 : w3.cell? ⟨w2.heap.size, 4, none⟩ = some (.int .u32 id) := (blk_cell r1 4).trans rfl
    have q6 : w3.cell? ⟨w2.heap.size, 6, none⟩ = some (.int .u8 st) := (blk_cell r1 6).trans rfl
    have q7 : w3.cell? ⟨w2.heap.size, 7, none⟩ = some (.int .u8 ix) := (blk_cell r1 7).trans rfl
    have q10 : w3.cell? ⟨w2.heap.size, 10, none⟩ = some (.slice A5 ps.length c5) := (blk_cell r1 10).trans rfl
    have HP := Lib.hid r1
    clear r1
    go_wp2_with fail
    have n0 := World.new_ne w3 _ q0
    have wver : IntKind.i64.wrap ver = ver := by simp [IntKind.wrap, IntKind.bits, IntKind.signed]; omega
    have wkind : IntKind.i64.wrap kind = kind := by simp [IntKind.wrap, IntKind.bits, IntKind.signed]; omega
    have wst : IntKind.i64.wrap st = st := by simp [IntKind.wrap, IntKind.bits, IntKind.signed]; omega
    have wix : IntKind.i64.wrap ix = ix := by simp [IntKind.wrap, IntKind.bits, IntKind.signed]; omega
    go_region_held3 (fun w' => w'.cell? ⟨w2.heap.size, 0, none⟩ = some (.int .u8 ver) ∧ w'.cell? ⟨w2.heap.size, 1, none⟩ = some (.string sc) ∧ w'.cell? ⟨w2.heap.size, 2, none⟩ = some (.int .u8 kind) ∧ w'.cell? ⟨w2.heap.size, 4, none⟩ = some (.int .u32 id)) (first | with_reducible exact ⟨cell_dr q0, cell_dr q1, cell_dr q2, cell_dr q4⟩ | with_reducible exact ⟨cell_al (cell_dr q0) _, cell_al (cell_dr q1) _, cell_al (cell_dr q2) _, cell_al (cell_dr q4) _⟩ | with_reducible exact ⟨cell_dr (cell_al q0 _), cell_dr (cell_al q1 _), cell_dr (cell_al q2 _), cell_dr (cell_al q4 _)⟩ | go_keep) (fail)
    go_wp2_with fail
    have b34 : Below w3.heap.size w3 (w3.alloc (msgO (⟨ver, sc, kind, id, 0, 0, ⟨#[]⟩, ⟨#[]⟩, 0, 0, 0⟩ : MsgT) (.slice none 0 0))).drew := below_drew ((Below.refl w3.heap.size w3).alloc (Nat.le_refl _) _)
    have hout : (w3.alloc (msgO (⟨ver, sc, kind, id, 0, 0, ⟨#[]⟩, ⟨#[]⟩, 0, 0, 0⟩ : MsgT) (.slice none 0 0))).drew.heap[w3.heap.size]? = some (msgO (⟨ver, sc, kind, id, 0, 0, ⟨#[]⟩, ⟨#[]⟩, 0, 0, 0⟩ : MsgT) (.slice none 0 0)) := blk_new w3 _
    have hp4 := blk_below HP.out b34
    have H4 := Lib.hid (And.intro b34 hout)
    have hz23 : w2.heap.size < w3.heap.size := blk_lt HP.out
    generalize (w3.alloc (msgO (⟨ver, sc, kind, id, 0, 0, ⟨#[]⟩, ⟨#[]⟩, 0, 0, 0⟩ : MsgT) (.slice none 0 0))).drew = w4 at *
    have o4 : w4.cell? ⟨w3.heap.size, 4, none⟩ = some (.int .i64 0) := (blk_cell hout 4).trans rfl
    have o5 : w4.cell? ⟨w3.heap.size, 5, none⟩ = some (.int .i64 0) := (blk_cell hout 5).trans rfl
    have fo4 := blk_frozen hout 4
    have fo5 := blk_frozen hout 5
    have t6 : w4.cell? ⟨w2.heap.size, 6, none⟩ = some (.int .u8 st) := (blk_cell hp4 6).trans rfl
    have t7 : w4.cell? ⟨w2.heap.size, 7, none⟩ = some (.int .u8 ix) := (blk_cell hp4 7).trans rfl
    have hne : w3.heap.size ≠ w2.heap.size := by omega
    clear q0 q1 q2 q4 q6 q7 q10 n0 b34 hout hp4
    have mixed : Tryd.prog.follows Departure.mixedOrders = true := by kernel_rfl
    go_region_o
    have hout5 : ((w4.setCell ⟨w3.heap.size, 4, none⟩ (.int .i64 st)).setCell ⟨w3.heap.size, 5, none⟩ (.int .i64 ix)).drew.heap[w3.heap.size]? = some (msgO (⟨ver, sc, kind, id, st, ix, ⟨#[]⟩, ⟨#[]⟩, 0, 0, 0⟩ : MsgT) (.slice none 0 0)) := blk_put (cs' := (⟨ver, sc, kind, id, st, ix, ⟨#[]⟩, ⟨#[]⟩, 0, 0, 0⟩ : MsgT).arr (.slice none 0 0)) (blk_put (cs' := (⟨ver, sc, kind, id, st, 0, ⟨#[]⟩, ⟨#[]⟩, 0, 0, 0⟩ : MsgT).arr (.slice none 0 0)) H4.out.2 4 (.int .i64 st) rfl) 5 (.int .i64 ix) rfl
    have b35 : Below w3.heap.size w3 ((w4.setCell ⟨w3.heap.size, 4, none⟩ (.int .i64 st)).setCell ⟨w3.heap.size, 5, none⟩ (.int .i64 ix)).drew := below_drew (below_set (j := 5) (v := .int .i64 ix) (below_set (j := 4) (v := .int .i64 st) H4.out.1 (Nat.le_refl _)) (Nat.le_refl _))
    have H5 := Lib.hid (And.intro b35 hout5)
    clear o4 o5 fo4 fo5 t6 t7 hne mixed hout5
    generalize ((w4.setCell ⟨w3.heap.size, 4, none⟩ (.int .i64 st)).setCell ⟨w3.heap.size, 5, none⟩ (.int .i64 ix)).drew = w5 at *
    have t10 : w5.cell? ⟨w2.heap.size, 10, none⟩ = some (.slice A5 ps.length c5) := (blk_cell (blk_below HP.out b35) 10).trans rfl
    clear b35
    go_wp2_with fail
    try simp only [wver, wkind, wst, wix]
    go_loopg [113] ps.length (fun k v113 wr => ∃ j : Nat, v113 = .int .i64 j ∧ Hid (∃ V' : Value, j ≤ ps.length ∧ k = ps.length - j ∧ Below w3.heap.size w3 wr ∧ wr.heap[w3.heap.size]? = some (msgO (⟨ver, sc, kind, id, st, ix, ⟨#[]⟩, ⟨#[]⟩, 0, 0, 0⟩ : MsgT) V') ∧ OwnV wr (w3.heap.size + 1) V' ((p.vars.take j).map VarP.t)))
    case atStart => exact ⟨0, rfl, Lib.hid ⟨_, Nat.zero_le _, rfl, H5.out.1, H5.out.2, OwnV.nil _ _⟩⟩
    case round =>
      obtain ⟨j, rfl, HJ⟩ := hrel
      obtain ⟨V', hj, hk, hbw, hout, hown⟩ := HJ.out
      clear HJ H5 t10
      have hpl := H3.out.2.2.2.1.1
      by_cases hjl : j < ps.length
      · obtain ⟨A9, c9, e9, hc9, hC9⟩ := Kd.R_reads H3.out.2.2.1
        obtain rfl : A5 = A9 := by injection e9
        clear e9
        obtain ⟨ad, rfl, y0, y1, y2⟩ := pdu_at (Kd.C_below hC9 hbw) j hjl
        have hjv : j < p.vars.length := by omega
        have hpi := H3.out.2.2.2.1.2 j hjv hjl
        have htk : (p.vars.take (j + 1)).map VarP.t = (p.vars.take j).map VarP.t ++ [VarP.t p.vars[j]] := by
          rw [List.take_succ_eq_append_getElem hjv, List.map_append, List.map_cons, List.map_nil]
        have htl : ((p.vars.take j).map VarP.t).length = j := by simp; omega
        generalize ps[j] = pj at *
        generalize p.vars[j] = vj at *
        generalize (p.vars.take j).map VarP.t = ts at *
        obtain ⟨pv, pnm, pty⟩ := pj
        obtain ⟨p1, p2, p3, p4, p5⟩ := hpi
        simp only at p1 p2 p3 p4 p5 y0 y1 y2
        obtain ⟨AV, cV, rfl, -⟩ := Kd.R_slice hown
        rw [htl] at hown hout
        have HK := Lib.hid (And.intro hk (And.intro hbw (And.intro hout (And.intro hown (And.intro htk (And.intro htl (And.intro p1 (And.intro p2 p5))))))))
        clear hk hbw hout hown htk htl p1 p2 p5 hC9 hc9 hpl
        cases pv with
        | nil =>
          simp only [PV.val] at *
          go_wp2_with fail
          have bv := (Below.refl wr.heap.size wr).alloc (Nat.le_refl _) (pduO pnm pty (.nilIface))
          have hvb := blk_new wr (pduO pnm pty (.nilIface))
          have bvd := below_drew bv
          have hvd : (wr.alloc (pduO pnm pty (.nilIface))).drew.heap[wr.heap.size]? = some (pduO pnm pty (.nilIface)) := hvb
          have hod := blk_below HK.out.2.2.1 bvd
          have hzr : w3.heap.size < wr.heap.size := blk_lt HK.out.2.2.1
          refine start_ (n := 13) (S := fun w' => w'.cell? ⟨wr.heap.size, 0, none⟩ = some (.nilIface) ∧ w'.cell? ⟨wr.heap.size, 1, none⟩ = some (.string pnm) ∧ w'.cell? ⟨wr.heap.size, 2, none⟩ = some (.int .u8 pty) ∧ w'.cell? ⟨w3.heap.size, 6, none⟩ = some (.slice AV j cV)) (ds := [12]) #[false, false, false, false, false, false, false, false, false, false, false, false, false] (by kernel_rfl) rfl rfl ⟨(blk_cell hvd 0).trans rfl, (blk_cell hvd 1).trans rfl, (blk_cell hvd 2).trans rfl, (blk_cell hod 6).trans rfl⟩ (fun hHeld => ?_)
          have HD := Lib.hid (And.intro bvd (And.intro hvd hod))
          clear bv hvb bvd hvd hod y0 y1 y2
          generalize (wr.alloc (pduO pnm pty (.nilIface))).drew = wd at *
          refine pure_ (i := 0) (N := some 117) (v := ?_) (a' := ?_) #[true, false, false, false, false, false, false, false, false, false, false, false, false] rfl rfl (by kernel_rfl) (fun _ _ _ h => h) (Or.inl ⟨by rfl, ?_⟩) ?_ ?_
          rotate_left
          · intro w'
            go_simp
            with_reducible rfl
          rotate_left
          · simp only [Act.put, List.setIfInBounds_toArray, List.set_cons_zero, List.set_cons_succ]
            rfl
          refine pure_ (i := 2) (N := some 119) (v := ?_) (a' := ?_) #[true, false, true, false, false, false, false, false, false, false, false, false, false] rfl rfl (by kernel_rfl) (fun _ _ _ h => h) (Or.inl ⟨by rfl, ?_⟩) ?_ ?_
          rotate_left
          · intro w'
            go_simp
            with_reducible rfl
          rotate_left
          · simp only [Act.put, List.setIfInBounds_toArray, List.set_cons_zero, List.set_cons_succ]
            rfl
          refine pure_ (i := 4) (N := some 121) (v := ?_) (a' := ?_) #[true, false, true, false, true, false, false, false, false, false, false, false, false] rfl rfl (by kernel_rfl) (fun _ _ _ h => h) (Or.inl ⟨by rfl, ?_⟩) ?_ ?_
          rotate_left
          · intro w'
            go_simp
            with_reducible rfl
          rotate_left
          · simp only [Act.put, List.setIfInBounds_toArray, List.set_cons_zero, List.set_cons_succ]
            rfl
          refine pure_ (i := 6) (N := some 123) (v := ?_) (a' := ?_) #[true, false, true, false, true, false, true, false, false, false, false, false, false] rfl rfl (by kernel_rfl) (fun _ _ _ h => h) (Or.inl ⟨by rfl, ?_⟩) ?_ ?_
          rotate_left
          · intro w'
            go_simp
            with_reducible rfl
          rotate_left
          · simp only [Act.put, List.setIfInBounds_toArray, List.set_cons_zero, List.set_cons_succ]
            rfl
          refine take_ (i := 1) (N := some 118) (v := ?_) (a' := ?_) #[true, true, true, false, true, false, true, false, false, false, false, false, false] rfl rfl (by kernel_rfl) (fun _ _ _ h => h) (Or.inl ⟨by rfl, ?_⟩) hHeld ?_ ?_
          rotate_left
          · rintro w' ⟨s0, s1, s2, s6⟩
            go_simp
            with_reducible rfl
          rotate_left
          · simp only [Act.put, List.setIfInBounds_toArray, List.set_cons_zero, List.set_cons_succ]
            rfl
          refine take_ (i := 3) (N := some 120) (v := ?_) (a' := ?_) #[true, true, true, true, true, false, true, false, false, false, false, false, false] rfl rfl (by kernel_rfl) (fun _ _ _ h => h) (Or.inl ⟨by rfl, ?_⟩) hHeld ?_ ?_
          rotate_left
          · rintro w' ⟨s0, s1, s2, s6⟩
            go_simp
            with_reducible rfl
          rotate_left
          · simp only [Act.put, List.setIfInBounds_toArray, List.set_cons_zero, List.set_cons_succ]
            rfl
          refine take_ (i := 5) (N := some 122) (v := ?_) (a' := ?_) #[true, true, true, true, true, true, true, false, false, false, false, false, false] rfl rfl (by kernel_rfl) (fun _ _ _ h => h) (Or.inl ⟨by rfl, ?_⟩) hHeld ?_ ?_
          rotate_left
          · rintro w' ⟨s0, s1, s2, s6⟩
            go_simp
            with_reducible rfl
          rotate_left
          · simp only [Act.put, List.setIfInBounds_toArray, List.set_cons_zero, List.set_cons_succ]
            rfl
          refine take_ (i := 7) (N := some 124) (v := ?_) (a' := ?_) #[true, true, true, true, true, true, true, true, false, false, false, false, false] rfl rfl (by kernel_rfl) (fun _ _ _ h => h) (Or.inl ⟨by rfl, ?_⟩) hHeld ?_ ?_
          rotate_left
          · rintro w' ⟨s0, s1, s2, s6⟩
            go_simp
            with_reducible rfl
          rotate_left
          · simp only [Act.put, List.setIfInBounds_toArray, List.set_cons_zero, List.set_cons_succ]
            rfl
          refine one_ (i := 8) (N := some 125) #[true, true, true, true, true, true, true, true, true, false, false, false, false] rfl rfl (by kernel_rfl) (by decide) (fun K hK => ?_)
          refine goes_ Tryd.func37 (by kernel_rfl) rfl #[.string pnm, .int .u8 pty, .nilIface] (by rfl) rfl rfl (by (try simp only [List.map_toArray, List.map_cons, List.map_nil]); first | done | rfl) ?_
          refine (told_any pnm pty p3 p4 (.nilIface) vj.2.2.1 vj.2.2.2.1 vj.2.2.2.2 wd (HK.out.2.2.2.2.2.2.2.2 wd (Kd.C_below H3.out.2.2.2.2.1 (below_step HK.out.2.1 HD.out.1)))).mono ?_
          rintro e w6 ⟨rfl, hb6⟩
          refine ⟨_, rfl, ?_⟩
          have hv6 := blk_below HD.out.2.1 hb6
          have ho6 := blk_below HD.out.2.2 hb6
          have b6 := below_step HD.out.1 hb6
          have hown6 := HK.out.2.2.2.1.below b6
          obtain ⟨i', hi'⟩ : ∃ i', i' = vj.2.2.1 := ⟨_, rfl⟩
          obtain ⟨u', hu'⟩ : ∃ u', u' = vj.2.2.2.1 := ⟨_, rfl⟩
          obtain ⟨dt, hdt⟩ : ∃ dt, dt = strOfNums vj.2.2.2.2 := ⟨_, rfl⟩
          rw [← hi', ← hu', ← hdt]
          have hvt : VarP.t vj = ⟨pnm, pty, i', u', dt⟩ := by rw [hi', hu', hdt, HK.out.2.2.2.2.2.2.1, HK.out.2.2.2.2.2.2.2.1]; rfl
          have H6 := Lib.hid (And.intro b6 (And.intro hown6 (And.intro hv6 (And.intro ho6 hvt))))
          have S6 : w6.cell? ⟨wr.heap.size, 0, none⟩ = some (.nilIface) ∧ w6.cell? ⟨wr.heap.size, 1, none⟩ = some (.string pnm) ∧ w6.cell? ⟨wr.heap.size, 2, none⟩ = some (.int .u8 pty) ∧ w6.cell? ⟨w3.heap.size, 6, none⟩ = some (.slice AV j cV) := ⟨(blk_cell hv6 0).trans rfl, (blk_cell hv6 1).trans rfl, (blk_cell hv6 2).trans rfl, (blk_cell ho6 6).trans rfl⟩
          clear hb6 hv6 ho6 b6 hown6 hi' hu' hdt hvt hHeld
          refine hK.out _ _ S6 (fun hHeld => ?_)
          clear hK K S6
          refine one_ (i := 9) (N := some 126) #[true, true, true, true, true, true, true, true, true, true, false, false, false] rfl rfl (by kernel_rfl) (by decide) (fun K hK => ?_)
          refine value_ (v := .slice (some ⟨w6.heap.size, 0, none⟩) 1 1) (w1 := w6.alloc (.cells #[.string pnm, .int .i64 pty, .int .i64 i', .int .u64 u', .string dt] 24)) (by rfl) rfl (by first | (go_simp; done) | (go_simp; rfl)) ?_
          refine hK.out _ _ ⟨cell_al hHeld.1 _, cell_al hHeld.2.1 _, cell_al hHeld.2.2.1 _, cell_al hHeld.2.2.2 _⟩ (fun hHeld => ?_)
          clear hK K
          refine one_ (i := 10) (N := some 127) #[true, true, true, true, true, true, true, true, true, true, true, false, false] rfl rfl (by kernel_rfl) (by decide) (fun K hK => ?_)
          have hl5 : (ts ++ [(⟨pnm, pty, i', u', dt⟩ : VarT)]).length = j + 1 := by rw [List.length_append, HK.out.2.2.2.2.2.1]; rfl
          have hs6 := H6.out.1.size
          refine app_var_step (W := w6) (by rfl) (.tmp 118) (.tmp 126) rfl (w3.heap.size + 1) (.slice AV j cV) ts ⟨pnm, pty, i', u', dt⟩ (by rfl) (by rfl) rfl H6.out.2.1 (by omega) (by rw [HK.out.2.2.2.2.2.1]; omega) ?_
          intro v1 w9 ho9 hg9 hat9
          obtain ⟨A8, c8, rfl, -⟩ := Kd.R_slice ho9
          rw [hl5] at ho9 ⊢
          have hkne : ∀ k, (Value.slice AV j cV).ownBlock = some k → k ≠ wr.heap.size := fun k hk => by
            obtain ⟨h0, -⟩ := Kd.R_bound HK.out.2.2.2.1
            have := (h0 k hk).2.2.1
            omega
          have hv9 := grown_blk hg9 H6.out.2.2.1 hkne
          have ho9b := grown_blk hg9 H6.out.2.2.2.1 (fun k hk => by have := H6.out.2.1.block k hk; omega)
          have z9 : w9.cell? ⟨w3.heap.size, 6, none⟩ = some (.slice AV j cV) := (blk_cell ho9b 6).trans rfl
          have zf9 := blk_frozen ho9b 6
          refine hK.out _ _ ⟨(blk_cell hv9 0).trans rfl, (blk_cell hv9 1).trans rfl, (blk_cell hv9 2).trans rfl, z9⟩ (fun hHeld => ?_)
          clear hK K
          refine pure_ (i := 11) (N := some 128) (v := ?_) (a' := ?_) #[true, true, true, true, true, true, true, true, true, true, true, true, false] rfl rfl (by kernel_rfl) (fun _ _ _ h => h) (Or.inl ⟨by rfl, ?_⟩) ?_ ?_
          rotate_left
          · intro w'
            go_simp
            with_reducible rfl
          rotate_left
          · simp only [Act.put, List.setIfInBounds_toArray, List.set_cons_zero, List.set_cons_succ]
            rfl
          refine last_ (i := 12) (N := none) #[true, true, true, true, true, true, true, true, true, true, true, true, true] rfl rfl (by kernel_rfl) (by decide) (fun K hK => ?_)
          refine skip_ (w1 := w9.setCell ⟨w3.heap.size, 6, none⟩ (.slice A8 (j + 1) c8)) (by rfl) rfl (by first | (go_simp; done) | (go_simp; rfl)) ?_
          refine hK.out _ _ ?_
          clear hK K
          refine done_ (by kernel_rfl) ?_
          have b9 := (below_step HK.out.2.1 H6.out.1).grown hg9 (by omega) (fun k hk => by have := H6.out.2.1.block k hk; omega)
          have hput : (w9.setCell ⟨w3.heap.size, 6, none⟩ (.slice A8 (j + 1) c8)).heap[w3.heap.size]? = some (msgO (⟨ver, sc, kind, id, st, ix, ⟨#[]⟩, ⟨#[]⟩, 0, 0, 0⟩ : MsgT) (.slice A8 (j + 1) c8)) := blk_put (cs' := (⟨ver, sc, kind, id, st, ix, ⟨#[]⟩, ⟨#[]⟩, 0, 0, 0⟩ : MsgT).arr (.slice A8 (j + 1) c8)) ho9b 6 _ rfl
          have ho10 : OwnV (w9.setCell ⟨w3.heap.size, 6, none⟩ (.slice A8 (j + 1) c8)) (w3.heap.size + 1) (.slice A8 (j + 1) c8) (ts ++ [⟨pnm, pty, i', u', dt⟩]) := ho9.move (fun k hk => Below.heap_setCell _ _ _ _ (by have := ho9.block k hk; show k ≠ w3.heap.size; omega))
          have H10 := Lib.hid (And.intro (below_set (j := 6) (v := .slice A8 (j + 1) c8) b9 (Nat.le_refl _)) (And.intro hput ho10))
          clear b9 hput ho10 ho9 hg9 hat9 hv9 ho9b z9 zf9 hHeld hkne
          go_wp2
          go_roundg (ps.length - (j + 1))
          case measure =>
            have := HK.out.1
            omega
          case rel => exact ⟨j + 1, by go_num, Lib.hid ⟨_, by omega, rfl, H10.out.1, H10.out.2.1, by rw [HK.out.2.2.2.2.1, H6.out.2.2.2.2]; exact H10.out.2.2⟩⟩
        | ifc t x =>
          simp only [PV.val] at *
          go_wp2_with fail
          have bv := (Below.refl wr.heap.size wr).alloc (Nat.le_refl _) (pduO pnm pty (.iface t x))
          have hvb := blk_new wr (pduO pnm pty (.iface t x))
          have bvd := below_drew bv
          have hvd : (wr.alloc (pduO pnm pty (.iface t x))).drew.heap[wr.heap.size]? = some (pduO pnm pty (.iface t x)) := hvb
          have hod := blk_below HK.out.2.2.1 bvd
          have hzr : w3.heap.size < wr.heap.size := blk_lt HK.out.2.2.1
          refine start_ (n := 13) (S := fun w' => w'.cell? ⟨wr.heap.size, 0, none⟩ = some (.iface t x) ∧ w'.cell? ⟨wr.heap.size, 1, none⟩ = some (.string pnm) ∧ w'.cell? ⟨wr.heap.size, 2, none⟩ = some (.int .u8 pty) ∧ w'.cell? ⟨w3.heap.size, 6, none⟩ = some (.slice AV j cV)) (ds := [12]) #[false, false, false, false, false, false, false, false, false, false, false, false, false] (by kernel_rfl) rfl rfl ⟨(blk_cell hvd 0).trans rfl, (blk_cell hvd 1).trans rfl, (blk_cell hvd 2).trans rfl, (blk_cell hod 6).trans rfl⟩ (fun hHeld => ?_)
          have HD := Lib.hid (And.intro bvd (And.intro hvd hod))
          clear bv hvb bvd hvd hod y0 y1 y2
          generalize (wr.alloc (pduO pnm pty (.iface t x))).drew = wd at *
          refine pure_ (i := 0) (N := some 117) (v := ?_) (a' := ?_) #[true, false, false, false, false, false, false, false, false, false, false, false, false] rfl rfl (by kernel_rfl) (fun _ _ _ h => h) (Or.inl ⟨by rfl, ?_⟩) ?_ ?_
          rotate_left
          · intro w'
            go_simp
            with_reducible rfl
          rotate_left
          · simp only [Act.put, List.setIfInBounds_toArray, List.set_cons_zero, List.set_cons_succ]
            rfl
          refine pure_ (i := 2) (N := some 119) (v := ?_) (a' := ?_) #[true, false, true, false, false, false, false, false, false, false, false, false, false] rfl rfl (by kernel_rfl) (fun _ _ _ h => h) (Or.inl ⟨by rfl, ?_⟩) ?_ ?_
          rotate_left
          · intro w'
            go_simp
            with_reducible rfl
          rotate_left
          · simp only [Act.put, List.setIfInBounds_toArray, List.set_cons_zero, List.set_cons_succ]
            rfl
          refine pure_ (i := 4) (N := some 121) (v := ?_) (a' := ?_) #[true, false, true, false, true, false, false, false, false, false, false, false, false] rfl rfl (by kernel_rfl) (fun _ _ _ h => h) (Or.inl ⟨by rfl, ?_⟩) ?_ ?_
          rotate_left
          · intro w'
            go_simp
            with_reducible rfl
          rotate_left
          · simp only [Act.put, List.setIfInBounds_toArray, List.set_cons_zero, List.set_cons_succ]
            rfl
          refine pure_ (i := 6) (N := some 123) (v := ?_) (a' := ?_) #[true, false, true, false, true, false, true, false, false, false, false, false, false] rfl rfl (by kernel_rfl) (fun _ _ _ h => h) (Or.inl ⟨by rfl, ?_⟩) ?_ ?_
          rotate_left
          · intro w'
            go_simp
            with_reducible rfl
          rotate_left
          · simp only [Act.put, List.setIfInBounds_toArray, List.set_cons_zero, List.set_cons_succ]
            rfl
          refine take_ (i := 1) (N := some 118) (v := ?_) (a' := ?_) #[true, true, true, false, true, false, true, false, false, false, false, false, false] rfl rfl (by kernel_rfl) (fun _ _ _ h => h) (Or.inl ⟨by rfl, ?_⟩) hHeld ?_ ?_
          rotate_left
          · rintro w' ⟨s0, s1, s2, s6⟩
            go_simp
            with_reducible rfl
          rotate_left
          · simp only [Act.put, List.setIfInBounds_toArray, List.set_cons_zero, List.set_cons_succ]
            rfl
          refine take_ (i := 3) (N := some 120) (v := ?_) (a' := ?_) #[true, true, true, true, true, false, true, false, false, false, false, false, false] rfl rfl (by kernel_rfl) (fun _ _ _ h => h) (Or.inl ⟨by rfl, ?_⟩) hHeld ?_ ?_
          rotate_left
          · rintro w' ⟨s0, s1, s2, s6⟩
            go_simp
            with_reducible rfl
          rotate_left
          · simp only [Act.put, List.setIfInBounds_toArray, List.set_cons_zero, List.set_cons_succ]
            rfl
          refine take_ (i := 5) (N := some 122) (v := ?_) (a' := ?_) #[true, true, true, true, true, true, true, false, false, false, false, false, false] rfl rfl (by kernel_rfl) (fun _ _ _ h => h) (Or.inl ⟨by rfl, ?_⟩) hHeld ?_ ?_
          rotate_left
          · rintro w' ⟨s0, s1, s2, s6⟩
            go_simp
            with_reducible rfl
          rotate_left
          · simp only [Act.put, List.setIfInBounds_toArray, List.set_cons_zero, List.set_cons_succ]
            rfl
          refine take_ (i := 7) (N := some 124) (v := ?_) (a' := ?_) #[true, true, true, true, true, true, true, true, false, false, false, false, false] rfl rfl (by kernel_rfl) (fun _ _ _ h => h) (Or.inl ⟨by rfl, ?_⟩) hHeld ?_ ?_
          rotate_left
          · rintro w' ⟨s0, s1, s2, s6⟩
            go_simp
            with_reducible rfl
          rotate_left
          · simp only [Act.put, List.setIfInBounds_toArray, List.set_cons_zero, List.set_cons_succ]
            rfl
          refine one_ (i := 8) (N := some 125) #[true, true, true, true, true, true, true, true, true, false, false, false, false] rfl rfl (by kernel_rfl) (by decide) (fun K hK => ?_)
          refine goes_ Tryd.func37 (by kernel_rfl) rfl #[.string pnm, .int .u8 pty, .iface t x] (by rfl) rfl rfl (by (try simp only [List.map_toArray, List.map_cons, List.map_nil]); first | done | rfl) ?_
          refine (told_any pnm pty p3 p4 (.iface t x) vj.2.2.1 vj.2.2.2.1 vj.2.2.2.2 wd (HK.out.2.2.2.2.2.2.2.2 wd (Kd.C_below H3.out.2.2.2.2.1 (below_step HK.out.2.1 HD.out.1)))).mono ?_
          rintro e w6 ⟨rfl, hb6⟩
          refine ⟨_, rfl, ?_⟩
          have hv6 := blk_below HD.out.2.1 hb6
          have ho6 := blk_below HD.out.2.2 hb6
          have b6 := below_step HD.out.1 hb6
          have hown6 := HK.out.2.2.2.1.below b6
          obtain ⟨i', hi'⟩ : ∃ i', i' = vj.2.2.1 := ⟨_, rfl⟩
          obtain ⟨u', hu'⟩ : ∃ u', u' = vj.2.2.2.1 := ⟨_, rfl⟩
          obtain ⟨dt, hdt⟩ : ∃ dt, dt = strOfNums vj.2.2.2.2 := ⟨_, rfl⟩
          rw [← hi', ← hu', ← hdt]
          have hvt : VarP.t vj = ⟨pnm, pty, i', u', dt⟩ := by rw [hi', hu', hdt, HK.out.2.2.2.2.2.2.1, HK.out.2.2.2.2.2.2.2.1]; rfl
          have H6 := Lib.hid (And.intro b6 (And.intro hown6 (And.intro hv6 (And.intro ho6 hvt))))
          have S6 : w6.cell? ⟨wr.heap.size, 0, none⟩ = some (.iface t x) ∧ w6.cell? ⟨wr.heap.size, 1, none⟩ = some (.string pnm) ∧ w6.cell? ⟨wr.heap.size, 2, none⟩ = some (.int .u8 pty) ∧ w6.cell? ⟨w3.heap.size, 6, none⟩ = some (.slice AV j cV) := ⟨(blk_cell hv6 0).trans rfl, (blk_cell hv6 1).trans rfl, (blk_cell hv6 2).trans rfl, (blk_cell ho6 6).trans rfl⟩
          clear hb6 hv6 ho6 b6 hown6 hi' hu' hdt hvt hHeld
          refine hK.out _ _ S6 (fun hHeld => ?_)
          clear hK K S6
          refine one_ (i := 9) (N := some 126) #[true, true, true, true, true, true, true, true, true, true, false, false, false] rfl rfl (by kernel_rfl) (by decide) (fun K hK => ?_)
          refine value_ (v := .slice (some ⟨w6.heap.size, 0, none⟩) 1 1) (w1 := w6.alloc (.cells #[.string pnm, .int .i64 pty, .int .i64 i', .int .u64 u', .string dt] 24)) (by rfl) rfl (by first | (go_simp; done) | (go_simp; rfl)) ?_
          refine hK.out _ _ ⟨cell_al hHeld.1 _, cell_al hHeld.2.1 _, cell_al hHeld.2.2.1 _, cell_al hHeld.2.2.2 _⟩ (fun hHeld => ?_)
          clear hK K
          refine one_ (i := 10) (N := some 127) #[true, true, true, true, true, true, true, true, true, true, true, false, false] rfl rfl (by kernel_rfl) (by decide) (fun K hK => ?_)
          have hl5 : (ts ++ [(⟨pnm, pty, i', u', dt⟩ : VarT)]).length = j + 1 := by rw [List.length_append, HK.out.2.2.2.2.2.1]; rfl
          have hs6 := H6.out.1.size
          refine app_var_step (W := w6) (by rfl) (.tmp 118) (.tmp 126) rfl (w3.heap.size + 1) (.slice AV j cV) ts ⟨pnm, pty, i', u', dt⟩ (by rfl) (by rfl) rfl H6.out.2.1 (by omega) (by rw [HK.out.2.2.2.2.2.1]; omega) ?_
          intro v1 w9 ho9 hg9 hat9
          obtain ⟨A8, c8, rfl, -⟩ := Kd.R_slice ho9
          rw [hl5] at ho9 ⊢
          have hkne : ∀ k, (Value.slice AV j cV).ownBlock = some k → k ≠ wr.heap.size := fun k hk => by
            obtain ⟨h0, -⟩ := Kd.R_bound HK.out.2.2.2.1
            have := (h0 k hk).2.2.1
            omega
          have hv9 := grown_blk hg9 H6.out.2.2.1 hkne
          have ho9b := grown_blk hg9 H6.out.2.2.2.1 (fun k hk => by have := H6.out.2.1.block k hk; omega)
          have z9 : w9.cell? ⟨w3.heap.size, 6, none⟩ = some (.slice AV j cV) := (blk_cell ho9b 6).trans rfl
          have zf9 := blk_frozen ho9b 6
          refine hK.out _ _ ⟨(blk_cell hv9 0).trans rfl, (blk_cell hv9 1).trans rfl, (blk_cell hv9 2).trans rfl, z9⟩ (fun hHeld => ?_)
          clear hK K
          refine pure_ (i := 11) (N := some 128) (v := ?_) (a' := ?_) #[true, true, true, true, true, true, true, true, true, true, true, true, false] rfl rfl (by kernel_rfl) (fun _ _ _ h => h) (Or.inl ⟨by rfl, ?_⟩) ?_ ?_
          rotate_left
          · intro w'
            go_simp
            with_reducible rfl
          rotate_left
          · simp only [Act.put, List.setIfInBounds_toArray, List.set_cons_zero, List.set_cons_succ]
            rfl
          refine last_ (i := 12) (N := none) #[true, true, true, true, true, true, true, true, true, true, true, true, true] rfl rfl (by kernel_rfl) (by decide) (fun K hK => ?_)
          refine skip_ (w1 := w9.setCell ⟨w3.heap.size, 6, none⟩ (.slice A8 (j + 1) c8)) (by rfl) rfl (by first | (go_simp; done) | (go_simp; rfl)) ?_
          refine hK.out _ _ ?_
          clear hK K
          refine done_ (by kernel_rfl) ?_
          have b9 := (below_step HK.out.2.1 H6.out.1).grown hg9 (by omega) (fun k hk => by have := H6.out.2.1.block k hk; omega)
          have hput : (w9.setCell ⟨w3.heap.size, 6, none⟩ (.slice A8 (j + 1) c8)).heap[w3.heap.size]? = some (msgO (⟨ver, sc, kind, id, st, ix, ⟨#[]⟩, ⟨#[]⟩, 0, 0, 0⟩ : MsgT) (.slice A8 (j + 1) c8)) := blk_put (cs' := (⟨ver, sc, kind, id, st, ix, ⟨#[]⟩, ⟨#[]⟩, 0, 0, 0⟩ : MsgT).arr (.slice A8 (j + 1) c8)) ho9b 6 _ rfl
          have ho10 : OwnV (w9.setCell ⟨w3.heap.size, 6, none⟩ (.slice A8 (j + 1) c8)) (w3.heap.size + 1) (.slice A8 (j + 1) c8) (ts ++ [⟨pnm, pty, i', u', dt⟩]) := ho9.move (fun k hk => Below.heap_setCell _ _ _ _ (by have := ho9.block k hk; show k ≠ w3.heap.size; omega))
          have H10 := Lib.hid (And.intro (below_set (j := 6) (v := .slice A8 (j + 1) c8) b9 (Nat.le_refl _)) (And.intro hput ho10))
          clear b9 hput ho10 ho9 hg9 hat9 hv9 ho9b z9 zf9 hHeld hkne
          go_wp2
          go_roundg (ps.length - (j + 1))
          case measure =>
            have := HK.out.1
            omega
          case rel => exact ⟨j + 1, by go_num, Lib.hid ⟨_, by omega, rfl, H10.out.1, H10.out.2.1, by rw [HK.out.2.2.2.2.1, H6.out.2.2.2.2]; exact H10.out.2.2⟩⟩
      · obtain rfl : j = ps.length := by omega
        rw [show p.vars.take ps.length = p.vars by rw [hpl]; exact List.take_length] at hown
        obtain ⟨AV, cV, rfl, -⟩ := Kd.R_slice hown
        rw [List.length_map, ← hpl] at hown hout
        have hres := blk_below H3.out.2.1 hbw
        have hlt := blk_lt H3.out.2.1
        have hmp : msgP p = (⟨ver, sc, kind, id, st, ix, ⟨#[]⟩, ⟨#[]⟩, 0, 0, 0⟩ : MsgT) := by unfold msgP; rw [HE.out.1, HE.out.2.1, HE.out.2.2.1, HE.out.2.2.2.1, HE.out.2.2.2.2, H3.out.2.2.2.2.2]
        obtain ⟨o0, o1, o2, o3, o4, o5, o6, o7, o8, o9, o10, o11⟩ := msg_cells hout
        obtain ⟨r0, r1, r2, r3, r4, r5, r6, r7, r8, r9, r10, r11⟩ := msg_cells hres
        have hfr := fun i => blk_frozen hres i
        have f0 := hfr 0
        have f1 := hfr 1
        have f2 := hfr 2
        have f3 := hfr 3
        have f4 := hfr 4
        have f5 := hfr 5
        have f6 := hfr 6
        have f7 := hfr 7
        have f8 := hfr 8
        have f9 := hfr 9
        have f10 := hfr 10
        have f11 := hfr 11
        have HF := Lib.hid (And.intro hres (And.intro (below_step H3.out.1 hbw) (And.intro hown hmp)))
        have hne : w3.heap.size ≠ w.heap.size := by omega
        clear hres hbw hown hmp hout hfr hk hpl
        go_wp2
        refine msg_ret (m := (⟨ver, sc, kind, id, st, ix, ⟨#[]⟩, ⟨#[]⟩, 0, 0, 0⟩ : MsgT)) (v := .slice AV ps.length cV) rfl rfl rfl HF.out.1 ?_
        exact ⟨setMsg_below HF.out.2.1 (Nat.le_refl _) _ _, _, by rw [HF.out.2.2.2]; rfl, Kd.R_lower (OwnV.setMsg HF.out.2.2.1 w.heap.size (by omega) _ _) (by omega)⟩
end Go.Proofs.YtangjgclpipjdaaDoor
