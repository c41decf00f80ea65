/- The lemmas and walks that FnEncode rests on, part 10: EncFnEncode EncBFnEncode EncP Same Told2. -/
import Derived.Test.YtangjgclpipjdaaDoorQE6
import Derived.Test.YtangjgclpipjdaaDoorQE9
set_option linter.unusedVariables false
namespace Go.Proofs.YtangjgclpipjdaaDoor
open Go.RowKit Go.Proofs.YtangjgclpipjdaaDoorW.PrintWords Go.Proofs.YtangjgclpipjdaaDoorW.PrintLast Go.Proofs.YtangjgclpipjdaaDoorW.PrintMore
/-- The bytes of a variable that is asked. -/
def svQ (q : VarT × Ask) : List Int := sVar q.2.arcs q.1.ty q.2.c 0
/-- What impl.pdu makes of a variable that is asked. -/
def PduOk (z : Addr) (q : VarT × Ask) (p : PduT) : Prop := p.nm = q.1.nm ∧ p.ty = q.1.ty ∧ (∀ w, ZZone z w → Calls Tryd.prog 26 #[varV q.1.nm q.1.ty q.1.i q.1.u q.1.tx] w fun e w' => e = .returned (.tuple #[pduV p.nm p.ty p.v.val, .bool true]) ∧ Below w.heap.size w w') ∧ VbOk z p (svQ q)
theorem pdu_of (z : Addr) (q : VarT × Ask) (h : okQ q) (hv : VarOk q.1) : ∃ p, PduOk z q p := by
  have hl := sVar_len q.2.arcs q.1.ty q.2.c (sArcs_text _ _ h.name).2.1 h.cont.len
  obtain ⟨val, hval, hp, hm⟩ := pdu_any q.1.nm q.1.tx q.1.ty q.1.i q.1.u q.2.arcs q.2.c q.2.i q.2.u q.2.tx h hv.i0 hv.i1 hv.u0 hv.u1 z
  have h1 : 1 ≤ (svQ q).length := by unfold svQ sVar sSealed; simp
  rcases hval with rfl | ⟨t, x, rfl⟩
  · exact ⟨⟨.nil, q.1.nm, q.1.ty⟩, rfl, rfl, hp, hl, h1, hm⟩
  · exact ⟨⟨.ifc t x, q.1.nm, q.1.ty⟩, rfl, rfl, hp, hl, h1, hm⟩
theorem pdus_of (z : Addr) : ∀ (qs : List (VarT × Ask)), (∀ q ∈ qs, okQ q) → (∀ q ∈ qs, VarOk q.1) → ∃ ps : List PduT, ps.length = qs.length ∧ ∀ j (h1 : j < ps.length) (h2 : j < qs.length), PduOk z qs[j] ps[j]
  | [], _, _ => ⟨[], rfl, fun j h1 => absurd h1 (by simp)⟩
  | q :: qs, h, hv => by
    obtain ⟨p, hp⟩ := pdu_of z q (h q (by simp)) (hv q (by simp))
    obtain ⟨ps, hl, hps⟩ := pdus_of z qs (fun x hx => h x (by simp [hx])) (fun x hx => hv x (by simp [hx]))
    refine ⟨p :: ps, by simp [hl], fun j h1 h2 => ?_⟩
    cases j with
    | zero => exact hp
    | succ j => exact hps j (by simpa using h1) (by simpa using h2)
def OwnP (w : World) (B : Nat) (v : Value) (xs : List PduT) : Prop := Kd.R kPdu 60 w B (fun _ => True) v xs
theorem infoPz : (Tryd.prog.info? 60).map (fun i => (i.zero, i.size, i.bytes)) = some (some (pduV ⟨#[]⟩ 0 .nilIface), 3, 40) := by kernel_rfl
/-- append(list, p): a list of the call's own. -/
theorem app_pdu {W : World} {ops : Array Oper} {rest : List Oper} {o : Oper} {a : Act} {Q : Exit → Act → World → Prop} (hgd : o.guard = none) (s x : Operand)
    (ho : o.op = .call { callee := .builtin .append, args := #[s, x], argTypes := #[86, 86] }) (B : Nat) (v : Value) (xs : List PduT) (p : PduT) (hs : a.eval s = v) {n : Nat} (hx : a.eval x = .slice (some ⟨n, 0, none⟩) 1 1) (hn : n = W.heap.size) (HO : OwnP W B v xs) (hB : B ≤ W.heap.size) (hl : xs.length ≤ 1000000)
    (h : ∀ v1 w1, OwnP w1 B v1 (xs ++ [p]) → W.grownBy w1 v.ownBlock → (v1.ownBlock = v.ownBlock ∨ ∃ b, v1.ownBlock = some b ∧ W.heap.size ≤ b) → wpList Tryd.prog ops Q rest (a.put o.dst v1) w1) :
    wpList Tryd.prog ops Q (o :: rest) a (W.alloc (.cells p.cells.toArray 60)) :=
  Kd.R_append kPdu (w0 := W) B hgd s x 86 60 (pduV ⟨#[]⟩ 0 .nilIface) 40 ho Tryd.underlying86 infoPz rfl (by decide) (by decide) v xs p p.cells (fun _ => True) (fun _ => False) hs (hn ▸ hx) rfl (fun _ h => h.elim) (fun _ _ => trivial) HO (Below.refl _ _) hB (by omega) (fun v1 w1 h1 _ hg hat => h v1 w1 h1 hg hat)
theorem OwnP.block {w : World} {B : Nat} {v : Value} {xs : List PduT} (h : OwnP w B v xs) (k : Nat) (hk : v.ownBlock = some k) : B ≤ k := Kd.R_base h k hk
theorem OwnP.below {w w1 : World} {B : Nat} {v : Value} {xs : List PduT} (h : OwnP w B v xs) (hb : Below w.heap.size w w1) : OwnP w1 B v xs := Kd.R_below h hb
theorem OwnP.nil (w : World) (B : Nat) : OwnP w B (.slice none 0 0) [] := Kd.R_nil kPdu _ _ _ _
theorem OwnP.move {w w1 : World} {B : Nat} {v : Value} {xs : List PduT} (h : OwnP w B v xs) (hm : ∀ k, v.ownBlock = some k → w1.heap[k]? = w.heap[k]?) : OwnP w1 B v xs := by
  obtain ⟨h0, inner, ho, hr⟩ := h
  exact ⟨h0, inner, own_move ho hm, hr⟩
/-- The bytes of a message. -/
def msgBytes (m : MsgT) (bss : List (List Int)) : List Int := sSealed 48 ([2, 1, m.ver] ++ [4, (m.com.size : Int)] ++ bs m.com ++ sSealed m.kind (bodyOf m.id m.st m.ix (sSealed 48 bss.flatten 0)) 0) 0
/-- What impl.pdu makes of a variable. -/
def PduDone (z : Addr) (v : VarT) (p : PduT) : Prop := ∀ w, ZZone z w → Calls Tryd.prog 26 #[varV v.nm v.ty v.i v.u v.tx] w fun e w' => e = .returned (.tuple #[pduV p.nm p.ty p.v.val, .bool true]) ∧ Below w.heap.size w w'
theorem body_len (id st ix : Int) (vb : List Int) (h : vb.length ≤ 14006) : (bodyOf id st ix vb).length ≤ 14100 := by
  have a := sSealed_len 2 (mInt32 id)
  have b := sSealed_len 2 [st]
  have c := sSealed_len 2 [ix]
  have d := mInt32_len id
  unfold bodyOf
  simp only [List.length_append, List.length_cons, List.length_nil] at *
  omega
set_option maxRecDepth 100000 in
set_option maxHeartbeats 8000000 in
theorem enc_rest (m : MsgT) (A : Option Addr) (c : Nat) (vs : List VarT) (ps : List PduT) (bss : List (List Int)) (hok : MsgOk m vs.length) (i0 : 0 ≤ m.id) (hk5 : m.kind ≠ 165) (z : Addr) (w : World) (hC : Kd.C kVar w A vs.length vs) (hZ : ZZone z w)
    (hl1 : ps.length = vs.length) (hl2 : ps.length = bss.length) (hp : ∀ j (h1 : j < ps.length) (h2 : j < vs.length), PduDone z vs[j] ps[j]) (hv : ∀ j (h1 : j < ps.length) (h2 : j < bss.length), VbOk z ps[j] bss[j]) :
    Calls Tryd.prog 16 #[.agg (m.arr (.slice A vs.length c))] w fun e w' => GotT w w' (msgBytes m bss) e := by
  obtain ⟨ver, com, kind, id, st, ix, ent, ag, gen, spc, tm⟩ := m
  obtain ⟨v0, v1, hcom, k0, k1, k4, s0, s1, x0, x1, n20, i1, hent, hag, hgen, hspc, htm⟩ := hok
  simp only at v0 v1 hcom k0 k1 k4 s0 s1 x0 x1 i1 hent hag hgen hspc htm i0 hk5
  subst hent hag hgen hspc htm
  have k4' : (kind == 164) = false := beq_eq_false_iff_ne.2 k4
  have k5' : (kind == 165) = false := beq_eq_false_iff_ne.2 hk5
  have HC := Lib.hid (And.intro hC hZ)
  have HP := Lib.hid (And.intro hl1 (And.intro hl2 (And.intro hp hv)))
  clear hC hZ hl1 hl2 hp hv
  go_enter Tryd.func16, Tryd.ntmps16
  go_wp2_with fail
  have hb2 := ((Below.refl w.heap.size w).alloc (Nat.le_refl _) (msgO (⟨ver, com, kind, id, st, ix, ⟨#[]⟩, ⟨#[]⟩, 0, 0, 0⟩ : MsgT) (.slice A vs.length c))).alloc (by simp) (pktO ⟨ver, com, kind, id, 0, 0, 0, 0⟩ (.slice none 0 0))
  have hm2 := blk_alloc (blk_new w (msgO (⟨ver, com, kind, id, st, ix, ⟨#[]⟩, ⟨#[]⟩, 0, 0, 0⟩ : MsgT) (.slice A vs.length c))) (pktO ⟨ver, com, kind, id, 0, 0, 0, 0⟩ (.slice none 0 0))
  have hp2 := blk_new (w.alloc (msgO (⟨ver, com, kind, id, st, ix, ⟨#[]⟩, ⟨#[]⟩, 0, 0, 0⟩ : MsgT) (.slice A vs.length c))) (pktO ⟨ver, com, kind, id, 0, 0, 0, 0⟩ (.slice none 0 0))
  rw [show (w.alloc (msgO (⟨ver, com, kind, id, st, ix, ⟨#[]⟩, ⟨#[]⟩, 0, 0, 0⟩ : MsgT) (.slice A vs.length c))).heap.size = w.heap.size + 1 by simp] at hp2
  generalize ((w.alloc (msgO (⟨ver, com, kind, id, st, ix, ⟨#[]⟩, ⟨#[]⟩, 0, 0, 0⟩ : MsgT) (.slice A vs.length c))).alloc (pktO ⟨ver, com, kind, id, 0, 0, 0, 0⟩ (.slice none 0 0))) = w2 at *
  obtain ⟨o0, o1, o2, o3, o4, o5, o6, o7, o8, o9, o10, o11⟩ := msg_cells hm2
  have p6 : w2.cell? ⟨w.heap.size + 1, 6, none⟩ = some (.int .u8 0) := (blk_cell hp2 6).trans rfl
  have p7 : w2.cell? ⟨w.heap.size + 1, 7, none⟩ = some (.int .u8 0) := (blk_cell hp2 7).trans rfl
  have fp6 := blk_frozen hp2 6
  have fp7 := blk_frozen hp2 7
  have hz1 := blk_lt hm2
  have hz2 := blk_lt hp2
  have g1 := blk_put (cs' := (⟨ver, com, kind, id, st, 0, 0, 0⟩ : PktT).arr (.slice none 0 0)) hp2 6 (.int .u8 st) rfl
  have g2 := blk_put (cs' := (⟨ver, com, kind, id, st, ix, 0, 0⟩ : PktT).arr (.slice none 0 0)) g1 7 (.int .u8 ix) rfl
  have hb3 := below_set (j := 7) (v := .int .u8 ix) (below_set (j := 6) (v := .int .u8 st) hb2 (show w.heap.size ≤ w.heap.size + 1 by omega)) (show w.heap.size ≤ w.heap.size + 1 by omega)
  have H2 := Lib.hid (And.intro hb3 g2)
  clear hb2 hm2 hp2 o0 o1 o2 o3 o7 o8 o9 o10 o11 g1 g2 hb3
  have wst : IntKind.u8.wrap st = st := by simp [IntKind.wrap, IntKind.bits, IntKind.signed]; omega
  have wix : IntKind.u8.wrap ix = ix := by simp [IntKind.wrap, IntKind.bits, IntKind.signed]; omega
  have mixed : Tryd.prog.follows Departure.mixedOrders = true := by kernel_rfl
  go_region_o
  clear wst wix p6 p7 fp6 fp7 mixed
  go_wp2_with fail
  have hsz : ((w2.setCell ⟨w.heap.size + 1, 6, none⟩ (.int .u8 st)).setCell ⟨w.heap.size + 1, 7, none⟩ (.int .u8 ix)).drew.heap.size = w2.heap.size := by show ((w2.setCell ⟨w.heap.size + 1, 6, none⟩ (.int .u8 st)).setCell ⟨w.heap.size + 1, 7, none⟩ (.int .u8 ix)).heap.size = _; simp [World.setCell]
  have hpk : ((w2.setCell ⟨w.heap.size + 1, 6, none⟩ (.int .u8 st)).setCell ⟨w.heap.size + 1, 7, none⟩ (.int .u8 ix)).drew.heap[w.heap.size + 1]? = some (pktO (⟨ver, com, kind, id, st, ix, 0, 0⟩ : PktT) (.slice none 0 0)) := H2.out.2
  have hbw : Below w.heap.size w ((w2.setCell ⟨w.heap.size + 1, 6, none⟩ (.int .u8 st)).setCell ⟨w.heap.size + 1, 7, none⟩ (.int .u8 ix)).drew := below_drew H2.out.1
  generalize ((w2.setCell ⟨w.heap.size + 1, 6, none⟩ (.int .u8 st)).setCell ⟨w.heap.size + 1, 7, none⟩ (.int .u8 ix)).drew = w3 at *
  have H3 := Lib.hid (And.intro hbw hpk)
  clear hbw hpk H2 o4 o5 o6
  go_loopg [6, 7, 8, 133] vs.length (fun k v6 v7 v8 v133 wr => ∃ j : Nat, v133 = .int .i64 j ∧ Hid (∃ (V : Value), j ≤ vs.length ∧ k = vs.length - j ∧ wr.heap[w.heap.size + 1]? = some (pktO (⟨ver, com, kind, id, st, ix, 0, 0⟩ : PktT) V) ∧ Below w.heap.size w wr ∧ OwnP wr (w.heap.size + 2) V (ps.take j)))
  case atStart => exact ⟨0, rfl, Lib.hid ⟨_, Nat.zero_le _, rfl, H3.out.2, H3.out.1, OwnP.nil _ _⟩⟩
  case round =>
    obtain ⟨j, rfl, HJ⟩ := hrel
    obtain ⟨V, hj, hk, hpk, hbw, hown⟩ := HJ.out
    clear HJ H3 hsz hz1 hz2
    by_cases hjl : j < vs.length
    · obtain ⟨ad, rfl, q0, q1, q2, q3, q4⟩ := var_at (Kd.C_below HC.out.1 hbw) j hjl
      have hjp : j < ps.length := by rw [HP.out.1]; exact hjl
      have hpd := HP.out.2.2.1 j hjp hjl
      have htk : ps.take (j + 1) = ps.take j ++ [ps[j]] := List.take_succ_eq_append_getElem hjp
      have hlt : (ps.take j).length = j := by rw [List.length_take]; omega
      generalize vs[j] = vj at *
      generalize ps[j] = pj at *
      generalize ps.take j = pj0 at *
      obtain ⟨A1, c1, rfl, -⟩ := Kd.R_slice hown
      rw [hlt] at hown hpk
      obtain ⟨pv, pnm, pty⟩ := pj
      have HJ := Lib.hid (And.intro hpd (And.intro htk (And.intro hk (And.intro hpk (And.intro hbw hown)))))
      have HLT := Lib.hid hlt
      clear hpd htk hk hpk hbw hown hlt
      cases pv with
      | nil =>
        go_wp2_with fail
        have b4 := (Below.refl wr.heap.size wr).alloc (Nat.le_refl _) (varO vj.nm vj.ty vj.i vj.u vj.tx)
        refine (HJ.out.1 _ (HC.out.2.on (below_step HJ.out.2.2.2.2.1 b4))).mono ?_
        rintro e w4 ⟨rfl, hb4⟩
        have hb5 := b4.trans (hb4.mono b4.size)
        obtain ⟨hpd, htk, hk, hpk, hbw, hown⟩ := HJ.out
        have hpk4 := blk_below hpk hb5
        have hz4 := blk_lt hpk4
        have c10 : w4.cell? ⟨w.heap.size + 1, 10, none⟩ = some (.slice A1 j c1) := (blk_cell hpk4 10).trans rfl
        have ba := (Below.refl w4.heap.size w4).alloc (Nat.le_refl _) (pduO pnm pty .nilIface)
        have hl5 : (pj0 ++ [(⟨.nil, pnm, pty⟩ : PduT)]).length = j + 1 := by rw [List.length_append, HLT.out]; rfl
        have HA := Lib.hid (And.intro ((hown.below hb5).below ba) (And.intro (blk_alloc hpk4 (pduO pnm pty .nilIface)) (And.intro (below_step (below_step hbw hb5) ba) (And.intro htk hk))))
        clear hpd htk hk hpk hbw hown hb4 b4 hb5 HJ q0 q1 q2 q3 q4 hpk4 ba
        simp only [PV.val] at HA ⊢
        go_wp2_with (at_builtin; refine app_pdu rfl (.tmp 145) (.tmp 147) rfl (w.heap.size + 2) _ pj0 ⟨.nil, pnm, pty⟩ rfl rfl (by simp) HA.out.1 (by simp; omega) (by rw [HLT.out]; omega) ?_; intro v1 w5 ho5 hg5 hat5; obtain ⟨A5, c5, rfl, -⟩ := Kd.R_slice ho5; rw [hl5] at ho5 ⊢; have hpk5 := grown_blk hg5 HA.out.2.1 (fun k hk => by have := HA.out.1.block k hk; omega); have z6 : w5.cell? ⟨w.heap.size + 1, 10, none⟩ = some (.slice A1 j c1) := (blk_cell hpk5 10).trans rfl; have zf6 := blk_frozen hpk5 10; refine Hid.out ?_)
        have hb6 := HA.out.2.2.1.grown hg5 (by simp; omega) (fun k hk => by have := HA.out.1.block k hk; omega)
        have hput := blk_put (cs' := (⟨ver, com, kind, id, st, ix, 0, 0⟩ : PktT).arr (.slice A5 (j + 1) c5)) hpk5 10 (.slice A5 (j + 1) c5) rfl
        have ho6 : OwnP (w5.setCell ⟨w.heap.size + 1, 10, none⟩ (.slice A5 (j + 1) c5)) (w.heap.size + 2) (.slice A5 (j + 1) c5) (pj0 ++ [⟨.nil, pnm, pty⟩]) := ho5.move (fun k hk => Below.heap_setCell _ _ _ _ (by have := ho5.block k hk; show k ≠ w.heap.size + 1; omega))
        have H6 := Lib.hid (And.intro hput (And.intro (below_set (j := 10) (v := .slice A5 (j + 1) c5) hb6 (show w.heap.size ≤ w.heap.size + 1 by omega)) ho6))
        clear hb6 hput ho6 ho5 hg5 hat5 hpk5
        refine Lib.hid ?_
        go_wp2
        go_roundg (vs.length - (j + 1))
        case measure =>
          have := HA.out.2.2.2.2
          omega
        case rel => exact ⟨j + 1, by go_num, Lib.hid ⟨_, by omega, rfl, H6.out.1, H6.out.2.1, by rw [HA.out.2.2.2.1]; exact H6.out.2.2⟩⟩
      | ifc t x =>
        go_wp2_with fail
        have b4 := (Below.refl wr.heap.size wr).alloc (Nat.le_refl _) (varO vj.nm vj.ty vj.i vj.u vj.tx)
        refine (HJ.out.1 _ (HC.out.2.on (below_step HJ.out.2.2.2.2.1 b4))).mono ?_
        rintro e w4 ⟨rfl, hb4⟩
        have hb5 := b4.trans (hb4.mono b4.size)
        obtain ⟨hpd, htk, hk, hpk, hbw, hown⟩ := HJ.out
        have hpk4 := blk_below hpk hb5
        have hz4 := blk_lt hpk4
        have c10 : w4.cell? ⟨w.heap.size + 1, 10, none⟩ = some (.slice A1 j c1) := (blk_cell hpk4 10).trans rfl
        have ba := (Below.refl w4.heap.size w4).alloc (Nat.le_refl _) (pduO pnm pty (.iface t x))
        have hl5 : (pj0 ++ [(⟨.ifc t x, pnm, pty⟩ : PduT)]).length = j + 1 := by rw [List.length_append, HLT.out]; rfl
        have HA := Lib.hid (And.intro ((hown.below hb5).below ba) (And.intro (blk_alloc hpk4 (pduO pnm pty (.iface t x))) (And.intro (below_step (below_step hbw hb5) ba) (And.intro htk hk))))
        clear hpd htk hk hpk hbw hown hb4 b4 hb5 HJ q0 q1 q2 q3 q4 hpk4 ba
        simp only [PV.val] at HA ⊢
        go_wp2_with (at_builtin; refine app_pdu rfl (.tmp 145) (.tmp 147) rfl (w.heap.size + 2) _ pj0 ⟨.ifc t x, pnm, pty⟩ rfl rfl (by simp) HA.out.1 (by simp; omega) (by rw [HLT.out]; omega) ?_; intro v1 w5 ho5 hg5 hat5; obtain ⟨A5, c5, rfl, -⟩ := Kd.R_slice ho5; rw [hl5] at ho5 ⊢; have hpk5 := grown_blk hg5 HA.out.2.1 (fun k hk => by have := HA.out.1.block k hk; omega); have z6 : w5.cell? ⟨w.heap.size + 1, 10, none⟩ = some (.slice A1 j c1) := (blk_cell hpk5 10).trans rfl; have zf6 := blk_frozen hpk5 10; refine Hid.out ?_)
        have hb6 := HA.out.2.2.1.grown hg5 (by simp; omega) (fun k hk => by have := HA.out.1.block k hk; omega)
        have hput := blk_put (cs' := (⟨ver, com, kind, id, st, ix, 0, 0⟩ : PktT).arr (.slice A5 (j + 1) c5)) hpk5 10 (.slice A5 (j + 1) c5) rfl
        have ho6 : OwnP (w5.setCell ⟨w.heap.size + 1, 10, none⟩ (.slice A5 (j + 1) c5)) (w.heap.size + 2) (.slice A5 (j + 1) c5) (pj0 ++ [⟨.ifc t x, pnm, pty⟩]) := ho5.move (fun k hk => Below.heap_setCell _ _ _ _ (by have := ho5.block k hk; show k ≠ w.heap.size + 1; omega))
        have H6 := Lib.hid (And.intro hput (And.intro (below_set (j := 10) (v := .slice A5 (j + 1) c5) hb6 (show w.heap.size ≤ w.heap.size + 1 by omega)) ho6))
        clear hb6 hput ho6 ho5 hg5 hat5 hpk5
        refine Lib.hid ?_
        go_wp2
        go_roundg (vs.length - (j + 1))
        case measure =>
          have := HA.out.2.2.2.2
          omega
        case rel => exact ⟨j + 1, by go_num, Lib.hid ⟨_, by omega, rfl, H6.out.1, H6.out.2.1, by rw [HA.out.2.2.2.1]; exact H6.out.2.2⟩⟩
    · obtain rfl : j = vs.length := by omega
      rw [show ps.take vs.length = ps by rw [← HP.out.1]; exact List.take_length] at hown
      obtain ⟨A7, c7, rfl, -⟩ := Kd.R_slice hown
      have hC7 : Kd.C kPdu wr A7 ps.length ps := by
        obtain ⟨A, c, e, hc, hC⟩ := Kd.R_reads hown
        injection e with e1 e2 e3
        subst e1
        exact hC
      have hpl : 1 ≤ (sSealed kind (bodyOf id st ix (sSealed 48 bss.flatten 0)) 0).length ∧ (sSealed kind (bodyOf id st ix (sSealed 48 bss.flatten 0)) 0).length ≤ 16000 := by
        have a := flat_ok HP.out.2.1 (by rw [HP.out.1]; exact n20) HP.out.2.2.2
        have b := sSealed_len 48 bss.flatten
        have c := body_len id st ix (sSealed 48 bss.flatten 0) (by omega)
        have d := sSealed_len kind (bodyOf id st ix (sSealed 48 bss.flatten 0))
        omega
      have HM : ∀ W, Below wr.heap.size wr W → Calls Tryd.prog 84 #[.pointer (some ⟨w.heap.size + 1, 0, none⟩)] W fun e w' => GotV W w' (sSealed kind (bodyOf id st ix (sSealed 48 bss.flatten 0)) 0) e := fun W hW =>
        mpdu_any (⟨ver, com, kind, id, st, ix, 0, 0⟩ : PktT) (w.heap.size + 1) z A7 c7 ps bss HP.out.2.1 (by rw [HP.out.1]; exact n20) HP.out.2.2.2 i0 i1 k0 k1 k4 hk5 s0 s1 x0 x1 W (blk_below hpk hW) (Kd.C_below hC7 hW) (HC.out.2.on (below_step hbw hW))
      have hsl : (sSealed 48 (msgBody (⟨ver, com, kind, id, st, ix, 0, 0⟩ : PktT) (sSealed kind (bodyOf id st ix (sSealed 48 bss.flatten 0)) 0)) 0).length ≤ 20000 := by
        have a := sSealed_len 48 (msgBody (⟨ver, com, kind, id, st, ix, 0, 0⟩ : PktT) (sSealed kind (bodyOf id st ix (sSealed 48 bss.flatten 0)) 0))
        have b : (msgBody (⟨ver, com, kind, id, st, ix, 0, 0⟩ : PktT) (sSealed kind (bodyOf id st ix (sSealed 48 bss.flatten 0)) 0)).length ≤ 18000 := by
          unfold msgBody
          simp only [List.length_append, List.length_cons, List.length_nil, bs_length]
          omega
        omega
      have hmb : msgBytes (⟨ver, com, kind, id, st, ix, ⟨#[]⟩, ⟨#[]⟩, 0, 0, 0⟩ : MsgT) bss = sSealed 48 (msgBody (⟨ver, com, kind, id, st, ix, 0, 0⟩ : PktT) (sSealed kind (bodyOf id st ix (sSealed 48 bss.flatten 0)) 0)) 0 := rfl
      have HMB := Lib.hid hmb
      have HE := Lib.hid (And.intro hpl (And.intro HM (And.intro hpk hbw)))
      clear hpl HM hpk hbw hown hC7 hk hmb
      generalize sSealed kind (bodyOf id st ix (sSealed 48 bss.flatten 0)) 0 = pb at *
      go_wp2_with fail
      refine (mmsgOut_any (⟨ver, com, kind, id, st, ix, 0, 0⟩ : PktT) (w.heap.size + 1) _ pb HE.out.1.2 HE.out.1.1 v0 v1 hcom wr HE.out.2.2.1 HE.out.2.1).mono ?_
      rintro e w8 ⟨v8, rfl, hr8, hb8⟩
      have hb9 := below_step HE.out.2.2.2 hb8
      generalize hmb2 : sSealed 48 (msgBody (⟨ver, com, kind, id, st, ix, 0, 0⟩ : PktT) pb) 0 = mb at *
      have HB2 := Lib.hid hmb2
      clear hmb2
      have H8 := Lib.hid (And.intro hr8 hb9)
      clear hr8 hb8 hb9 HE
      go_wp2_with fail
      refine (Clone_any v8 mb _ w8 H8.out.1 (by omega)).mono ?_
      rintro e w9 ⟨v9, rfl, ho, hb9⟩
      have HF := Lib.hid (And.intro ho (below_step H8.out.2 hb9))
      have hs8 := H8.out.2.size
      clear ho hb9 H8
      go_wp2
      go_ret2
      exact ⟨v9, rfl, by rw [HMB.out]; exact Kd.R_lower HF.out.1 hs8, HF.out.2⟩
end Go.Proofs.YtangjgclpipjdaaDoor
set_option linter.unusedVariables false
namespace Go.Proofs.YtangjgclpipjdaaDoor
open Go.RowKit Go.Proofs.YtangjgclpipjdaaDoorW.PrintWords Go.Proofs.YtangjgclpipjdaaDoorW.PrintLast Go.Proofs.YtangjgclpipjdaaDoorW.PrintMore
set_option maxRecDepth 100000 in
set_option maxHeartbeats 8000000 in
theorem enc_bulk (m : MsgT) (A : Option Addr) (c : Nat) (vs : List VarT) (ps : List PduT) (bss : List (List Int)) (hok : MsgOk m vs.length) (i0 : 0 ≤ m.id) (hk5 : m.kind = 165) (z : Addr) (w : World) (hC : Kd.C kVar w A vs.length vs) (hZ : ZZone z w)
    (hl1 : ps.length = vs.length) (hl2 : ps.length = bss.length) (hp : ∀ j (h1 : j < ps.length) (h2 : j < vs.length), PduDone z vs[j] ps[j]) (hv : ∀ j (h1 : j < ps.length) (h2 : j < bss.length), VbOk z ps[j] bss[j]) :
    Calls Tryd.prog 16 #[.agg (m.arr (.slice A vs.length c))] w fun e w' => GotT w w' (msgBytes m bss) e := by
  obtain ⟨ver, com, kind, id, st, ix, ent, ag, gen, spc, tm⟩ := m
  obtain ⟨v0, v1, hcom, k0, k1, k4, s0, s1, x0, x1, n20, i1, hent, hag, hgen, hspc, htm⟩ := hok
  simp only at v0 v1 hcom k0 k1 k4 s0 s1 x0 x1 i1 hent hag hgen hspc htm i0 hk5
  subst hent hag hgen hspc htm
  subst hk5
  have HC := Lib.hid (And.intro hC hZ)
  have HP := Lib.hid (And.intro hl1 (And.intro hl2 (And.intro hp hv)))
  clear hC hZ hl1 hl2 hp hv
  go_enter Tryd.func16, Tryd.ntmps16
  go_wp2_with fail
  have hb2 := ((Below.refl w.heap.size w).alloc (Nat.le_refl _) (msgO (⟨ver, com, 165, id, st, ix, ⟨#[]⟩, ⟨#[]⟩, 0, 0, 0⟩ : MsgT) (.slice A vs.length c))).alloc (by simp) (pktO ⟨ver, com, 165, id, 0, 0, 0, 0⟩ (.slice none 0 0))
  have hm2 := blk_alloc (blk_new w (msgO (⟨ver, com, 165, id, st, ix, ⟨#[]⟩, ⟨#[]⟩, 0, 0, 0⟩ : MsgT) (.slice A vs.length c))) (pktO ⟨ver, com, 165, id, 0, 0, 0, 0⟩ (.slice none 0 0))
  have hp2 := blk_new (w.alloc (msgO (⟨ver, com, 165, id, st, ix, ⟨#[]⟩, ⟨#[]⟩, 0, 0, 0⟩ : MsgT) (.slice A vs.length c))) (pktO ⟨ver, com, 165, id, 0, 0, 0, 0⟩ (.slice none 0 0))
  rw [show (w.alloc (msgO (⟨ver, com, 165, id, st, ix, ⟨#[]⟩, ⟨#[]⟩, 0, 0, 0⟩ : MsgT) (.slice A vs.length c))).heap.size = w.heap.size + 1 by simp] at hp2
  generalize ((w.alloc (msgO (⟨ver, com, 165, id, st, ix, ⟨#[]⟩, ⟨#[]⟩, 0, 0, 0⟩ : MsgT) (.slice A vs.length c))).alloc (pktO ⟨ver, com, 165, id, 0, 0, 0, 0⟩ (.slice none 0 0))) = w2 at *
  obtain ⟨o0, o1, o2, o3, o4, o5, o6, o7, o8, o9, o10, o11⟩ := msg_cells hm2
  have p6 : w2.cell? ⟨w.heap.size + 1, 8, none⟩ = some (.int .u8 0) := (blk_cell hp2 8).trans rfl
  have p7 : w2.cell? ⟨w.heap.size + 1, 9, none⟩ = some (.int .u32 0) := (blk_cell hp2 9).trans rfl
  have fp6 := blk_frozen hp2 8
  have fp7 := blk_frozen hp2 9
  have hz1 := blk_lt hm2
  have hz2 := blk_lt hp2
  have g1 := blk_put (cs' := (⟨ver, com, 165, id, 0, 0, st, 0⟩ : PktT).arr (.slice none 0 0)) hp2 8 (.int .u8 st) rfl
  have g2 := blk_put (cs' := (⟨ver, com, 165, id, 0, 0, st, ix⟩ : PktT).arr (.slice none 0 0)) g1 9 (.int .u32 ix) rfl
  have hb3 := below_set (j := 9) (v := .int .u32 ix) (below_set (j := 8) (v := .int .u8 st) hb2 (show w.heap.size ≤ w.heap.size + 1 by omega)) (show w.heap.size ≤ w.heap.size + 1 by omega)
  have H2 := Lib.hid (And.intro hb3 g2)
  clear hb2 hm2 hp2 o0 o1 o2 o3 o7 o8 o9 o10 o11 g1 g2 hb3
  have wst : IntKind.u8.wrap st = st := by simp [IntKind.wrap, IntKind.bits, IntKind.signed]; omega
  have wix : IntKind.u32.wrap ix = ix := by simp [IntKind.wrap, IntKind.bits, IntKind.signed]; omega
  have mixed : Tryd.prog.follows Departure.mixedOrders = true := by kernel_rfl
  go_region_o
  clear wst wix p6 p7 fp6 fp7 mixed
  go_wp2_with fail
  have hsz : ((w2.setCell ⟨w.heap.size + 1, 8, none⟩ (.int .u8 st)).setCell ⟨w.heap.size + 1, 9, none⟩ (.int .u32 ix)).drew.heap.size = w2.heap.size := by show ((w2.setCell ⟨w.heap.size + 1, 8, none⟩ (.int .u8 st)).setCell ⟨w.heap.size + 1, 9, none⟩ (.int .u32 ix)).heap.size = _; simp [World.setCell]
  have hpk : ((w2.setCell ⟨w.heap.size + 1, 8, none⟩ (.int .u8 st)).setCell ⟨w.heap.size + 1, 9, none⟩ (.int .u32 ix)).drew.heap[w.heap.size + 1]? = some (pktO (⟨ver, com, 165, id, 0, 0, st, ix⟩ : PktT) (.slice none 0 0)) := H2.out.2
  have hbw : Below w.heap.size w ((w2.setCell ⟨w.heap.size + 1, 8, none⟩ (.int .u8 st)).setCell ⟨w.heap.size + 1, 9, none⟩ (.int .u32 ix)).drew := below_drew H2.out.1
  generalize ((w2.setCell ⟨w.heap.size + 1, 8, none⟩ (.int .u8 st)).setCell ⟨w.heap.size + 1, 9, none⟩ (.int .u32 ix)).drew = w3 at *
  have H3 := Lib.hid (And.intro hbw hpk)
  clear hbw hpk H2 o4 o5 o6
  go_loopg [6, 7, 8, 133] vs.length (fun k v6 v7 v8 v133 wr => ∃ j : Nat, v133 = .int .i64 j ∧ Hid (∃ (V : Value), j ≤ vs.length ∧ k = vs.length - j ∧ wr.heap[w.heap.size + 1]? = some (pktO (⟨ver, com, 165, id, 0, 0, st, ix⟩ : PktT) V) ∧ Below w.heap.size w wr ∧ OwnP wr (w.heap.size + 2) V (ps.take j)))
  case atStart => exact ⟨0, rfl, Lib.hid ⟨_, Nat.zero_le _, rfl, H3.out.2, H3.out.1, OwnP.nil _ _⟩⟩
  case round =>
    obtain ⟨j, rfl, HJ⟩ := hrel
    obtain ⟨V, hj, hk, hpk, hbw, hown⟩ := HJ.out
    clear HJ H3 hsz hz1 hz2
    by_cases hjl : j < vs.length
    · obtain ⟨ad, rfl, q0, q1, q2, q3, q4⟩ := var_at (Kd.C_below HC.out.1 hbw) j hjl
      have hjp : j < ps.length := by rw [HP.out.1]; exact hjl
      have hpd := HP.out.2.2.1 j hjp hjl
      have htk : ps.take (j + 1) = ps.take j ++ [ps[j]] := List.take_succ_eq_append_getElem hjp
      have hlt : (ps.take j).length = j := by rw [List.length_take]; omega
      generalize vs[j] = vj at *
      generalize ps[j] = pj at *
      generalize ps.take j = pj0 at *
      obtain ⟨A1, c1, rfl, -⟩ := Kd.R_slice hown
      rw [hlt] at hown hpk
      obtain ⟨pv, pnm, pty⟩ := pj
      have HJ := Lib.hid (And.intro hpd (And.intro htk (And.intro hk (And.intro hpk (And.intro hbw hown)))))
      have HLT := Lib.hid hlt
      clear hpd htk hk hpk hbw hown hlt
      cases pv with
      | nil =>
        go_wp2_with fail
        have b4 := (Below.refl wr.heap.size wr).alloc (Nat.le_refl _) (varO vj.nm vj.ty vj.i vj.u vj.tx)
        refine (HJ.out.1 _ (HC.out.2.on (below_step HJ.out.2.2.2.2.1 b4))).mono ?_
        rintro e w4 ⟨rfl, hb4⟩
        have hb5 := b4.trans (hb4.mono b4.size)
        obtain ⟨hpd, htk, hk, hpk, hbw, hown⟩ := HJ.out
        have hpk4 := blk_below hpk hb5
        have hz4 := blk_lt hpk4
        have c10 : w4.cell? ⟨w.heap.size + 1, 10, none⟩ = some (.slice A1 j c1) := (blk_cell hpk4 10).trans rfl
        have ba := (Below.refl w4.heap.size w4).alloc (Nat.le_refl _) (pduO pnm pty .nilIface)
        have hl5 : (pj0 ++ [(⟨.nil, pnm, pty⟩ : PduT)]).length = j + 1 := by rw [List.length_append, HLT.out]; rfl
        have HA := Lib.hid (And.intro ((hown.below hb5).below ba) (And.intro (blk_alloc hpk4 (pduO pnm pty .nilIface)) (And.intro (below_step (below_step hbw hb5) ba) (And.intro htk hk))))
        clear hpd htk hk hpk hbw hown hb4 b4 hb5 HJ q0 q1 q2 q3 q4 hpk4 ba
        simp only [PV.val] at HA ⊢
        go_wp2_with (at_builtin; refine app_pdu rfl (.tmp 145) (.tmp 147) rfl (w.heap.size + 2) _ pj0 ⟨.nil, pnm, pty⟩ rfl rfl (by simp) HA.out.1 (by simp; omega) (by rw [HLT.out]; omega) ?_; intro v1 w5 ho5 hg5 hat5; obtain ⟨A5, c5, rfl, -⟩ := Kd.R_slice ho5; rw [hl5] at ho5 ⊢; have hpk5 := grown_blk hg5 HA.out.2.1 (fun k hk => by have := HA.out.1.block k hk; omega); have z6 : w5.cell? ⟨w.heap.size + 1, 10, none⟩ = some (.slice A1 j c1) := (blk_cell hpk5 10).trans rfl; have zf6 := blk_frozen hpk5 10; refine Hid.out ?_)
        have hb6 := HA.out.2.2.1.grown hg5 (by simp; omega) (fun k hk => by have := HA.out.1.block k hk; omega)
        have hput := blk_put (cs' := (⟨ver, com, 165, id, 0, 0, st, ix⟩ : PktT).arr (.slice A5 (j + 1) c5)) hpk5 10 (.slice A5 (j + 1) c5) rfl
        have ho6 : OwnP (w5.setCell ⟨w.heap.size + 1, 10, none⟩ (.slice A5 (j + 1) c5)) (w.heap.size + 2) (.slice A5 (j + 1) c5) (pj0 ++ [⟨.nil, pnm, pty⟩]) := ho5.move (fun k hk => Below.heap_setCell _ _ _ _ (by have := ho5.block k hk; show k ≠ w.heap.size + 1; omega))
        have H6 := Lib.hid (And.intro hput (And.intro (below_set (j := 10) (v := .slice A5 (j + 1) c5) hb6 (show w.heap.size ≤ w.heap.size + 1 by omega)) ho6))
        clear hb6 hput ho6 ho5 hg5 hat5 hpk5
        refine Lib.hid ?_
        go_wp2
        go_roundg (vs.length - (j + 1))
        case measure =>
          have := HA.out.2.2.2.2
          omega
        case rel => exact ⟨j + 1, by go_num, Lib.hid ⟨_, by omega, rfl, H6.out.1, H6.out.2.1, by rw [HA.out.2.2.2.1]; exact H6.out.2.2⟩⟩
      | ifc t x =>
        go_wp2_with fail
        have b4 := (Below.refl wr.heap.size wr).alloc (Nat.le_refl _) (varO vj.nm vj.ty vj.i vj.u vj.tx)
        refine (HJ.out.1 _ (HC.out.2.on (below_step HJ.out.2.2.2.2.1 b4))).mono ?_
        rintro e w4 ⟨rfl, hb4⟩
        have hb5 := b4.trans (hb4.mono b4.size)
        obtain ⟨hpd, htk, hk, hpk, hbw, hown⟩ := HJ.out
        have hpk4 := blk_below hpk hb5
        have hz4 := blk_lt hpk4
        have c10 : w4.cell? ⟨w.heap.size + 1, 10, none⟩ = some (.slice A1 j c1) := (blk_cell hpk4 10).trans rfl
        have ba := (Below.refl w4.heap.size w4).alloc (Nat.le_refl _) (pduO pnm pty (.iface t x))
        have hl5 : (pj0 ++ [(⟨.ifc t x, pnm, pty⟩ : PduT)]).length = j + 1 := by rw [List.length_append, HLT.out]; rfl
        have HA := Lib.hid (And.intro ((hown.below hb5).below ba) (And.intro (blk_alloc hpk4 (pduO pnm pty (.iface t x))) (And.intro (below_step (below_step hbw hb5) ba) (And.intro htk hk))))
        clear hpd htk hk hpk hbw hown hb4 b4 hb5 HJ q0 q1 q2 q3 q4 hpk4 ba
        simp only [PV.val] at HA ⊢
        go_wp2_with (at_builtin; refine app_pdu rfl (.tmp 145) (.tmp 147) rfl (w.heap.size + 2) _ pj0 ⟨.ifc t x, pnm, pty⟩ rfl rfl (by simp) HA.out.1 (by simp; omega) (by rw [HLT.out]; omega) ?_; intro v1 w5 ho5 hg5 hat5; obtain ⟨A5, c5, rfl, -⟩ := Kd.R_slice ho5; rw [hl5] at ho5 ⊢; have hpk5 := grown_blk hg5 HA.out.2.1 (fun k hk => by have := HA.out.1.block k hk; omega); have z6 : w5.cell? ⟨w.heap.size + 1, 10, none⟩ = some (.slice A1 j c1) := (blk_cell hpk5 10).trans rfl; have zf6 := blk_frozen hpk5 10; refine Hid.out ?_)
        have hb6 := HA.out.2.2.1.grown hg5 (by simp; omega) (fun k hk => by have := HA.out.1.block k hk; omega)
        have hput := blk_put (cs' := (⟨ver, com, 165, id, 0, 0, st, ix⟩ : PktT).arr (.slice A5 (j + 1) c5)) hpk5 10 (.slice A5 (j + 1) c5) rfl
        have ho6 : OwnP (w5.setCell ⟨w.heap.size + 1, 10, none⟩ (.slice A5 (j + 1) c5)) (w.heap.size + 2) (.slice A5 (j + 1) c5) (pj0 ++ [⟨.ifc t x, pnm, pty⟩]) := ho5.move (fun k hk => Below.heap_setCell _ _ _ _ (by have := ho5.block k hk; show k ≠ w.heap.size + 1; omega))
        have H6 := Lib.hid (And.intro hput (And.intro (below_set (j := 10) (v := .slice A5 (j + 1) c5) hb6 (show w.heap.size ≤ w.heap.size + 1 by omega)) ho6))
        clear hb6 hput ho6 ho5 hg5 hat5 hpk5
        refine Lib.hid ?_
        go_wp2
        go_roundg (vs.length - (j + 1))
        case measure =>
          have := HA.out.2.2.2.2
          omega
        case rel => exact ⟨j + 1, by go_num, Lib.hid ⟨_, by omega, rfl, H6.out.1, H6.out.2.1, by rw [HA.out.2.2.2.1]; exact H6.out.2.2⟩⟩
    · obtain rfl : j = vs.length := by omega
      rw [show ps.take vs.length = ps by rw [← HP.out.1]; exact List.take_length] at hown
      obtain ⟨A7, c7, rfl, -⟩ := Kd.R_slice hown
      have hC7 : Kd.C kPdu wr A7 ps.length ps := by
        obtain ⟨A, c, e, hc, hC⟩ := Kd.R_reads hown
        injection e with e1 e2 e3
        subst e1
        exact hC
      have hpl : 1 ≤ (sSealed 165 (bodyOf id st ix (sSealed 48 bss.flatten 0)) 0).length ∧ (sSealed 165 (bodyOf id st ix (sSealed 48 bss.flatten 0)) 0).length ≤ 16000 := by
        have a := flat_ok HP.out.2.1 (by rw [HP.out.1]; exact n20) HP.out.2.2.2
        have b := sSealed_len 48 bss.flatten
        have c := body_len id st ix (sSealed 48 bss.flatten 0) (by omega)
        have d := sSealed_len 165 (bodyOf id st ix (sSealed 48 bss.flatten 0))
        omega
      have HM : ∀ W, Below wr.heap.size wr W → Calls Tryd.prog 84 #[.pointer (some ⟨w.heap.size + 1, 0, none⟩)] W fun e w' => GotV W w' (sSealed 165 (bodyOf id st ix (sSealed 48 bss.flatten 0)) 0) e := fun W hW =>
        mpdu_bulk (⟨ver, com, 165, id, 0, 0, st, ix⟩ : PktT) (w.heap.size + 1) z A7 c7 ps bss HP.out.2.1 (by rw [HP.out.1]; exact n20) HP.out.2.2.2 i0 i1 rfl s0 s1 x0 x1 W (blk_below hpk hW) (Kd.C_below hC7 hW) (HC.out.2.on (below_step hbw hW))
      have hsl : (sSealed 48 (msgBody (⟨ver, com, 165, id, 0, 0, st, ix⟩ : PktT) (sSealed 165 (bodyOf id st ix (sSealed 48 bss.flatten 0)) 0)) 0).length ≤ 20000 := by
        have a := sSealed_len 48 (msgBody (⟨ver, com, 165, id, 0, 0, st, ix⟩ : PktT) (sSealed 165 (bodyOf id st ix (sSealed 48 bss.flatten 0)) 0))
        have b : (msgBody (⟨ver, com, 165, id, 0, 0, st, ix⟩ : PktT) (sSealed 165 (bodyOf id st ix (sSealed 48 bss.flatten 0)) 0)).length ≤ 18000 := by
          unfold msgBody
          simp only [List.length_append, List.length_cons, List.length_nil, bs_length]
          omega
        omega
      have hmb : msgBytes (⟨ver, com, 165, id, st, ix, ⟨#[]⟩, ⟨#[]⟩, 0, 0, 0⟩ : MsgT) bss = sSealed 48 (msgBody (⟨ver, com, 165, id, 0, 0, st, ix⟩ : PktT) (sSealed 165 (bodyOf id st ix (sSealed 48 bss.flatten 0)) 0)) 0 := rfl
      have HMB := Lib.hid hmb
      have HE := Lib.hid (And.intro hpl (And.intro HM (And.intro hpk hbw)))
      clear hpl HM hpk hbw hown hC7 hk hmb
      generalize sSealed 165 (bodyOf id st ix (sSealed 48 bss.flatten 0)) 0 = pb at *
      go_wp2_with fail
      refine (mmsgOut_any (⟨ver, com, 165, id, 0, 0, st, ix⟩ : PktT) (w.heap.size + 1) _ pb HE.out.1.2 HE.out.1.1 v0 v1 hcom wr HE.out.2.2.1 HE.out.2.1).mono ?_
      rintro e w8 ⟨v8, rfl, hr8, hb8⟩
      have hb9 := below_step HE.out.2.2.2 hb8
      generalize hmb2 : sSealed 48 (msgBody (⟨ver, com, 165, id, 0, 0, st, ix⟩ : PktT) pb) 0 = mb at *
      have HB2 := Lib.hid hmb2
      clear hmb2
      have H8 := Lib.hid (And.intro hr8 hb9)
      clear hr8 hb8 hb9 HE
      go_wp2_with fail
      refine (Clone_any v8 mb _ w8 H8.out.1 (by omega)).mono ?_
      rintro e w9 ⟨v9, rfl, ho, hb9⟩
      have HF := Lib.hid (And.intro ho (below_step H8.out.2 hb9))
      have hs8 := H8.out.2.size
      clear ho hb9 H8
      go_wp2
      go_ret2
      exact ⟨v9, rfl, by rw [HMB.out]; exact Kd.R_lower HF.out.1 hs8, HF.out.2⟩
end Go.Proofs.YtangjgclpipjdaaDoor
set_option linter.unusedVariables false
namespace Go.Proofs.YtangjgclpipjdaaDoor
open Go.RowKit Go.Proofs.YtangjgclpipjdaaDoorW.PrintWords Go.Proofs.YtangjgclpipjdaaDoorW.PrintLast Go.Proofs.YtangjgclpipjdaaDoorW.PrintMore
theorem sealed_one (t x : Int) (t0 : 0 ≤ t) (t1 : t ≤ 255) : sSealed t [x] 0 = [t, 1, x] := by
  unfold sSealed sLen
  rw [if_pos (by simp)]
  simp only [List.length_cons, List.length_nil, List.cons_append, List.nil_append]
  congr 1
  omega
theorem sealed_short (t : Int) (c : List Int) (t0 : 0 ≤ t) (t1 : t ≤ 255) (h : c.length ≤ 127) : sSealed t c 0 = t :: (c.length : Int) :: c := by
  unfold sSealed sLen
  rw [if_pos (by omega)]
  simp only [List.cons_append, List.nil_append]
  congr 1
  omega
theorem msgBytes_eq (m : MsgT) (n : Nat) (hok : MsgOk m n) (bss : List (List Int)) : msgBytes m bss = gMsg m.ver (bs m.com) m.kind m.id m.st m.ix bss.flatten 0 := by
  have h1 := (sUint_small m.ver hok.v0 (by have := hok.v1; omega)).2
  have h2 := (sUint_small m.st hok.s0 hok.s1).2
  have h3 := (sUint_small m.ix hok.x0 hok.x1).2
  unfold msgBytes gMsg gBody bodyOf
  rw [h1, h2, h3, sealed_one 2 m.ver (by omega) (by omega), sealed_short 4 (bs m.com) (by omega) (by omega) (by rw [bs_length]; exact hok.com), bs_length]
  simp only [List.append_assoc, List.cons_append, List.nil_append]
theorem svQ_map (qs : List (VarT × Ask)) : qs.map svQ = qs.map (bytesQ 0) := rfl
theorem enc_any (m : MsgT) (A : Option Addr) (c : Nat) (qs : List (VarT × Ask)) (hok : MsgOk m (qs.map (·.1)).length) (i0 : 0 ≤ m.id) (z : Addr) (w : World) (hC : Kd.C kVar w A (qs.map (·.1)).length (qs.map (·.1))) (hZ : ZZone z w) (hq : ∀ q ∈ qs, okQ q) (hv : ∀ q ∈ qs, VarOk q.1) :
    Calls Tryd.prog 16 #[.agg (m.arr (.slice A (qs.map (·.1)).length c))] w fun e w' => GotT w w' (gMsg m.ver (bs m.com) m.kind m.id m.st m.ix (qs.map (bytesQ 0)).flatten 0) e := by
  obtain ⟨ps, hl, hp⟩ := pdus_of z qs hq hv
  have hl1 : ps.length = (qs.map (·.1)).length := by rw [List.length_map, hl]
  have hl2 : ps.length = (qs.map svQ).length := by rw [List.length_map, hl]
  have h1 : ∀ j (h1 : j < ps.length) (h2 : j < (qs.map (·.1)).length), PduDone z (qs.map (·.1))[j] ps[j] := fun j h1 h2 => by
    have hj : j < qs.length := by rw [← hl]; exact h1
    have := (hp j h1 hj).2.2.1
    rw [List.getElem_map]
    exact this
  have h2 : ∀ j (h1 : j < ps.length) (h2 : j < (qs.map svQ).length), VbOk z ps[j] (qs.map svQ)[j] := fun j h1 h2 => by
    have hj : j < qs.length := by rw [← hl]; exact h1
    rw [List.getElem_map]
    exact (hp j h1 hj).2.2.2
  rw [← svQ_map, ← msgBytes_eq m _ hok (qs.map svQ)]
  generalize qs.map svQ = bss at *
  generalize qs.map (·.1) = vs at *
  by_cases h5 : m.kind = 165
  · exact enc_bulk m A c vs ps bss hok i0 h5 z w hC hZ hl1 hl2 h1 h2
  · exact enc_rest m A c vs ps bss hok i0 h5 z w hC hZ hl1 hl2 h1 h2
end Go.Proofs.YtangjgclpipjdaaDoor
set_option linter.unusedVariables false
namespace Go.Proofs.YtangjgclpipjdaaDoor
open Go.RowKit Go.Proofs.YtangjgclpipjdaaDoorW.PrintWords Go.Proofs.YtangjgclpipjdaaDoorW.PrintLast Go.Proofs.YtangjgclpipjdaaDoorW.PrintMore
set_option maxRecDepth 100000 in
set_option maxHeartbeats 4000000 in
theorem same_eq (m : MsgT) (A1 : Option Addr) (c1 : Nat) (A2 : Option Addr) (c2 : Nat) (vs : List VarT) (w : World) (h1 : Kd.C kVar w A1 vs.length vs) (h2 : Kd.C kVar w A2 vs.length vs) :
    Calls Tryd.prog 18 #[.agg (m.arr (.slice A1 vs.length c1)), .agg (m.arr (.slice A2 vs.length c2))] w fun e w' => e = .returned (.bool true) ∧ Below w.heap.size w w' := by
  have b2 := ((Below.refl w.heap.size w).alloc (Nat.le_refl _) (msgO m (.slice A1 vs.length c1))).alloc (by simp) (msgO m (.slice A2 vs.length c2))
  have e1 := blk_alloc (blk_new w (msgO m (.slice A1 vs.length c1))) (msgO m (.slice A2 vs.length c2))
  have e2 := blk_new (w.alloc (msgO m (.slice A1 vs.length c1))) (msgO m (.slice A2 vs.length c2))
  rw [show (w.alloc (msgO m (.slice A1 vs.length c1))).heap.size = w.heap.size + 1 by simp] at e2
  have HH := Lib.hid (And.intro b2 (And.intro (Kd.C_below h1 b2) (And.intro (Kd.C_below h2 b2) (And.intro e1 e2))))
  have hmx := Kd.C_max h1
  clear b2 h1 h2 e1 e2
  go_enter Tryd.func18, Tryd.ntmps18
  go_wp2_with fail
  go_loopg [5, 93] vs.length (fun k v5 v93 wr => ∃ j : Nat, v93 = .int .i64 j ∧ Hid (j ≤ vs.length ∧ k = vs.length - j ∧ Below w.heap.size w wr ∧ Kd.C kVar wr A1 vs.length vs ∧ Kd.C kVar wr A2 vs.length vs ∧ wr.heap[w.heap.size]? = some (msgO m (.slice A1 vs.length c1)) ∧ wr.heap[w.heap.size + 1]? = some (msgO m (.slice A2 vs.length c2))))
  case atStart => exact ⟨0, rfl, Lib.hid ⟨Nat.zero_le _, rfl, HH.out.1, HH.out.2.1, HH.out.2.2.1, HH.out.2.2.2.1, HH.out.2.2.2.2⟩⟩
  case round =>
    obtain ⟨j, rfl, HJ⟩ := hrel
    obtain ⟨hj, hk, hbw, hC1, hC2, hm1, hm2⟩ := HJ.out
    clear HJ HH
    have HK := Lib.hid (And.intro hk (And.intro hbw (And.intro hC1 (And.intro hC2 (And.intro hm1 hm2)))))
    by_cases hjl : j < vs.length
    · obtain ⟨ad1, rfl, q0, q1, q2, q3, q4⟩ := var_at hC1 j hjl
      obtain ⟨ad2, rfl, s0, s1, s2, s3, s4⟩ := var_at hC2 j hjl
      have m6 : wr.cell? ⟨w.heap.size, 6, none⟩ = some (.slice (some ad1) vs.length c1) := (blk_cell hm1 6).trans rfl
      have n6 : wr.cell? ⟨w.heap.size + 1, 6, none⟩ = some (.slice (some ad2) vs.length c2) := (blk_cell hm2 6).trans rfl
      clear hk hbw hC1 hC2 hm1 hm2
      generalize vs[j] = vj at *
      go_wp2_with fail
      go_quiet (fail)
      go_wp2
      go_roundg (vs.length - (j + 1))
      case measure =>
        have := HK.out.1
        omega
      case rel => exact ⟨j + 1, by go_num, Lib.hid ⟨by omega, rfl, pw_below_drewN HK.out.2.1 _, HK.out.2.2⟩⟩
    · obtain rfl : j = vs.length := by omega
      clear hk hbw hC1 hC2 hm1 hm2
      go_wp2
      go_ret
      exact ⟨rfl, HK.out.2.1⟩
end Go.Proofs.YtangjgclpipjdaaDoor
set_option linter.unusedVariables false
namespace Go.Proofs.YtangjgclpipjdaaDoor
open Go.RowKit Go.Proofs.YtangjgclpipjdaaDoorW.PrintWords Go.Proofs.YtangjgclpipjdaaDoorW.PrintLast Go.Proofs.YtangjgclpipjdaaDoorW.PrintMore
set_option maxRecDepth 100000 in
set_option maxHeartbeats 8000000 in
theorem told2_no (m : MsgT) (A : Option Addr) (c : Nat) (vs : List VarT) (i0 : 0 ≤ m.id) (w : World) (hno : ¬ MsgOk m vs.length) :
    Calls Tryd.prog 15 #[.agg (m.arr (.slice A vs.length c))] w fun e w' => Below w.heap.size w w' ∧ e = .returned (.tuple #[.agg (zeroM.arr (.slice none 0 0)), .bool false]) := by
  by_cases v0 : m.ver < 0
  · clear hno
    go_enter Tryd.func15, Tryd.ntmps15
    go_wp2
    all_goals exact msg_no rfl rfl rfl rfl
  by_cases v1 : 1 < m.ver
  · clear hno
    go_enter Tryd.func15, Tryd.ntmps15
    go_wp2
    all_goals exact msg_no rfl rfl rfl rfl
  by_cases com : (127 : Int) < m.com.size
  · clear hno
    go_enter Tryd.func15, Tryd.ntmps15
    go_wp2
    all_goals exact msg_no rfl rfl rfl rfl
  by_cases k0 : m.kind < 160
  · clear hno
    go_enter Tryd.func15, Tryd.ntmps15
    go_wp2
    all_goals exact msg_no rfl rfl rfl rfl
  by_cases k1 : 168 < m.kind
  · clear hno
    go_enter Tryd.func15, Tryd.ntmps15
    go_wp2
    all_goals exact msg_no rfl rfl rfl rfl
  by_cases k4 : m.kind = 164
  · clear hno
    go_enter Tryd.func15, Tryd.ntmps15
    go_wp2
    all_goals exact msg_no rfl rfl rfl rfl
  have k4' : (m.kind == 164) = false := beq_eq_false_iff_ne.2 k4
  by_cases s0 : m.st < 0
  · clear hno
    go_enter Tryd.func15, Tryd.ntmps15
    go_wp2
    all_goals exact msg_no rfl rfl rfl rfl
  by_cases s1 : 127 < m.st
  · clear hno
    go_enter Tryd.func15, Tryd.ntmps15
    go_wp2
    all_goals exact msg_no rfl rfl rfl rfl
  by_cases x0 : m.ix < 0
  · clear hno
    go_enter Tryd.func15, Tryd.ntmps15
    go_wp2
    all_goals exact msg_no rfl rfl rfl rfl
  by_cases x1 : 127 < m.ix
  · clear hno
    go_enter Tryd.func15, Tryd.ntmps15
    go_wp2
    all_goals exact msg_no rfl rfl rfl rfl
  by_cases n20 : (20 : Int) < vs.length
  · clear hno
    go_enter Tryd.func15, Tryd.ntmps15
    go_wp2
    all_goals exact msg_no rfl rfl rfl rfl
  by_cases i1 : 2147483648 ≤ m.id
  · clear hno
    go_enter Tryd.func15, Tryd.ntmps15
    go_wp2
    all_goals exact msg_no rfl rfl rfl rfl
  by_cases ent : ¬ m.ent.toList = []
  · clear hno
    go_enter Tryd.func15, Tryd.ntmps15
    go_wp2
    all_goals exact msg_no rfl rfl rfl rfl
  by_cases ag : ¬ m.ag.toList = []
  · clear hno
    go_enter Tryd.func15, Tryd.ntmps15
    go_wp2
    all_goals exact msg_no rfl rfl rfl rfl
  by_cases gen : m.gen = 0
  case neg =>
    have genb : (m.gen != 0) = true := by simpa using gen
    clear hno
    go_enter Tryd.func15, Tryd.ntmps15
    go_wp2
    all_goals exact msg_no rfl rfl rfl rfl
  by_cases spc : m.spc = 0
  case neg =>
    have spcb : (m.spc != 0) = true := by simpa using spc
    clear hno
    go_enter Tryd.func15, Tryd.ntmps15
    go_wp2
    all_goals exact msg_no rfl rfl rfl rfl
  by_cases tm : m.tm = 0
  case neg =>
    have tmb : (m.tm != 0) = true := by simpa using tm
    clear hno
    go_enter Tryd.func15, Tryd.ntmps15
    go_wp2
    all_goals exact msg_no rfl rfl rfl rfl
  exact absurd (MsgOk.mk (by omega) (by omega) (by omega) (by omega) (by omega) k4 (by omega) (by omega) (by omega) (by omega) (by omega) (by omega) (toList_nil (Classical.not_not.1 ent)) (toList_nil (Classical.not_not.1 ag)) gen spc tm) hno
end Go.Proofs.YtangjgclpipjdaaDoor
