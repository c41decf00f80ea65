/- The lemmas and walks that FnDecode and FnCut and FnRead rests on, part 16: Told3 UVbl UResp URespB. -/
import Derived.Test.YtangjgclpipjdaaDoorQM10
import Derived.Test.YtangjgclpipjdaaDoorQM14
import Derived.Test.YtangjgclpipjdaaDoorQM15
set_option linter.unusedVariables false
namespace Go.Proofs.YtangjgclpipjdaaDoor
open Go.RowKit Go.Proofs.YtangjgclpipjdaaDoorW.PrintWords Go.Proofs.YtangjgclpipjdaaDoorW.PrintLast Go.Proofs.YtangjgclpipjdaaDoorW.PrintMore
structure VarOk (v : VarT) : Prop where
  i0 : -9223372036854775808 ≤ v.i
  i1 : v.i ≤ 9223372036854775807
  u0 : 0 ≤ v.u
  u1 : v.u ≤ 18446744073709551615
  n : v.nm.size ≤ 2147483647
  t : v.tx.size ≤ 2147483647
theorem infoVz : (Tryd.prog.info? 24).map (fun i => (i.zero, i.size, i.bytes)) = some (some (varV ⟨#[]⟩ 0 0 0 ⟨#[]⟩), 5, 56) := by kernel_rfl
/-- append(list, v): a list of the call's own. -/
theorem app_var {W : World} {ops : Array Oper} {rest : List Oper} {o : Oper} {a : Act} {Q : Exit → Act → World → Prop} (hgd : o.guard = none) (s x : Operand)
    (ho : o.op = .call { callee := .builtin .append, args := #[s, x], argTypes := #[37, 37] }) (B : Nat) (v : Value) (xs : List VarT) (p : VarT) (hs : a.eval s = v) {n : Nat} (hx : a.eval x = .slice (some ⟨n, 0, none⟩) 1 1) (hn : n = W.heap.size) (HO : OwnV W B v xs) (hB : B ≤ W.heap.size) (hl : xs.length ≤ 2147483647)
    (h : ∀ v1 w1, OwnV w1 B v1 (xs ++ [p]) → W.grownBy w1 v.ownBlock → (v1.ownBlock = v.ownBlock ∨ ∃ b, v1.ownBlock = some b ∧ W.heap.size ≤ b) → wpList Tryd.prog ops Q rest (a.put o.dst v1) w1) :
    wpList Tryd.prog ops Q (o :: rest) a (W.alloc (.cells p.cells.toArray 24)) :=
  Kd.R_append kVar (w0 := W) B hgd s x 37 24 (varV ⟨#[]⟩ 0 0 0 ⟨#[]⟩) 56 ho Tryd.underlying37 infoVz rfl (by decide) (by decide) v xs p p.cells (fun _ => True) (fun _ => False) hs (hn ▸ hx) rfl (fun _ h => h.elim) (fun _ _ => trivial) HO (Below.refl _ _) hB (by omega) (fun v1 w1 h1 _ hg hat => h v1 w1 h1 hg hat)
theorem OwnV.block {w : World} {B : Nat} {v : Value} {xs : List VarT} (h : OwnV w B v xs) (k : Nat) (hk : v.ownBlock = some k) : B ≤ k := Kd.R_base h k hk
theorem OwnV.below {w w1 : World} {B : Nat} {v : Value} {xs : List VarT} (h : OwnV w B v xs) (hb : Below w.heap.size w w1) : OwnV w1 B v xs := Kd.R_below h hb
theorem OwnV.nil (w : World) (B : Nat) : OwnV w B (.slice none 0 0) [] := Kd.R_nil kVar _ _ _ _
theorem OwnV.move {w w1 : World} {B : Nat} {v : Value} {xs : List VarT} (h : OwnV w B v xs) (hm : ∀ k, v.ownBlock = some k → w1.heap[k]? = w.heap[k]?) : OwnV w1 B v xs := by
  obtain ⟨h0, inner, ho, hr⟩ := h
  exact ⟨h0, inner, own_move ho hm, hr⟩
theorem OwnV.setMsg {w : World} {B : Nat} {v : Value} {xs : List VarT} (h : OwnV w B v xs) (g : Nat) (hg : g < B) (m : MsgT) (u : Value) : OwnV (setMsg w g m u) B v xs :=
  h.move (fun k hk => by
    obtain ⟨cells, hc⟩ := own_typed h.2.choose_spec.1 k hk
    rw [hc]
    exact setMsg_far hc (by have := h.block k hk; omega) m u)
theorem msg_ret {fn : Func} {p u : Tmp} (h : fn.results = #[.cell p 40, .tmp u]) {R : Ending → World → Prop} {a : Act} {W : World} {g : Nat} {m m' : MsgT} {v v' : Value} (hp : a.tmps.getD p undef = .pointer (some ⟨g, 0, none⟩)) (hd : a.defers = []) (hr : W.heap[g]? = some (msgO m' v'))
    (hR : R (.returned (.tuple #[.agg (m.arr v), a.tmps.getD u undef])) (setMsg W g m v)) : bodyPost Tryd.prog fn R .ret a (setMsg W g m v) :=
  bodyPost_ret (results_cb h _ _ g 40 (m.arr v) (0, 0) _ hp (setMsg_new hr m v) Tryd.underlying40 rfl infoMsg) hd hR
theorem msg_ret2 {fn : Func} {p u : Tmp} (h : fn.results = #[.cell p 40, .tmp u]) {R : Ending → World → Prop} {a : Act} {W : World} {g : Nat} {m m' : MsgT} {v v' : Value} {o : Obj} (hp : a.tmps.getD p undef = .pointer (some ⟨g, 0, none⟩)) (hd : a.defers = []) (hr : W.heap[g]? = some (msgO m' v'))
    (hR : R (.returned (.tuple #[.agg (m.arr v), a.tmps.getD u undef])) ((setMsg W g m v).alloc o)) : bodyPost Tryd.prog fn R .ret a ((setMsg W g m v).alloc o) :=
  bodyPost_ret (results_cb h _ _ g 40 (m.arr v) (0, 0) _ hp (blk_alloc (setMsg_new hr m v) o) Tryd.underlying40 rfl infoMsg) hd hR
theorem grown_blk {w w1 : World} {row : Option Nat} {k : Nat} {o : Obj} (hg : w.grownBy w1 row) (h : w.heap[k]? = some o) (hk : ∀ b, row = some b → b ≠ k) : w1.heap[k]? = some o :=
  (hg.block k (blk_lt h) (fun e => hk k e.symm rfl)).trans h
def GotTold (m : MsgT) (vs : List VarT) (w w' : World) (e : Ending) : Prop := Below w.heap.size w w' ∧ (e = .returned (.tuple #[.agg (zeroM.arr (.slice none 0 0)), .bool false]) ∨
  ∃ (qs : List (VarT × Ask)) (v : Value), vs = qs.map (·.1) ∧ (∀ q ∈ qs, okQ q) ∧ e = .returned (.tuple #[.agg (m.arr v), .bool true]) ∧ OwnV w' w.heap.size v (qs.map toldQ))
set_option maxRecDepth 100000 in
set_option maxHeartbeats 8000000 in
theorem told2_ok (m : MsgT) (A : Option Addr) (c : Nat) (vs : List VarT) (hok : MsgOk m vs.length) (i0 : 0 ≤ m.id) (hv : ∀ v ∈ vs, VarOk v) (w : World) (hC : Kd.C kVar w A vs.length vs) :
    Calls Tryd.prog 15 #[.agg (m.arr (.slice A vs.length c))] w fun e w' => GotTold m vs w w' e := by
  obtain ⟨ver, com, kind, id, st, ix, ent, ag, gen, spc, tm⟩ := m
  obtain ⟨v0, v1, hcom, k0, k1, k4, s0, s1, x0, x1, n20, i1, hent, hag, hgen, hspc, htm⟩ := hok
  simp only at v0 v1 hcom k0 k1 k4 s0 s1 x0 x1 i1 hent hag hgen hspc htm i0
  subst hent hag hgen hspc htm
  have k4' : (kind == 164) = false := beq_eq_false_iff_ne.2 k4
  have HC := Lib.hid (And.intro hC hv)
  clear hC hv
  go_enter Tryd.func15, Tryd.ntmps15
  go_wp2_with fail
  have hb3 := (((Below.refl w.heap.size w).alloc (Nat.le_refl _) (msgO (⟨ver, com, kind, id, st, ix, ⟨#[]⟩, ⟨#[]⟩, 0, 0, 0⟩ : MsgT) (.slice A vs.length c))).alloc (by simp) (msgO zeroM (.slice none 0 0))).alloc (by simp; omega) (msgO (⟨ver, com, kind, id, st, ix, ⟨#[]⟩, ⟨#[]⟩, 0, 0, 0⟩ : MsgT) (.slice none 0 0))
  have hres := blk_alloc (blk_new (w.alloc (msgO (⟨ver, com, kind, id, st, ix, ⟨#[]⟩, ⟨#[]⟩, 0, 0, 0⟩ : MsgT) (.slice A vs.length c))) (msgO zeroM (.slice none 0 0))) (msgO (⟨ver, com, kind, id, st, ix, ⟨#[]⟩, ⟨#[]⟩, 0, 0, 0⟩ : MsgT) (.slice none 0 0))
  rw [show (w.alloc (msgO (⟨ver, com, kind, id, st, ix, ⟨#[]⟩, ⟨#[]⟩, 0, 0, 0⟩ : MsgT) (.slice A vs.length c))).heap.size = w.heap.size + 1 by simp] at hres
  have hout := blk_new ((w.alloc (msgO (⟨ver, com, kind, id, st, ix, ⟨#[]⟩, ⟨#[]⟩, 0, 0, 0⟩ : MsgT) (.slice A vs.length c))).alloc (msgO zeroM (.slice none 0 0))) (msgO (⟨ver, com, kind, id, st, ix, ⟨#[]⟩, ⟨#[]⟩, 0, 0, 0⟩ : MsgT) (.slice none 0 0))
  rw [show ((w.alloc (msgO (⟨ver, com, kind, id, st, ix, ⟨#[]⟩, ⟨#[]⟩, 0, 0, 0⟩ : MsgT) (.slice A vs.length c))).alloc (msgO zeroM (.slice none 0 0))).heap.size = w.heap.size + 1 + 1 by simp] at hout
  generalize (((w.alloc (msgO (⟨ver, com, kind, id, st, ix, ⟨#[]⟩, ⟨#[]⟩, 0, 0, 0⟩ : MsgT) (.slice A vs.length c))).alloc (msgO zeroM (.slice none 0 0))).alloc (msgO (⟨ver, com, kind, id, st, ix, ⟨#[]⟩, ⟨#[]⟩, 0, 0, 0⟩ : MsgT) (.slice none 0 0))) = w3 at *
  have H3 := Lib.hid (And.intro hb3 (And.intro hres hout))
  clear hb3 hres hout
  go_loopg [6, 7, 8, 9, 10, 113] vs.length (fun k v6 v7 v8 v9 v10 v113 wr => ∃ j : Nat, v113 = .int .i64 j ∧ Hid (∃ (qs : List (VarT × Ask)) (V : Value), j ≤ vs.length ∧ k = vs.length - j ∧ vs.take j = qs.map (·.1) ∧ (∀ q ∈ qs, okQ q) ∧ wr.heap[w.heap.size + 1 + 1]? = some (msgO (⟨ver, com, kind, id, st, ix, ⟨#[]⟩, ⟨#[]⟩, 0, 0, 0⟩ : MsgT) V) ∧ wr.heap[w.heap.size + 1]? = some (msgO zeroM (.slice none 0 0)) ∧ Below w.heap.size w wr ∧ OwnV wr (w.heap.size + 3) V (qs.map toldQ)))
  case atStart => exact ⟨0, rfl, Lib.hid ⟨[], _, Nat.zero_le _, rfl, by simp, by simp, H3.out.2.2, H3.out.2.1, H3.out.1, OwnV.nil _ _⟩⟩
  case round =>
    obtain ⟨j, rfl, HJ⟩ := hrel
    obtain ⟨qs, V, hj, hk, hqs, hall, hout, hres, hbw, hown⟩ := HJ.out
    clear HJ H3
    by_cases hjl : j < vs.length
    · obtain ⟨ad, rfl, q0, q1, q2, q3, q4⟩ := var_at (Kd.C_below HC.out.1 hbw) j hjl
      have hvo := HC.out.2 vs[j] (List.getElem_mem hjl)
      generalize hvj : vs[j] = vj at *
      have HJ := Lib.hid (And.intro hvj (And.intro hk (And.intro hqs (And.intro hall (And.intro hout (And.intro hres (And.intro hbw hown)))))))
      clear hvj hk hqs hall hout hres hbw hown
      go_wp2_with fail
      refine (specValue_any vj.nm vj.tx vj.ty vj.i vj.u hvo.i0 hvo.i1 hvo.u0 hvo.u1 hvo.n hvo.t 0 (by omega) _).mono ?_
      rintro e w4 ⟨hb4, h4⟩
      have b4 := (Below.refl wr.heap.size wr).alloc (Nat.le_refl _) (varO vj.nm vj.ty vj.i vj.u vj.tx)
      have hb5 := b4.trans (hb4.mono b4.size)
      obtain ⟨hvj, hk, hqs, hall, hout, hres, hbw, hown⟩ := HJ.out
      have hz := blk_lt hout
      have H4 := Lib.hid (And.intro hvj (And.intro hk (And.intro hqs (And.intro hall (And.intro (blk_below hout hb5) (And.intro (blk_below hres hb5) (And.intro (below_step hbw hb5) (hown.below hb5))))))))
      have hz4 := hb5.size
      have hz5 : w.heap.size + 1 < w4.heap.size := by omega
      have hz6 : w.heap.size + 1 + 1 < w4.heap.size := by omega
      clear hvj hk hqs hall hout hres hbw hown hb4 b4 hb5 HJ q0 q1 q2 q3 q4
      rcases h4 with ⟨v1, v2, rfl⟩ | ⟨arcs, c', i', u', tx', v1, v2, hask, rfl, hn1, hn2⟩
      · obtain ⟨r0, r1, r2, r3, r4, r5, r6, r7, r8, r9, r10, r11⟩ := msg_cells H4.out.2.2.2.2.2.1
        have hfr := fun i => blk_frozen H4.out.2.2.2.2.2.1 i
        have f0 := hfr 0
        have f1 := hfr 1
        have f2 := hfr 2
        have f3 := hfr 3
        have f4 := hfr 4
        have f5 := hfr 5
        have f6 := hfr 6
        have f7 := hfr 7
        have f8 := hfr 8
        have f9 := hfr 9
        have f10 := hfr 10
        have f11 := hfr 11
        clear hfr
        go_wp2
        refine msg_ret2 (m := zeroM) (v := .slice none 0 0) rfl rfl rfl H4.out.2.2.2.2.2.1 ?_
        have hb6 := setMsg_below H4.out.2.2.2.2.2.2.1 (show w.heap.size ≤ w.heap.size + 1 by omega) zeroM (.slice none 0 0)
        exact ⟨hb6.alloc hb6.size _, .inl rfl⟩
      · have hq : okQ (vj, ⟨arcs, c', i', u', tx'⟩) := hask
        have hqt : toldQ (vj, ⟨arcs, c', i', u', tx'⟩) = ⟨strOfNums (sDot arcs), vj.ty, i', u', strOfNums tx'⟩ := rfl
        generalize hdn : strOfNums (sDot arcs) = dn at *
        generalize hdt : strOfNums tx' = dt at *
        obtain ⟨hvj, hk, hqs, hall, hout, hres, hbw, hown⟩ := H4.out
        obtain ⟨A', c2, rfl, -⟩ := Kd.R_slice hown
        have hlen : qs.length = j := by
          have := congrArg List.length hqs
          rw [List.length_take, List.length_map] at this
          omega
        have hl5 : (qs.map toldQ ++ [(⟨dn, vj.ty, i', u', dt⟩ : VarT)]).length = j + 1 := by simp [hlen]
        rw [List.length_map, hlen] at hown hout
        obtain ⟨o0, o1, o2, o3, o4, o5, o6, o7, o8, o9, o10, o11⟩ := msg_cells hout
        have fo6 := blk_frozen hout 6
        clear o0 o1 o2 o3 o4 o5 o7 o8 o9 o10 o11
        have ba := (Below.refl w4.heap.size w4).alloc (Nat.le_refl _) (varO dn vj.ty i' u' dt)
        have HA := Lib.hid (And.intro (hown.below ba) (And.intro (blk_alloc hout (varO dn vj.ty i' u' dt)) (And.intro (blk_alloc hres (varO dn vj.ty i' u' dt)) (And.intro (below_step hbw ba) (And.intro hvj (And.intro hk (And.intro hqs (And.intro hall (And.intro hq hqt)))))))))
        clear hvj hk hqs hall hout hres hbw hown hask hq hqt hdn hdt hn1 hn2 H4 ba
        go_wp2_with (at_builtin; refine app_var rfl (.tmp 128) (.tmp 130) rfl (w.heap.size + 3) _ (qs.map toldQ) ⟨dn, vj.ty, i', u', dt⟩ rfl rfl (by simp) HA.out.1 (by simp; omega) (by rw [List.length_map]; omega) ?_; intro v1 w5 ho5 hg5 hat5; obtain ⟨A5, c5, rfl, -⟩ := Kd.R_slice ho5; rw [hl5] at ho5 ⊢; have hout5 := grown_blk hg5 HA.out.2.1 (fun k hk => by have := HA.out.1.block k hk; omega); have hres5 := grown_blk hg5 HA.out.2.2.1 (fun k hk => by have := HA.out.1.block k hk; omega); have z6 := (msg_cells hout5).2.2.2.2.2.2.1; have zf6 := blk_frozen hout5 6; refine Hid.out ?_)
        have hb6 := HA.out.2.2.2.1.grown hg5 (by simp; omega) (fun k hk => by have := HA.out.1.block k hk; omega)
        have hput : (w5.setCell ⟨w.heap.size + 1 + 1, 6, none⟩ (.slice A5 (j + 1) c5)).heap[w.heap.size + 1 + 1]? = some (msgO (⟨ver, com, kind, id, st, ix, ⟨#[]⟩, ⟨#[]⟩, 0, 0, 0⟩ : MsgT) (.slice A5 (j + 1) c5)) := blk_put (cs' := (⟨ver, com, kind, id, st, ix, ⟨#[]⟩, ⟨#[]⟩, 0, 0, 0⟩ : MsgT).arr (.slice A5 (j + 1) c5)) hout5 6 _ rfl
        have hres6 : (w5.setCell ⟨w.heap.size + 1 + 1, 6, none⟩ (.slice A5 (j + 1) c5)).heap[w.heap.size + 1]? = some (msgO zeroM (.slice none 0 0)) := (Below.heap_setCell _ _ _ _ (by show w.heap.size + 1 ≠ w.heap.size + 1 + 1; omega)).trans hres5
        have ho6 : OwnV (w5.setCell ⟨w.heap.size + 1 + 1, 6, none⟩ (.slice A5 (j + 1) c5)) (w.heap.size + 3) (.slice A5 (j + 1) c5) (qs.map toldQ ++ [⟨dn, vj.ty, i', u', dt⟩]) := ho5.move (fun k hk => Below.heap_setCell _ _ _ _ (by have := ho5.block k hk; show k ≠ w.heap.size + 1 + 1; omega))
        have H6 := Lib.hid (And.intro hput (And.intro hres6 (And.intro (below_set (j := 6) (v := .slice A5 (j + 1) c5) hb6 (show w.heap.size ≤ w.heap.size + 1 + 1 by omega)) ho6)))
        clear hb6 hput hres6 ho6 ho5 hg5 hat5 hout5 hres5
        refine Lib.hid ?_
        go_wp2
        go_roundg (vs.length - (j + 1))
        case measure =>
          have := HA.out.2.2.2.2.2.1
          omega
        case rel => exact ⟨j + 1, by go_num, Lib.hid ⟨qs ++ [(vj, ⟨arcs, c', i', u', tx'⟩)], _, by omega, rfl, by
          rw [List.take_succ_eq_append_getElem hjl, HA.out.2.2.2.2.2.2.1, HA.out.2.2.2.2.1]
          simp, by
          intro q hq
          rcases List.mem_append.1 hq with hq | hq
          · exact HA.out.2.2.2.2.2.2.2.1 q hq
          · simp only [List.mem_singleton] at hq
            subst hq
            exact HA.out.2.2.2.2.2.2.2.2.1, H6.out.1, H6.out.2.1, H6.out.2.2.1, by
          rw [List.map_append, List.map_cons, List.map_nil, HA.out.2.2.2.2.2.2.2.2.2]
          exact H6.out.2.2.2⟩⟩
    · obtain rfl : j = vs.length := by omega
      rw [List.take_length] at hqs
      have hz := blk_lt hout
      obtain ⟨A', c', rfl, -⟩ := Kd.R_slice hown
      rw [List.length_map] at hout hown
      obtain ⟨o0, o1, o2, o3, o4, o5, o6, o7, o8, o9, o10, o11⟩ := msg_cells hout
      obtain ⟨r0, r1, r2, r3, r4, r5, r6, r7, r8, r9, r10, r11⟩ := msg_cells hres
      have hfr := fun i => blk_frozen hres i
      have HE := Lib.hid (And.intro hqs (And.intro hall (And.intro hres (And.intro hbw (And.intro hown hout)))))
      have f0 := hfr 0
      have f1 := hfr 1
      have f2 := hfr 2
      have f3 := hfr 3
      have f4 := hfr 4
      have f5 := hfr 5
      have f6 := hfr 6
      have f7 := hfr 7
      have f8 := hfr 8
      have f9 := hfr 9
      have f10 := hfr 10
      have f11 := hfr 11
      clear hqs hall hres hbw hown hout hfr
      go_wp2
      refine msg_ret (m := (⟨ver, com, kind, id, st, ix, ⟨#[]⟩, ⟨#[]⟩, 0, 0, 0⟩ : MsgT)) (v := .slice A' qs.length c') rfl rfl rfl HE.out.2.2.1 ?_
      exact ⟨setMsg_below HE.out.2.2.2.1 (by omega) _ _, .inr ⟨qs, _, HE.out.1, HE.out.2.1, rfl, Kd.R_lower (OwnV.setMsg HE.out.2.2.2.2.1 (w.heap.size + 1) (by omega) _ _) (by omega)⟩⟩
end Go.Proofs.YtangjgclpipjdaaDoor
set_option linter.unusedVariables false
namespace Go.Proofs.YtangjgclpipjdaaDoor
open Go.RowKit Go.Proofs.YtangjgclpipjdaaDoorW.PrintWords Go.Proofs.YtangjgclpipjdaaDoorW.PrintLast Go.Proofs.YtangjgclpipjdaaDoorW.PrintMore
/-- What unmarshalVBL makes of a variable that is read out of bytes that stand at A. -/
def PduIs (A : Option Addr) (xs : List Int) (v : VarP) (p : PduT) : Prop := p.nm = strOfNums (sDot v.1) ∧ p.ty = v.2.1 ∧ 0 ≤ p.ty ∧ p.ty ≤ 255 ∧ ∀ W, Kd.C (Kd.int .u8) W A xs.length xs → ToldIn W p.v.val v.2.2.1 v.2.2.2.1 v.2.2.2.2
def PdusAre (A : Option Addr) (xs : List Int) (vs : List VarP) (ps : List PduT) : Prop := ps.length = vs.length ∧ ∀ j (h1 : j < vs.length) (h2 : j < ps.length), PduIs A xs vs[j] ps[j]
theorem PdusAre.nil (A : Option Addr) (xs : List Int) : PdusAre A xs [] [] := ⟨rfl, fun j h1 => by simp at h1⟩
theorem PdusAre.snoc {A : Option Addr} {xs : List Int} {vs : List VarP} {ps : List PduT} (h : PdusAre A xs vs ps) {v : VarP} {p : PduT} (hp : PduIs A xs v p) : PdusAre A xs (vs ++ [v]) (ps ++ [p]) := by
  obtain ⟨h1, h2⟩ := h
  refine ⟨by simp [h1], fun j k1 k2 => ?_⟩
  by_cases hj : j < vs.length
  · rw [List.getElem_append_left hj, List.getElem_append_left (by omega)]
    exact h2 j hj (by omega)
  · have e : j = vs.length := by simp at k1; omega
    subst e
    rw [List.getElem_append_right (Nat.le_refl _), List.getElem_append_right (by omega)]
    simpa [h1] using hp
def GotVbl (w0 : World) (g : Nat) (pk : PktT) (A : Option Addr) (xs : List Int) (vs : List VarP) (w' : World) (e : Ending) : Prop :=
  e = .returned .nilIface ∧ ∃ V' ps, w'.heap[g]? = some (pktO pk V') ∧ OwnP w' (g + 1) V' ps ∧ PdusAre A xs vs ps ∧ Below w0.heap.size w0 w'
theorem mid_of (xs : List Int) (p L k : Nat) : (xs.take (p + L)).drop (p + k) = ((xs.drop p).take L).drop k := by
  rw [List.drop_take, List.drop_take, List.drop_drop]
  congr 1
  omega
theorem sOpen_head {b c r : List Int} {t : Int} (h : sOpen b = some (t, c, r)) : rd b 0 = t := by
  unfold sOpen at h
  split at h
  · simp only [Option.some.injEq, Prod.mk.injEq] at h
    exact h.1
  · simp at h
theorem sVars_inv {y : List Int} {rest : List VarP} (hB : IsB y) (h0 : y.length ≠ 0) (h : sVars y.length y = some rest) : ∃ v y' rest', sOfVar y = some (v, y') ∧ rest = v :: rest' ∧ sVars y'.length y' = some rest' := by
  rcases ho : sOfVar y with _ | ⟨v, y'⟩
  · rw [sVars_none h0 ho] at h; simp at h
  · rw [(sVars_step hB ho).1] at h
    obtain ⟨r, hr, rfl⟩ := Option.map_eq_some_iff.1 h
    exact ⟨v, y', r, rfl, rfl, hr⟩
theorem told_pv {W : World} {V : Value} {i u : Int} {tx : List Int} (h : ToldIn W V i u tx) : ∃ pv : PV, V = pv.val := by
  cases h with
  | nil => exact ⟨.nil, rfl⟩
  | int => exact ⟨.ifc _ _, rfl⟩
  | uint => exact ⟨.ifc _ _, rfl⟩
  | u32 => exact ⟨.ifc _ _, rfl⟩
  | u64 => exact ⟨.ifc _ _, rfl⟩
  | bytes => exact ⟨.ifc _ _, rfl⟩
  | str => exact ⟨.ifc _ _, rfl⟩
theorem tabs_lt {z : Addr} {w : World} (h : Tabs z w) : 13 < w.heap.size ∧ 9 < w.heap.size := ⟨World.block_lt_of_cell? _ _ h.z4.1, World.block_lt_of_cell? _ _ h.z4.2⟩
theorem sOpen_two {xs list : List Int} {t : Int} (hB : IsB xs) (h : sOpen xs = some (t, list, [])) (h2 : xs.length = 2) : list = [] ∧ rd xs 1 = 0 := by
  have hl := (sOpen_ends hB h).2.2
  refine ⟨List.eq_nil_of_length_eq_zero (by omega), ?_⟩
  unfold sOpen at h
  split at h
  case isFalse => simp at h
  rename_i hok
  obtain ⟨a1, a2, a3, a4, a5⟩ := hok
  have h1 := hB.rd 1
  unfold pLen at a5
  split at a5
  · simp only at a5
    omega
  · have := a4 (by omega)
    omega
set_option maxRecDepth 100000 in
set_option maxHeartbeats 8000000 in
theorem uvbl_any (xs list : List Int) (A : Option Addr) (cc : Nat) (hcc : xs.length ≤ cc) (hB : IsB xs) (ho : sOpen xs = some (48, list, [])) (vs : List VarP) (hvs : sVars list.length list = some vs) (h67 : ∀ v ∈ vs, v.2.1 = 67 → v.2.2.2.1 ≤ 4294967295) (hx : xs.length ≤ 20000)
    (w0 w : World) (h0 : Below w0.heap.size w0 w) (hr : Kd.C (Kd.int .u8) w0 A xs.length xs) (z : Addr) (hT : Tabs z w0) (gx g : Nat) (pk : PktT) (V : Value) (hgx : w0.heap[gx]? = some (.cells #[] 103 (0, 0))) (hgB : w0.heap.size ≤ g) (hg : w.heap[g]? = some (pktO pk V)) (hown : OwnP w (g + 1) V []) :
    Calls Tryd.prog 112 #[.pointer (some ⟨gx, 0, none⟩), .slice A xs.length cc, .pointer (some ⟨g, 0, none⟩)] w fun e w' => GotVbl w0 g pk A xs vs w' e := by
  obtain ⟨A0, c0, hE⟩ := elem_open ho A cc hcc hB
  rw [List.length_nil, Nat.sub_zero] at hE
  have two := hE.two
  have hrw := Kd.C_below hr h0
  obtain ⟨ad, rfl, k0⟩ := hE.head w hrw
  have hl1 := (sOpen_ends hB ho).2.2
  have hE1 := sOpen_all hB ho
  have hBl := (sOpen_isB hB ho).1
  obtain ⟨ad1, e1, k1⟩ := cell_at hrw 1 (by omega)
  obtain rfl : ad = ad1 := by injection e1
  have k1 : w.cell? (ad.add 1) = some (.int .u8 (rd xs 1)) := k1
  have k1 : w.cell? ⟨ad.block, ad.off + 1, none⟩ = some (.int .u8 (rd xs 1)) := by simpa [Addr.add] using k1
  have hgx1 := blk_below hgx h0
  have hpart := fun W => part_zero W gx
  have hpos : (xs.length : Int) ≠ 0 := by omega
  have d0 : ((xs.length : Int) == 0) = false := beq_eq_false_iff_ne.2 hpos
  have HH := Lib.hid (And.intro hE (And.intro hr (And.intro hT (And.intro hgx (And.intro h0 (And.intro hg hown))))))
  clear hE hr hT hgx h0 hg hown hrw e1 hpos
  by_cases hx2 : xs.length = 2
  · obtain ⟨hls, hz1⟩ := sOpen_two hB ho hx2
    rw [hz1] at k1
    have d2 : ((xs.length : Int) == 2) = true := beq_iff_eq.2 (by omega)
    have HL := Lib.hid (And.intro hls hx2)
    clear hls hz1 hx2
    go_enter Tryd.func112, Tryd.ntmps112
    go_wp2_with fail
    refine (HH.out.1.parse _ (Kd.C_below HH.out.2.1 HH.out.2.2.2.2.1)).mono ?_
    rintro e w2 ⟨rfl, rfl⟩
    go_wp2_with fail
    refine (printf_any _ _ _).mono ?_
    rintro e w3 ⟨rfl, hb3⟩
    have hb := ((Below.refl w.heap.size w).alloc (Nat.le_refl _) (.cells #[.iface 3 (.int .i64 xs.length)] 20))
    have b3 := below_step hb hb3
    have k3 := cell_up' k1 b3
    have H3 := Lib.hid (And.intro (blk_below HH.out.2.2.2.2.2.1 b3) (And.intro (HH.out.2.2.2.2.2.2.below b3) (below_step HH.out.2.2.2.2.1 b3)))
    clear hb3 hb b3 k1 k0 hgx1
    go_wp2
    go_ret
    refine ⟨rfl, V, [], H3.out.1, H3.out.2.1, ?_, H3.out.2.2⟩
    have hls := HL.out.1
    subst hls
    obtain rfl : vs = [] := by
      have : some vs = some [] := hvs.symm
      exact Option.some.inj this
    exact PdusAre.nil _ _
  · have d2 : ((xs.length : Int) == 2) = false := beq_eq_false_iff_ne.2 (by omega)
    have HL := Lib.hid hx2
    clear hx2
    go_enter Tryd.func112, Tryd.ntmps112
    go_wp2_with fail
    refine (HH.out.1.parse _ (Kd.C_below HH.out.2.1 HH.out.2.2.2.2.1)).mono ?_
    rintro e w2 ⟨rfl, rfl⟩
    go_wp2_with fail
    refine (printf_any _ _ _).mono ?_
    rintro e w3 ⟨rfl, hb3⟩
    have hb := ((Below.refl w.heap.size w).alloc (Nat.le_refl _) (.cells #[.iface 3 (.int .i64 xs.length)] 20))
    have b3 := below_step hb hb3
    have H3 := Lib.hid (And.intro (blk_below HH.out.2.2.2.2.2.1 b3) (And.intro (HH.out.2.2.2.2.2.2.below b3) (below_step HH.out.2.2.2.2.1 b3)))
    clear hb3 hb b3 k1 k0 hgx1
    have hTl := tabs_lt HH.out.2.2.1
    go_wp2_with fail
    go_loopg [7] list.length (fun k v7 wr => ∃ p : Nat, v7 = .int .i64 p ∧ Hid (∃ (y : List Int) (vd vr : List VarP) (V' : Value) (ps : List PduT), p + y.length = xs.length ∧ k = y.length ∧ xs.drop p = y ∧ vs = vd ++ vr ∧ sVars y.length y = some vr ∧ wr.heap[g]? = some (pktO pk V') ∧ OwnP wr (g + 1) V' ps ∧ PdusAre (some ad) xs vd ps ∧ vd.length + y.length ≤ xs.length ∧ Below w0.heap.size w0 wr))
    case atStart => exact ⟨xs.length - list.length, by congr 1; omega, Lib.hid ⟨list, [], vs, V, [], by omega, rfl, hE1, rfl, hvs, H3.out.1, H3.out.2.1, PdusAre.nil _ _, by simp; omega, H3.out.2.2⟩⟩
    case round =>
      obtain ⟨p, rfl, HJ⟩ := hrel
      obtain ⟨y, vd, vr, V', ps, hpy, hk, hyd, hvv, hsv, hgp, hop, hpa, hvl, hbw⟩ := HJ.out
      clear HJ H3
      have hBy : IsB y := by rw [← hyd]; exact isB_drop hB p
      by_cases hy0 : y.length = 0
      · have hpl : ¬ ((p : Int) < xs.length) := by omega
        obtain rfl := List.eq_nil_of_length_eq_zero hy0
        obtain rfl : vr = [] := by
          have : some vr = some [] := hsv.symm
          exact Option.some.inj this
        rw [List.append_nil] at hvv
        have HE := Lib.hid (And.intro hgp (And.intro hop (And.intro hpa (And.intro hbw hvv))))
        clear hgp hop hpa hbw hvv hyd hpy hk hsv hvl
        go_wp2
        go_ret
        refine ⟨rfl, V', ps, HE.out.1, HE.out.2.1, ?_, HE.out.2.2.2.1⟩
        rw [HE.out.2.2.2.2]
        exact HE.out.2.2.1
      · obtain ⟨v, y', vr', hov, rfl, hsv'⟩ := sVars_inv hBy hy0 hsv
        obtain ⟨inn, nm, in2, c, hV⟩ := sOfVar_parts hov
        have ho1 := sNext_open hV.n1
        have ho2 := sNext_open hV.n2
        have ho3 := hV.n3
        obtain ⟨e1a, e1b, l1⟩ := sOpen_ends hBy ho1
        have hB1 := sOpen_isB hBy ho1
        obtain ⟨e2a, -, l2⟩ := sOpen_ends hB1.1 ho2
        have hB2 := sOpen_isB hB1.1 ho2
        have hB3 := sOpen_isB hB2.2.1 ho3
        have l3 := (sOpen_ends hB2.2.1 ho3).2.2
        -- the places
        obtain ⟨q, hq⟩ : ∃ q : Nat, q + y'.length = xs.length := ⟨xs.length - y'.length, by omega⟩
        obtain ⟨p1, hp1⟩ : ∃ p1 : Nat, p1 + inn.length = q := ⟨q - inn.length, by omega⟩
        obtain ⟨p2, hp2⟩ : ∃ p2 : Nat, p2 + in2.length = q := ⟨q - in2.length, by omega⟩
        have hm1 : (xs.take q).drop p1 = inn := by
          rw [show q = p + (y.length - y'.length) by omega, show p1 = p + (y.length - y'.length - inn.length) by omega, mid_of, hyd, e1b]
        have hm2 : (xs.take q).drop p2 = in2 := by
          rw [show p2 = p1 + (inn.length - in2.length) by omega, ← List.drop_drop, hm1, e2a]
        have hdq : xs.drop q = y' := by
          rw [show q = p + (y.length - y'.length) by omega, ← List.drop_drop, hyd, e1a]
        obtain ⟨-, Ay, -, hcy, -, hCy⟩ := open_cuts (some ad) cc xs hcc p p (Nat.le_refl _) (by omega) p p rfl rfl
        rw [hyd] at hcy hCy
        obtain ⟨Ai, -, hci, -, hCi, -⟩ := open_cuts (some ad) cc xs hcc p1 q (by omega) (by omega) p1 q rfl rfl
        rw [hm1] at hci hCi
        obtain ⟨A2, -, hc2, -, hC2, -⟩ := open_cuts (some ad) cc xs hcc p2 q (by omega) (by omega) p2 q rfl rfl
        rw [hm2] at hc2 hC2
        obtain ⟨Ay', cy', hEy⟩ := elem_open ho1 Ay (cc - p) (by omega) hBy
        obtain ⟨Ai', ci', hEi⟩ := elem_open ho2 Ai (cc - p1) (by omega) hB1.1
        obtain ⟨A2', c2', hE2⟩ := elem_open ho3 A2 (cc - p2) (by omega) hB2.2.1
        rw [List.length_nil, Nat.sub_zero] at hE2
        obtain ⟨Ly, hLy⟩ : ∃ Ly : Nat, Ly = y.length - y'.length := ⟨_, rfl⟩
        obtain ⟨Li, hLi⟩ : ∃ Li : Nat, Li = inn.length - in2.length := ⟨_, rfl⟩
        rw [← hLy] at hEy
        rw [← hLi] at hEi
        have hrr := Kd.C_below HH.out.2.1 hbw
        have hLye : (p : Int) + Ly = q := by omega
        have hLyc : (p : Int) + ((Ly : Int) - inn.length) = p1 := by omega
        have hLic : (p1 : Int) + Li = p2 := by omega
        have hqx : (q : Int) ≤ xs.length := by omega
        have hLb : Ly ≤ xs.length ∧ Li ≤ xs.length ∧ inn.length ≤ Ly ∧ inn.length ≤ xs.length := by omega
        have hLL := Lib.hid (And.intro hLy hLi)
        clear hLy hLi
        have k48 : wr.cell? (ad.add p) = some (.int .u8 48) := by
          obtain ⟨ad', e, hk⟩ := cell_at hrr p (by omega)
          obtain rfl : ad = ad' := by injection e
          rw [hk]
          have h1 : rd y 0 = 48 := sOpen_head ho1
          rw [← hyd] at h1
          congr 2
          rw [← h1]
          unfold Go.Proofs.YtangjgclpipjdaaDoorW.PrintWords.rd
          simp [List.getD_eq_getElem?_getD, List.getElem?_drop]
        have hplt : (p : Int) < xs.length := by omega
        have hgx3 := blk_below HH.out.2.2.2.1 hbw
        have HA := Lib.hid (And.intro hEy (And.intro hEi (And.intro hE2 (And.intro hV (And.intro hsv' (And.intro hvv (And.intro hC2 (And.intro hCi hCy))))))))
        have HW := Lib.hid (And.intro hgp (And.intro hop (And.intro hpa (And.intro hbw (And.intro hvl (And.intro hk hdq))))))
        clear hEy hEi hE2 hV hsv' hvv hsv hC2 hCi hgp hop hpa hbw hvl hk hdq hm1 hm2 hov e1a e1b e2a hyd
        go_wp2_with fail
        refine (HA.out.1.parse _ (HA.out.2.2.2.2.2.2.2.2.2 _ hrr)).mono ?_
        rintro e w4 ⟨rfl, rfl⟩
        have mixed : Tryd.prog.follows Departure.mixedOrders = true := by kernel_rfl
        have hta := fun (s : ByteArray) W => as_str (.string s) W
        go_wp2_with fail
        have hgd : wr.drew.heap[gx]? = some (.cells #[] 103 (0, 0)) := hgx3
        have hrd := HA.out.2.2.2.2.2.2.2.1.2 _ (Kd.C_below hrr (below_drew (Below.refl wr.heap.size wr)))
        have htd : PowTab wr.drew := (HH.out.2.2.1.on (below_drew HW.out.2.2.2.1)).pow
        obtain ⟨oid, hoid⟩ : ∃ oid, oid = strOfNums (sDot v.1) := ⟨_, rfl⟩
        have HP := Lib.hid (And.intro (fun W hW hT => parseRaw_name Ai (cc - p1) inn nm Li Ai' ci' ⟨#[79, 73, 68]⟩ hB2.1 v.1 HA.out.2.2.2.1.nm HA.out.2.1 (by omega) W hW hT) (And.intro hrd htd))
        rw [← hoid] at HP
        have HO := Lib.hid hoid
        clear hoid hrd htd hgx3 k48
        go_region_with_o (go_at_call 74; refine (HP.out.1 _ ?_ ?_).mono ?_; exact HP.out.2.1; exact HP.out.2.2; rintro e w5 ⟨rfl, hb5⟩; have hgx5 := blk_below hgd hb5)
        have b5 : Below wr.heap.size wr w5 := below_step (below_drew (Below.refl wr.heap.size wr)) hb5
        have bp5 := (Below.refl w5.heap.size w5).alloc (Nat.le_refl _) (.cells #[.iface 9 (.string oid)] 20)
        go_wp2_with fail
        refine (printf_any _ _ _).mono ?_
        rintro e w6 ⟨rfl, hb6⟩
        have b6 := below_step b5 (below_step bp5 hb6)
        have hr6 := HA.out.2.2.2.2.2.2.1.2 w6 (Kd.C_below hrr b6)
        have hgx6 := blk_below hgx5 (below_step bp5 hb6)
        have HB6 := Lib.hid (And.intro b6 hr6)
        clear hb5 b5 bp5 hb6 b6 hr6 hgx5 hgd
        go_wp2_with fail
        refine (HA.out.2.2.1.parse _ HB6.out.2).mono ?_
        rintro e w7 ⟨rfl, rfl⟩
        go_wp2_with fail
        have hgl := blk_lt HW.out.1
        have hsz6 := HB6.out.1.size
        have hsz0 := HW.out.2.2.2.1.size
        have b7 := HB6.out.1.alloc hsz6 (vbO .nilIface 0)
        have hAlt : ∀ ad', A2 = some ad' → ad'.block ≠ w6.heap.size := fun ad' e => by
          obtain ⟨ad2, e2, hc⟩ := HA.out.2.2.1.head w6 HB6.out.2
          obtain rfl : ad' = ad2 := Option.some.inj (e.symm.trans e2)
          have := World.block_lt_of_cell? _ _ hc
          omega
        refine (decT_any HA.out.2.2.2.1.told (fun h => h67 v (by rw [HA.out.2.2.2.2.2.1]; simp) h) hB3.1 (by omega) in2 in2.length A2 (cc - p2) A2' c2' HA.out.2.2.1 rfl (by omega) (w6.alloc (vbO .nilIface 0)) (Kd.C_alloc HB6.out.2 _) z (HH.out.2.2.1.on (below_step HW.out.2.2.2.1 b7)) gx w6.heap.size (blk_alloc hgx6 _) (blk_new _ _) hAlt (by omega) (by omega)).mono ?_
        rintro e w8 ⟨rfl, V8, hD, hTold⟩
        have b8 : Below wr.heap.size wr w8 := b7.grown hD.2 (by simp; omega) (fun k hk => by injection hk with hk; omega)
        obtain ⟨pv, rfl⟩ := told_pv (hTold w8 (HA.out.2.2.2.2.2.2.1.2 w8 (Kd.C_below hrr b8)))
        have hPI : PduIs (some ad) xs v ⟨pv, oid, v.2.1⟩ := ⟨HO.out, rfl, hB3.2.2.1, hB3.2.2.2, fun W hW => hTold W (HA.out.2.2.2.2.2.2.1.2 W hW)⟩
        have hPA := PdusAre.snoc HW.out.2.2.1 hPI
        obtain ⟨ty, hty⟩ : ∃ ty, ty = v.2.1 := ⟨_, rfl⟩
        have hD1 := hD.1
        rw [← hty] at hPA hD1
        have hg8 := blk_below HW.out.1 b8
        have hop8 := HW.out.2.1.below b8
        obtain ⟨A5, c5, rfl, -⟩ := Kd.R_slice hop8
        have k10 : w8.cell? ⟨g, 10, none⟩ = some (.slice A5 ps.length c5) := (blk_cell hg8 10).trans rfl
        have f10 := blk_frozen hg8 10
        have d0' : w8.cell? ⟨w6.heap.size, 0, none⟩ = some pv.val := (blk_cell hD1 0).trans rfl
        have d1' : w8.cell? ⟨w6.heap.size, 1, none⟩ = some (.int .u8 ty) := (blk_cell hD1 1).trans rfl
        have hlen := hPA.1
        have hps : ps.length ≤ xs.length := by have := HW.out.2.2.1.1; have := HW.out.2.2.2.2.1; omega
        have H8 := Lib.hid (And.intro hg8 (And.intro hop8 (And.intro hPA (And.intro (below_step HW.out.2.2.2.1 b8) hty))))
        have hD8 := Lib.hid (blk_below hD1 (below_drew (Below.refl w8.heap.size w8)))
        clear hD hTold hPI hPA hg8 hop8 b8 b7 hAlt hgx6 hty hD1 hlen
        have HD := Lib.hid (And.intro (OwnP.below H8.out.2.1 (below_drew (Below.refl w8.heap.size w8))) (And.intro (blk_below H8.out.1 (below_drew (Below.refl w8.heap.size w8))) (below_drew H8.out.2.2.2.1)))
        have hsg : g + 1 ≤ w8.drew.heap.size := blk_lt HD.out.2.1
        have hszd : w8.drew.heap.size = w8.heap.size := rfl
        have hkne : ∀ k, (Value.slice A5 ps.length c5).ownBlock = some k → k ≠ w6.heap.size := fun k hk => by
          obtain ⟨h0, -⟩ := Kd.R_bound HW.out.2.1
          have := (h0 k hk).2.2.1
          omega
        have hgne : w6.heap.size ≠ g := by omega
        cases pv with
        | nil =>
          simp only [PV.val] at *
          have kD : w8.drew.cell? ⟨g, 10, none⟩ = some (.slice A5 ps.length c5) := k10
          have kDa := cell_al k10 (.cells #[.nilIface, .string oid, .int .u8 ty] 60)
          have e0 : w8.drew.cell? ⟨w6.heap.size, 0, none⟩ = some (.nilIface) := d0'
          have e1 : w8.drew.cell? ⟨w6.heap.size, 1, none⟩ = some (.int .u8 ty) := d1'
          have hl5 : (ps ++ [(⟨.nil, oid, ty⟩ : PduT)]).length = ps.length + 1 := by simp
          go_wp2_with fail
          go_region_law (refine app_pdu_step (W := w8.drew) (by rfl) (.tmp 207) (.tmp 214) rfl (g + 1) _ ps ⟨.nil, oid, ty⟩ (by rfl) (by rfl) (by rfl) HD.out.1 hsg (by omega) ?_; intro v1 w9 ho9 hg9 hat9; obtain ⟨A9, c9, rfl, -⟩ := Kd.R_slice ho9; rw [hl5] at ho9 ⊢; have hp9 := grown_blk hg9 HD.out.2.1 (fun k hk => by have := HD.out.1.block k hk; omega); have z9 : w9.cell? ⟨g, 10, none⟩ = some (.slice A5 ps.length c5) := (blk_cell hp9 10).trans rfl; have zf9 := blk_frozen hp9 10)
          all_goals
            have b9 := HD.out.2.2.grown hg9 (by have := HW.out.2.2.2.1.size; omega) (fun k hk => by have := HD.out.1.block k hk; omega)
            have hput : (w9.setCell ⟨g, 10, none⟩ (.slice A9 (ps.length + 1) c9)).heap[g]? = some (pktO pk (.slice A9 (ps.length + 1) c9)) := blk_put (cs' := pk.arr (.slice A9 (ps.length + 1) c9)) hp9 10 _ rfl
            have ho10 : OwnP (w9.setCell ⟨g, 10, none⟩ (.slice A9 (ps.length + 1) c9)) (g + 1) (.slice A9 (ps.length + 1) c9) (ps ++ [⟨.nil, oid, ty⟩]) := OwnP.move ho9 (fun k hk => Below.heap_setCell _ _ _ _ (by have := OwnP.block ho9 k hk; show k ≠ g; omega))
            have H10 := Lib.hid (And.intro hput (And.intro ho10 (below_set (j := 10) (v := .slice A9 (ps.length + 1) c9) b9 hgB)))
            clear b9 hput ho10 ho9 hg9 hat9 hp9 z9 zf9 kD kDa e0 e1
            go_wp2
            go_roundg y'.length
            case measure =>
              have := HW.out.2.2.2.2.2.1
              omega
            case rel => exact ⟨q, by go_num, Lib.hid ⟨y', vd ++ [v], vr', _, _, hq, rfl, HW.out.2.2.2.2.2.2, by rw [HA.out.2.2.2.2.2.1]; simp, HA.out.2.2.2.2.1, H10.out.1, H10.out.2.1, H8.out.2.2.1, by simp; have := HW.out.2.2.2.2.1; omega, H10.out.2.2⟩⟩
        | ifc t x =>
          simp only [PV.val] at *
          have kD : w8.drew.cell? ⟨g, 10, none⟩ = some (.slice A5 ps.length c5) := k10
          have kDa := cell_al k10 (.cells #[.iface t x, .string oid, .int .u8 ty] 60)
          have e0 : w8.drew.cell? ⟨w6.heap.size, 0, none⟩ = some (.iface t x) := d0'
          have e1 : w8.drew.cell? ⟨w6.heap.size, 1, none⟩ = some (.int .u8 ty) := d1'
          have hl5 : (ps ++ [(⟨.ifc t x, oid, ty⟩ : PduT)]).length = ps.length + 1 := by simp
          go_wp2_with fail
          go_region_law (refine app_pdu_step (W := w8.drew) (by rfl) (.tmp 207) (.tmp 214) rfl (g + 1) _ ps ⟨.ifc t x, oid, ty⟩ (by rfl) (by rfl) (by rfl) HD.out.1 hsg (by omega) ?_; intro v1 w9 ho9 hg9 hat9; obtain ⟨A9, c9, rfl, -⟩ := Kd.R_slice ho9; rw [hl5] at ho9 ⊢; have hp9 := grown_blk hg9 HD.out.2.1 (fun k hk => by have := HD.out.1.block k hk; omega); have z9 : w9.cell? ⟨g, 10, none⟩ = some (.slice A5 ps.length c5) := (blk_cell hp9 10).trans rfl; have zf9 := blk_frozen hp9 10)
          all_goals
            have b9 := HD.out.2.2.grown hg9 (by have := HW.out.2.2.2.1.size; omega) (fun k hk => by have := HD.out.1.block k hk; omega)
            have hput : (w9.setCell ⟨g, 10, none⟩ (.slice A9 (ps.length + 1) c9)).heap[g]? = some (pktO pk (.slice A9 (ps.length + 1) c9)) := blk_put (cs' := pk.arr (.slice A9 (ps.length + 1) c9)) hp9 10 _ rfl
            have ho10 : OwnP (w9.setCell ⟨g, 10, none⟩ (.slice A9 (ps.length + 1) c9)) (g + 1) (.slice A9 (ps.length + 1) c9) (ps ++ [⟨.ifc t x, oid, ty⟩]) := OwnP.move ho9 (fun k hk => Below.heap_setCell _ _ _ _ (by have := OwnP.block ho9 k hk; show k ≠ g; omega))
            have H10 := Lib.hid (And.intro hput (And.intro ho10 (below_set (j := 10) (v := .slice A9 (ps.length + 1) c9) b9 hgB)))
            clear b9 hput ho10 ho9 hg9 hat9 hp9 z9 zf9 kD kDa e0 e1
            go_wp2
            go_roundg y'.length
            case measure =>
              have := HW.out.2.2.2.2.2.1
              omega
            case rel => exact ⟨q, by go_num, Lib.hid ⟨y', vd ++ [v], vr', _, _, hq, rfl, HW.out.2.2.2.2.2.2, by rw [HA.out.2.2.2.2.2.1]; simp, HA.out.2.2.2.2.1, H10.out.1, H10.out.2.1, H8.out.2.2.1, by simp; have := HW.out.2.2.2.2.1; omega, H10.out.2.2⟩⟩
end Go.Proofs.YtangjgclpipjdaaDoor
set_option linter.unusedVariables false
namespace Go.Proofs.YtangjgclpipjdaaDoor
open Go.RowKit Go.Proofs.YtangjgclpipjdaaDoorW.PrintWords Go.Proofs.YtangjgclpipjdaaDoorW.PrintLast Go.Proofs.YtangjgclpipjdaaDoorW.PrintMore
/-- The package's message in its block, its list still empty. -/
def St (w0 : World) (g : Nat) (pk : PktT) (V : Value) (W : World) : Prop := W.heap[g]? = some (pktO pk V) ∧ OwnP W (g + 1) V [] ∧ Below w0.heap.size w0 W
theorem St.step {w0 W W' : World} {g : Nat} {pk : PktT} {V : Value} (h : St w0 g pk V W) (hb : Below W.heap.size W W') : St w0 g pk V W' := ⟨blk_below h.1 hb, h.2.1.below hb, below_step h.2.2 hb⟩
theorem St.set {w0 W : World} {g : Nat} {pk : PktT} {V : Value} (h : St w0 g pk V W) (hg : w0.heap.size ≤ g) (i : Nat) (v : Value) (pk' : PktT) (e : (pk.arr V).setIfInBounds i v = pk'.arr V) : St w0 g pk' V (W.setCell ⟨g, i, none⟩ v) :=
  ⟨blk_put (cs' := pk'.arr V) h.1 i v e, h.2.1.move (fun k hk => Below.heap_setCell _ _ _ _ (by have := h.2.1.block k hk; show k ≠ g; omega)), below_set (j := i) (v := v) h.2.2 hg⟩
theorem PdusAre.cut {A A1 : Option Addr} {c1 : Nat} {xs x : List Int} {vs : List VarP} {ps : List PduT} (hc : Cut A xs A1 c1 x) (h : PdusAre A1 x vs ps) : PdusAre A xs vs ps :=
  ⟨h.1, fun j h1 h2 => ⟨(h.2 j h1 h2).1, (h.2 j h1 h2).2.1, (h.2 j h1 h2).2.2.1, (h.2 j h1 h2).2.2.2.1, fun W hW => (h.2 j h1 h2).2.2.2.2 W (hc.2 W hW)⟩⟩
/-- An end of bytes that begins with an element: the cut that gives it, what parseRawField wants. -/
theorem tail_open (xs ys c rest : List Int) (t : Int) (A : Option Addr) (cc : Nat) (hcc : xs.length ≤ cc) (hy : IsB ys) (hle : ys.length ≤ xs.length) (hd : xs.drop (xs.length - ys.length) = ys) (ho : sOpen ys = some (t, c, rest)) :
    ∃ A1 A2 c2, (∀ W : World, (Instr.slice 26 (.slice A xs.length cc) (some (.int .i64 ((xs.length : Int) - ys.length))) none none).run Tryd.prog W = .ok (.slice A1 ys.length (cc - (xs.length - ys.length))) W) ∧ Cut A xs A1 (cc - (xs.length - ys.length)) ys ∧
      Elem t c ys (ys.length - rest.length) A1 (cc - (xs.length - ys.length)) A2 c2 ∧ xs.drop (xs.length - rest.length) = rest ∧ rest.length + c.length + 2 ≤ ys.length ∧ IsB rest ∧ IsB c := by
  obtain ⟨-, A1, -, hcut, -, hc⟩ := open_cuts A cc xs hcc (xs.length - ys.length) (xs.length - ys.length) (Nat.le_refl _) (by omega) ((xs.length : Int) - ys.length) ((xs.length : Int) - ys.length) (by omega) (by omega)
  rw [hd] at hcut hc
  obtain ⟨A2, c2, hE⟩ := elem_open ho A1 (cc - (xs.length - ys.length)) (by omega) hy
  obtain ⟨e1, -, l1⟩ := sOpen_ends hy ho
  have hB := sOpen_isB hy ho
  refine ⟨A1, A2, c2, hcut, hc, hE, ?_, by omega, hB.2.1, hB.1⟩
  rw [show xs.length - rest.length = xs.length - ys.length + (ys.length - rest.length) by omega, ← List.drop_drop, hd, e1]
def GotResp (w0 : World) (g : Nat) (pk : PktT) (A : Option Addr) (xs : List Int) (vs : List VarP) (w' : World) (e : Ending) : Prop :=
  e = .returned .nilIface ∧ ∃ V' ps, w'.heap[g]? = some (pktO pk V') ∧ OwnP w' (g + 1) V' ps ∧ PdusAre A xs vs ps ∧ Below w0.heap.size w0 w'
set_option maxRecDepth 100000 in
set_option maxHeartbeats 8000000 in
theorem uresp_any (xs body ci b1 cs b2 cx b3 list : List Int) (kind : Int) (A : Option Addr) (cc : Nat) (hcc : xs.length ≤ cc) (hB : IsB xs) (ho : sOpen xs = some (kind, body, [])) (h5 : sOpen body = some (2, ci, b1)) (h6 : sOpen b1 = some (2, cs, b2)) (h7 : sOpen b2 = some (2, cx, b3)) (h8 : sOpen b3 = some (48, list, []))
    (l5 : 1 ≤ ci.length ∧ ci.length ≤ 8) (l6 : 1 ≤ cs.length ∧ cs.length ≤ 8) (l7 : 1 ≤ cx.length ∧ cx.length ≤ 8) (i0 : 0 ≤ sVal ci) (i1 : sVal ci ≤ 2147483647) (s0 : 0 ≤ sVal cs) (s1 : sVal cs ≤ 127) (x0 : 0 ≤ sVal cx) (x1 : sVal cx ≤ 127)
    (vs : List VarP) (hvs : sVars list.length list = some vs) (h67 : ∀ v ∈ vs, v.2.1 = 67 → v.2.2.2.1 ≤ 4294967295) (hx : xs.length ≤ 20000)
    (w0 w : World) (hr : Kd.C (Kd.int .u8) w0 A xs.length xs) (z : Addr) (hT : Tabs z w0) (gx g : Nat) (pk : PktT) (V : Value) (hk : pk.kind ≠ 165) (hgx : w0.heap[gx]? = some (.cells #[] 103 (0, 0))) (hgB : w0.heap.size ≤ g) (hS : St w0 g pk V w) :
    Calls Tryd.prog 88 #[.pointer (some ⟨gx, 0, none⟩), .slice A xs.length cc, .pointer (some ⟨g, 0, none⟩)] w fun e w' => GotResp w0 g ⟨pk.ver, pk.com, pk.kind, sVal ci, sVal cs, sVal cx, pk.nr, pk.mr⟩ A xs vs w' e := by
  obtain ⟨A0, c0, hE⟩ := elem_open ho A cc hcc hB
  rw [List.length_nil, Nat.sub_zero] at hE
  have l0 := (sOpen_ends hB ho).2.2
  have hBb := (sOpen_isB hB ho).1
  obtain ⟨A5, E5, e5, hc5, hC5, hE5, hd1, m5, hB1, hBi⟩ := tail_open xs body ci b1 2 A cc hcc hBb (by omega) (sOpen_all hB ho) h5
  obtain ⟨A6, E6, e6, hc6, hC6, hE6, hd2, m6, hB2, hBs⟩ := tail_open xs b1 cs b2 2 A cc hcc hB1 (by omega) hd1 h6
  obtain ⟨A7, E7, e7, hc7, hC7, hE7, hd3, m7, hB3, hBx⟩ := tail_open xs b2 cx b3 2 A cc hcc hB2 (by omega) hd2 h7
  obtain ⟨A8, E8, e8, hc8, hC8, hE8, -, m8, -, -⟩ := tail_open xs b3 list [] 48 A cc hcc hB3 (by omega) hd3 h8
  have HP5 := Lib.hid (fun msg W hW => parseRaw_int A5 (cc - (xs.length - body.length)) body ci (body.length - b1.length) E5 e5 msg hBi l5.1 l5.2 hE5 (by omega) W (hC5.2 W hW))
  have HP6 := Lib.hid (fun msg W hW => parseRaw_int A6 (cc - (xs.length - b1.length)) b1 cs (b1.length - b2.length) E6 e6 msg hBs l6.1 l6.2 hE6 (by omega) W (hC6.2 W hW))
  have HP7 := Lib.hid (fun msg W hW => parseRaw_int A7 (cc - (xs.length - b2.length)) b2 cx (b2.length - b3.length) E7 e7 msg hBx l7.1 l7.2 hE7 (by omega) W (hC7.2 W hW))
  have HP8 := Lib.hid (And.intro hC8 (fun (w : World) (pk : PktT) (h0 : Below w0.heap.size w0 w) (hg : w.heap[g]? = some (pktO pk V)) (hown : OwnP w (g + 1) V []) => uvbl_any b3 list A8 (cc - (xs.length - b3.length)) hC8.1 hB3 h8 vs hvs h67 (by omega) w0 w h0 (hC8.2 w0 hr) z hT gx g pk V hgx hgB hg hown))
  have HH := Lib.hid (And.intro hE (And.intro hr (And.intro hS (And.intro hgx hgB))))
  have n5 : (xs.length : Int) - body.length + (body.length - b1.length : Nat) = (xs.length : Int) - b1.length := by omega
  have n6 : (xs.length : Int) - b1.length + (b1.length - b2.length : Nat) = (xs.length : Int) - b2.length := by omega
  have n7 : (xs.length : Int) - b2.length + (b2.length - b3.length : Nat) = (xs.length : Int) - b3.length := by omega
  have hk5 : (pk.kind == 165) = false := beq_eq_false_iff_ne.2 hk
  have hgx1 := blk_below hgx hS.2.2
  have hpart := fun W => part_zero W gx
  have mixed : Tryd.prog.follows Departure.mixedOrders = true := by kernel_rfl
  have hta := fun v W => as_int v W
  have m0 : body.length ≤ xs.length := by omega
  have HC8 := Lib.hid hc8
  clear hE hr hS hgx hgB hc8 hE5 hE6 hE7 hE8 hC5 hC6 hC7 hC8 hd1 hd2 hd3 hT hvs h67 hk
  obtain ⟨L5, hL5⟩ : ∃ L : Nat, L = body.length - b1.length := ⟨_, rfl⟩
  obtain ⟨L6, hL6⟩ : ∃ L : Nat, L = b1.length - b2.length := ⟨_, rfl⟩
  obtain ⟨L7, hL7⟩ : ∃ L : Nat, L = b2.length - b3.length := ⟨_, rfl⟩
  have o5 : L5 ≤ 20000 ∧ L6 ≤ 20000 ∧ L7 ≤ 20000 := by omega
  rw [← hL5] at HP5 n5
  rw [← hL6] at HP6 n6
  rw [← hL7] at HP7 n7
  clear hL5 hL6 hL7
  go_enter Tryd.func88, Tryd.ntmps88
  go_wp2_with fail
  refine (HH.out.1.parse _ (Kd.C_below HH.out.2.1 HH.out.2.2.1.2.2)).mono ?_
  rintro e w2 ⟨rfl, rfl⟩
  go_wp2_with fail
  have bp := (Below.refl w.heap.size w).alloc (Nat.le_refl _) (.cells #[.iface 3 (.int .i64 xs.length)] 20)
  refine (printf_any _ _ _).mono ?_
  rintro e w3 ⟨rfl, hb3⟩
  have b3' := below_step bp hb3
  have H3 := Lib.hid (HH.out.2.2.1.step b3')
  have hgx3 := blk_below hgx1 b3'
  clear bp hb3 b3' hgx1
  go_wp2_with fail
  have hgd3 : w3.drew.heap[gx]? = some (.cells #[] 103 (0, 0)) := hgx3
  have hrd3 := Kd.C_below HH.out.2.1 (below_drew H3.out.2.2)
  have HR3 := Lib.hid hrd3
  clear hrd3 hgx3
  go_region_with_o (go_at_call 74; refine (HP5.out _ _ ?_).mono ?_; exact HR3.out; rintro e w4 ⟨rfl, hb4⟩; have hgx4 := blk_below hgd3 hb4)
  have H4 := Lib.hid ((H3.out.step (below_drew (Below.refl w3.heap.size w3))).step hb4)
  have a4 : w4.cell? ⟨g, 4, none⟩ = some (.int .u32 pk.id) := (blk_cell H4.out.1 4).trans rfl
  have fa4 := blk_frozen H4.out.1 4
  have H5 := Lib.hid (H4.out.set HH.out.2.2.2.2 4 (.int .u32 (sVal ci)) ⟨pk.ver, pk.com, pk.kind, sVal ci, pk.er, pk.ei, pk.nr, pk.mr⟩ rfl)
  have hgx5 := blk_far (p := ⟨g, 4, none⟩) hgx4 (blk_ne hgx4 H4.out.1 (by decide)) (.int .u32 (sVal ci))
  have wid : IntKind.u32.wrap (sVal ci) = sVal ci := by simp [IntKind.wrap, IntKind.bits, IntKind.signed]; omega
  clear hb4 hgd3 hgx4
  go_wp2_with fail
  generalize w4.setCell ⟨g, 4, none⟩ (.int .u32 (sVal ci)) = w5 at *
  have c5 : w5.cell? ⟨g, 4, none⟩ = some (.int .u32 (sVal ci)) := (blk_cell H5.out.1 4).trans rfl
  have qd5 : w5.drew.heap[gx]? = some (.cells #[] 103 (0, 0)) := hgx5
  clear a4 fa4
  go_region_held3 (fun w' => w'.cell? ⟨g, 4, none⟩ = some (.int .u32 (sVal ci)) ∧ w'.heap[gx]? = some (.cells #[] 103 (0, 0))) (first | with_reducible exact ⟨cell_dr c5, qd5⟩ | with_reducible exact ⟨cell_al (cell_dr c5) _, blk_alloc qd5 _⟩ | with_reducible exact ⟨cell_dr (cell_al c5 _), blk_drew (blk_alloc hgx5 _)⟩ | with_reducible exact ⟨cell_up' c5 B7, blk_below hgx5 B7⟩)
    ((go_at_call 69; (with_reducible refine (printf_any _ _ _).mono ?_); rintro e w6 ⟨rfl, hb6⟩; have B7 : Below w5.heap.size w5 w6 := below_step ((below_drew (Below.refl w5.heap.size w5)).alloc (Nat.le_refl _) _) hb6))
  have H6 := Lib.hid (H5.out.step B7)
  have hgx6 := blk_below hgx5 B7
  have k6 : w6.cell? ⟨g, 2, none⟩ = some (.int .u8 pk.kind) := (blk_cell H6.out.1 2).trans rfl
  clear B7 hb6 c5 qd5 hgx5
  go_wp2_with fail
  have hgd6 : w6.drew.heap[gx]? = some (.cells #[] 103 (0, 0)) := hgx6
  have HR6 := Lib.hid (Kd.C_below HH.out.2.1 (below_drew H6.out.2.2))
  clear hgx6 k6
  go_region_with_o (go_at_call 74; refine (HP6.out _ _ ?_).mono ?_; exact HR6.out; rintro e w7 ⟨rfl, hb7⟩; have hgx7 := blk_below hgd6 hb7)
  have H7 := Lib.hid ((H6.out.step (below_drew (Below.refl w6.heap.size w6))).step hb7)
  have a6 : w7.cell? ⟨g, 6, none⟩ = some (.int .u8 pk.er) := (blk_cell H7.out.1 6).trans rfl
  have fa6 := blk_frozen H7.out.1 6
  have H8 := Lib.hid (H7.out.set HH.out.2.2.2.2 6 (.int .u8 (sVal cs)) ⟨pk.ver, pk.com, pk.kind, sVal ci, sVal cs, pk.ei, pk.nr, pk.mr⟩ rfl)
  have hgx8 := blk_far (p := ⟨g, 6, none⟩) hgx7 (blk_ne hgx7 H7.out.1 (by decide)) (.int .u8 (sVal cs))
  have wcs : IntKind.u8.wrap (sVal cs) = sVal cs := by simp [IntKind.wrap, IntKind.bits, IntKind.signed]; omega
  clear hb7 hgd6 hgx7
  go_wp2_with fail
  generalize w7.setCell ⟨g, 6, none⟩ (.int .u8 (sVal cs)) = w8 at *
  clear a6 fa6
  have bp8 := (Below.refl w8.heap.size w8).alloc (Nat.le_refl _) (.cells #[.iface 5 (.int .u8 (sVal cs))] 20)
  refine (printf_any _ _ _).mono ?_
  rintro e w9 ⟨rfl, hb9⟩
  have b9 := below_step bp8 hb9
  have H9 := Lib.hid (H8.out.step b9)
  have hgx9 := blk_below hgx8 b9
  clear bp8 hb9 b9 hgx8
  go_wp2_with fail
  have hgd9 : w9.drew.heap[gx]? = some (.cells #[] 103 (0, 0)) := hgx9
  have HR9 := Lib.hid (Kd.C_below HH.out.2.1 (below_drew H9.out.2.2))
  clear hgx9
  go_region_with_o (go_at_call 74; refine (HP7.out _ _ ?_).mono ?_; exact HR9.out; rintro e w10 ⟨rfl, hb10⟩; have hgx10 := blk_below hgd9 hb10)
  have H10 := Lib.hid ((H9.out.step (below_drew (Below.refl w9.heap.size w9))).step hb10)
  have a7 : w10.cell? ⟨g, 7, none⟩ = some (.int .u8 pk.ei) := (blk_cell H10.out.1 7).trans rfl
  have fa7 := blk_frozen H10.out.1 7
  have H11 := Lib.hid (H10.out.set HH.out.2.2.2.2 7 (.int .u8 (sVal cx)) ⟨pk.ver, pk.com, pk.kind, sVal ci, sVal cs, sVal cx, pk.nr, pk.mr⟩ rfl)
  have hgx11 := blk_far (p := ⟨g, 7, none⟩) hgx10 (blk_ne hgx10 H10.out.1 (by decide)) (.int .u8 (sVal cx))
  have wcx : IntKind.u8.wrap (sVal cx) = sVal cx := by simp [IntKind.wrap, IntKind.bits, IntKind.signed]; omega
  clear hb10 hgd9 hgx10
  go_wp2_with fail
  generalize w10.setCell ⟨g, 7, none⟩ (.int .u8 (sVal cx)) = w11 at *
  clear a7 fa7
  have bp11 := (Below.refl w11.heap.size w11).alloc (Nat.le_refl _) (.cells #[.iface 5 (.int .u8 (sVal cx))] 20)
  refine (printf_any _ _ _).mono ?_
  rintro e w12 ⟨rfl, hb12⟩
  have b12 := below_step bp11 hb12
  have H12 := Lib.hid (H11.out.step b12)
  clear bp11 hb12 b12 hgx11
  have hc8 := HC8.out
  go_wp2_with fail
  refine (HP8.out.2 w12 _ H12.out.2.2 H12.out.1 H12.out.2.1).mono ?_
  rintro e w13 ⟨rfl, V', ps, r1, r2, r3, r4⟩
  have HF := Lib.hid (And.intro r1 (And.intro r2 (And.intro (PdusAre.cut HP8.out.1 r3) r4)))
  clear r1 r2 r3 r4
  go_wp2
  go_ret
  exact ⟨rfl, V', ps, HF.out.1, HF.out.2.1, HF.out.2.2.1, HF.out.2.2.2⟩
end Go.Proofs.YtangjgclpipjdaaDoor
set_option linter.unusedVariables false
namespace Go.Proofs.YtangjgclpipjdaaDoor
open Go.RowKit Go.Proofs.YtangjgclpipjdaaDoorW.PrintWords Go.Proofs.YtangjgclpipjdaaDoorW.PrintLast Go.Proofs.YtangjgclpipjdaaDoorW.PrintMore
theorem and31 (x : Int) (h0 : 0 ≤ x) (h1 : x < 2147483648) : bits .and .i64 x 2147483647 = x := by
  have := bits_mask .i64 62 (by decide) (fun n a b => by simp [IntKind.wrap, IntKind.bits, IntKind.signed]; omega) 31 (by decide) x h0 (by omega)
  rw [show ((2 : Int) ^ 31 - 1) = 2147483647 by decide] at this
  rw [this]
  omega
set_option maxRecDepth 100000 in
set_option maxHeartbeats 8000000 in
theorem uresp_bulk (xs body ci b1 cs b2 cx b3 list : List Int) (kind : Int) (A : Option Addr) (cc : Nat) (hcc : xs.length ≤ cc) (hB : IsB xs) (ho : sOpen xs = some (kind, body, [])) (h5 : sOpen body = some (2, ci, b1)) (h6 : sOpen b1 = some (2, cs, b2)) (h7 : sOpen b2 = some (2, cx, b3)) (h8 : sOpen b3 = some (48, list, []))
    (l5 : 1 ≤ ci.length ∧ ci.length ≤ 8) (l6 : 1 ≤ cs.length ∧ cs.length ≤ 8) (l7 : 1 ≤ cx.length ∧ cx.length ≤ 8) (i0 : 0 ≤ sVal ci) (i1 : sVal ci ≤ 2147483647) (s0 : 0 ≤ sVal cs) (s1 : sVal cs ≤ 127) (x0 : 0 ≤ sVal cx) (x1 : sVal cx ≤ 127)
    (vs : List VarP) (hvs : sVars list.length list = some vs) (h67 : ∀ v ∈ vs, v.2.1 = 67 → v.2.2.2.1 ≤ 4294967295) (hx : xs.length ≤ 20000)
    (w0 w : World) (hr : Kd.C (Kd.int .u8) w0 A xs.length xs) (z : Addr) (hT : Tabs z w0) (gx g : Nat) (pk : PktT) (V : Value) (hk : pk.kind = 165) (hgx : w0.heap[gx]? = some (.cells #[] 103 (0, 0))) (hgB : w0.heap.size ≤ g) (hS : St w0 g pk V w) :
    Calls Tryd.prog 88 #[.pointer (some ⟨gx, 0, none⟩), .slice A xs.length cc, .pointer (some ⟨g, 0, none⟩)] w fun e w' => GotResp w0 g ⟨pk.ver, pk.com, pk.kind, sVal ci, pk.er, pk.ei, sVal cs, sVal cx⟩ A xs vs w' e := by
  obtain ⟨A0, c0, hE⟩ := elem_open ho A cc hcc hB
  rw [List.length_nil, Nat.sub_zero] at hE
  have l0 := (sOpen_ends hB ho).2.2
  have hBb := (sOpen_isB hB ho).1
  obtain ⟨A5, E5, e5, hc5, hC5, hE5, hd1, m5, hB1, hBi⟩ := tail_open xs body ci b1 2 A cc hcc hBb (by omega) (sOpen_all hB ho) h5
  obtain ⟨A6, E6, e6, hc6, hC6, hE6, hd2, m6, hB2, hBs⟩ := tail_open xs b1 cs b2 2 A cc hcc hB1 (by omega) hd1 h6
  obtain ⟨A7, E7, e7, hc7, hC7, hE7, hd3, m7, hB3, hBx⟩ := tail_open xs b2 cx b3 2 A cc hcc hB2 (by omega) hd2 h7
  obtain ⟨A8, E8, e8, hc8, hC8, hE8, -, m8, -, -⟩ := tail_open xs b3 list [] 48 A cc hcc hB3 (by omega) hd3 h8
  have HP5 := Lib.hid (fun msg W hW => parseRaw_int A5 (cc - (xs.length - body.length)) body ci (body.length - b1.length) E5 e5 msg hBi l5.1 l5.2 hE5 (by omega) W (hC5.2 W hW))
  have HP6 := Lib.hid (fun msg W hW => parseRaw_int A6 (cc - (xs.length - b1.length)) b1 cs (b1.length - b2.length) E6 e6 msg hBs l6.1 l6.2 hE6 (by omega) W (hC6.2 W hW))
  have HP7 := Lib.hid (fun msg W hW => parseRaw_int A7 (cc - (xs.length - b2.length)) b2 cx (b2.length - b3.length) E7 e7 msg hBx l7.1 l7.2 hE7 (by omega) W (hC7.2 W hW))
  have HP8 := Lib.hid (And.intro hC8 (fun (w : World) (pk : PktT) (h0 : Below w0.heap.size w0 w) (hg : w.heap[g]? = some (pktO pk V)) (hown : OwnP w (g + 1) V []) => uvbl_any b3 list A8 (cc - (xs.length - b3.length)) hC8.1 hB3 h8 vs hvs h67 (by omega) w0 w h0 (hC8.2 w0 hr) z hT gx g pk V hgx hgB hg hown))
  have HH := Lib.hid (And.intro hE (And.intro hr (And.intro hS (And.intro hgx hgB))))
  have n5 : (xs.length : Int) - body.length + (body.length - b1.length : Nat) = (xs.length : Int) - b1.length := by omega
  have n6 : (xs.length : Int) - b1.length + (b1.length - b2.length : Nat) = (xs.length : Int) - b2.length := by omega
  have n7 : (xs.length : Int) - b2.length + (b2.length - b3.length : Nat) = (xs.length : Int) - b3.length := by omega
  have hk5 : (pk.kind == 165) = true := beq_iff_eq.2 hk
  have hgx1 := blk_below hgx hS.2.2
  have hpart := fun W => part_zero W gx
  have mixed : Tryd.prog.follows Departure.mixedOrders = true := by kernel_rfl
  have hta := fun v W => as_int v W
  have m0 : body.length ≤ xs.length := by omega
  have HC8 := Lib.hid hc8
  clear hE hr hS hgx hgB hc8 hE5 hE6 hE7 hE8 hC5 hC6 hC7 hC8 hd1 hd2 hd3 hT hvs h67 hk
  obtain ⟨L5, hL5⟩ : ∃ L : Nat, L = body.length - b1.length := ⟨_, rfl⟩
  obtain ⟨L6, hL6⟩ : ∃ L : Nat, L = b1.length - b2.length := ⟨_, rfl⟩
  obtain ⟨L7, hL7⟩ : ∃ L : Nat, L = b2.length - b3.length := ⟨_, rfl⟩
  have o5 : L5 ≤ 20000 ∧ L6 ≤ 20000 ∧ L7 ≤ 20000 := by omega
  rw [← hL5] at HP5 n5
  rw [← hL6] at HP6 n6
  rw [← hL7] at HP7 n7
  clear hL5 hL6 hL7
  go_enter Tryd.func88, Tryd.ntmps88
  go_wp2_with fail
  refine (HH.out.1.parse _ (Kd.C_below HH.out.2.1 HH.out.2.2.1.2.2)).mono ?_
  rintro e w2 ⟨rfl, rfl⟩
  go_wp2_with fail
  have bp := (Below.refl w.heap.size w).alloc (Nat.le_refl _) (.cells #[.iface 3 (.int .i64 xs.length)] 20)
  refine (printf_any _ _ _).mono ?_
  rintro e w3 ⟨rfl, hb3⟩
  have b3' := below_step bp hb3
  have H3 := Lib.hid (HH.out.2.2.1.step b3')
  have hgx3 := blk_below hgx1 b3'
  clear bp hb3 b3' hgx1
  go_wp2_with fail
  have hgd3 : w3.drew.heap[gx]? = some (.cells #[] 103 (0, 0)) := hgx3
  have hrd3 := Kd.C_below HH.out.2.1 (below_drew H3.out.2.2)
  have HR3 := Lib.hid hrd3
  clear hrd3 hgx3
  go_region_with_o (go_at_call 74; refine (HP5.out _ _ ?_).mono ?_; exact HR3.out; rintro e w4 ⟨rfl, hb4⟩; have hgx4 := blk_below hgd3 hb4)
  have H4 := Lib.hid ((H3.out.step (below_drew (Below.refl w3.heap.size w3))).step hb4)
  have a4 : w4.cell? ⟨g, 4, none⟩ = some (.int .u32 pk.id) := (blk_cell H4.out.1 4).trans rfl
  have fa4 := blk_frozen H4.out.1 4
  have H5 := Lib.hid (H4.out.set HH.out.2.2.2.2 4 (.int .u32 (sVal ci)) ⟨pk.ver, pk.com, pk.kind, sVal ci, pk.er, pk.ei, pk.nr, pk.mr⟩ rfl)
  have hgx5 := blk_far (p := ⟨g, 4, none⟩) hgx4 (blk_ne hgx4 H4.out.1 (by decide)) (.int .u32 (sVal ci))
  have wid : IntKind.u32.wrap (sVal ci) = sVal ci := by simp [IntKind.wrap, IntKind.bits, IntKind.signed]; omega
  clear hb4 hgd3 hgx4
  go_wp2_with fail
  generalize w4.setCell ⟨g, 4, none⟩ (.int .u32 (sVal ci)) = w5 at *
  have c5 : w5.cell? ⟨g, 4, none⟩ = some (.int .u32 (sVal ci)) := (blk_cell H5.out.1 4).trans rfl
  have qd5 : w5.drew.heap[gx]? = some (.cells #[] 103 (0, 0)) := hgx5
  clear a4 fa4
  go_region_held3 (fun w' => w'.cell? ⟨g, 4, none⟩ = some (.int .u32 (sVal ci)) ∧ w'.heap[gx]? = some (.cells #[] 103 (0, 0))) (first | with_reducible exact ⟨cell_dr c5, qd5⟩ | with_reducible exact ⟨cell_al (cell_dr c5) _, blk_alloc qd5 _⟩ | with_reducible exact ⟨cell_dr (cell_al c5 _), blk_drew (blk_alloc hgx5 _)⟩ | with_reducible exact ⟨cell_up' c5 B7, blk_below hgx5 B7⟩)
    ((go_at_call 69; (with_reducible refine (printf_any _ _ _).mono ?_); rintro e w6 ⟨rfl, hb6⟩; have B7 : Below w5.heap.size w5 w6 := below_step ((below_drew (Below.refl w5.heap.size w5)).alloc (Nat.le_refl _) _) hb6))
  have H6 := Lib.hid (H5.out.step B7)
  have hgx6 := blk_below hgx5 B7
  have k6 : w6.cell? ⟨g, 2, none⟩ = some (.int .u8 pk.kind) := (blk_cell H6.out.1 2).trans rfl
  clear B7 hb6 c5 qd5 hgx5
  go_wp2_with fail
  have hgd6 : w6.drew.heap[gx]? = some (.cells #[] 103 (0, 0)) := hgx6
  have HR6 := Lib.hid (Kd.C_below HH.out.2.1 (below_drew H6.out.2.2))
  clear hgx6 k6
  go_region_with_o (go_at_call 74; refine (HP6.out _ _ ?_).mono ?_; exact HR6.out; rintro e w7 ⟨rfl, hb7⟩; have hgx7 := blk_below hgd6 hb7)
  have H7 := Lib.hid ((H6.out.step (below_drew (Below.refl w6.heap.size w6))).step hb7)
  have a6 : w7.cell? ⟨g, 8, none⟩ = some (.int .u8 pk.nr) := (blk_cell H7.out.1 8).trans rfl
  have fa6 := blk_frozen H7.out.1 8
  have H8 := Lib.hid (H7.out.set HH.out.2.2.2.2 8 (.int .u8 (sVal cs)) ⟨pk.ver, pk.com, pk.kind, sVal ci, pk.er, pk.ei, sVal cs, pk.mr⟩ rfl)
  have hgx8 := blk_far (p := ⟨g, 8, none⟩) hgx7 (blk_ne hgx7 H7.out.1 (by decide)) (.int .u8 (sVal cs))
  have wcs : IntKind.u8.wrap (sVal cs) = sVal cs := by simp [IntKind.wrap, IntKind.bits, IntKind.signed]; omega
  clear hb7 hgd6 hgx7
  go_wp2_with fail
  generalize w7.setCell ⟨g, 8, none⟩ (.int .u8 (sVal cs)) = w8 at *
  clear a6 fa6
  have hgd8 : w8.drew.heap[gx]? = some (.cells #[] 103 (0, 0)) := hgx8
  have HR8 := Lib.hid (Kd.C_below HH.out.2.1 (below_drew H8.out.2.2))
  clear hgx8
  go_region_with_o (go_at_call 74; refine (HP7.out _ _ ?_).mono ?_; exact HR8.out; rintro e w10 ⟨rfl, hb10⟩; have hgx10 := blk_below hgd8 hb10)
  have H10 := Lib.hid ((H8.out.step (below_drew (Below.refl w8.heap.size w8))).step hb10)
  have a7 : w10.cell? ⟨g, 9, none⟩ = some (.int .u32 pk.mr) := (blk_cell H10.out.1 9).trans rfl
  have fa7 := blk_frozen H10.out.1 9
  have H11 := Lib.hid (H10.out.set HH.out.2.2.2.2 9 (.int .u32 (sVal cx)) ⟨pk.ver, pk.com, pk.kind, sVal ci, pk.er, pk.ei, sVal cs, sVal cx⟩ rfl)
  have hgx11 := blk_far (p := ⟨g, 9, none⟩) hgx10 (blk_ne hgx10 H10.out.1 (by decide)) (.int .u32 (sVal cx))
  have wand : bits .and .i64 (sVal cx) 2147483647 = sVal cx := and31 _ x0 (by omega)
  have wcx : IntKind.u32.wrap (sVal cx) = sVal cx := by simp [IntKind.wrap, IntKind.bits, IntKind.signed]; omega
  clear hb10 hgd8 hgx10
  have hc8 := HC8.out
  go_wp2_with fail
  generalize w10.setCell ⟨g, 9, none⟩ (.int .u32 (sVal cx)) = w11 at *
  clear a7 fa7
  clear hgx11
  refine (HP8.out.2 w11 _ H11.out.2.2 H11.out.1 H11.out.2.1).mono ?_
  rintro e w13 ⟨rfl, V', ps, r1, r2, r3, r4⟩
  have HF := Lib.hid (And.intro r1 (And.intro r2 (And.intro (PdusAre.cut HP8.out.1 r3) r4)))
  clear r1 r2 r3 r4
  go_wp2
  go_ret
  exact ⟨rfl, V', ps, HF.out.1, HF.out.2.1, HF.out.2.2.1, HF.out.2.2.2⟩
end Go.Proofs.YtangjgclpipjdaaDoor
