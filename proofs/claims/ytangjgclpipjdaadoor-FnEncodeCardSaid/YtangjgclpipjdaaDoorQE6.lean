/- The lemmas and walks that FnEncode rests on, part 6: WValFnValue OfVar OfVar2 ToldFnValue Msg TolB Raw SMsg Msg2 Told3. -/
import Derived.Test.YtangjgclpipjdaaDoorQE2
import Derived.Test.YtangjgclpipjdaaDoorQE4
import Derived.Test.YtangjgclpipjdaaDoorQE5
set_option linter.unusedVariables false
namespace Go.Proofs.YtangjgclpipjdaaDoor
open Go.RowKit Go.Proofs.YtangjgclpipjdaaDoorW.PrintWords Go.Proofs.YtangjgclpipjdaaDoorW.PrintLast Go.Proofs.YtangjgclpipjdaaDoorW.PrintMore
/-- A variable that is asked: its name's arcs, its content, what is told. -/
structure Asked (nm tx : ByteArray) (ty i u : Int) (arcs c : List Int) (i' u' : Int) (tx' : List Int) : Prop where
  name : sArcs (bs nm) = (arcs, true)
  cont : Cont ty i u (bs tx) c i' u' tx'
  nsize : nm.size ≤ 1000
  tsize : tx.size ≤ 500
def sVar (arcs : List Int) (ty : Int) (c : List Int) (wide : Nat) : List Int := sSealed 48 (sSealed 6 (sName arcs) wide ++ sSealed ty c wide) wide
def GotVal (nm tx : ByteArray) (ty i u : Int) (wide : Nat) (w w' : World) (e : Ending) : Prop :=
  Below w.heap.size w w' ∧ ((∃ v1 v2, e = .returned (.tuple #[v1, v2, varV ⟨#[]⟩ 0 0 0 ⟨#[]⟩, .bool false])) ∨
    ∃ arcs c i' u' tx' v1 v2, Asked nm tx ty i u arcs c i' u' tx' ∧ e = .returned (.tuple #[v1, v2, varV (strOfNums (sDot arcs)) ty i' u' (strOfNums tx'), .bool true]) ∧ NewB w w' v1 (sVar arcs ty c wide) ∧ NewB w w' v2 (sSealed ty c wide))
/-- The two variables' blocks that the call begins with, in whatever world: the parameter, the zero result. -/
def VBase (w : World) (nm : ByteArray) (ty i u : Int) (tx : ByteArray) (W : World) : Prop :=
  W.heap[w.heap.size]? = some (varO nm ty i u tx) ∧ W.heap[w.heap.size + 1]? = some (varO ⟨#[]⟩ 0 0 0 ⟨#[]⟩) ∧ Below w.heap.size w W
theorem VBase.start (w : World) (nm : ByteArray) (ty i u : Int) (tx : ByteArray) : VBase w nm ty i u tx ((w.alloc (varO nm ty i u tx)).alloc (varO ⟨#[]⟩ 0 0 0 ⟨#[]⟩)) := by
  refine ⟨blk_alloc (blk_new w (varO nm ty i u tx)) _, ?_, ((Below.refl w.heap.size w).alloc (Nat.le_refl _) _).alloc (by simp) _⟩
  have := blk_new (w.alloc (varO nm ty i u tx)) (varO ⟨#[]⟩ 0 0 0 ⟨#[]⟩)
  rw [show (w.alloc (varO nm ty i u tx)).heap.size = w.heap.size + 1 by simp] at this
  exact this
theorem VBase.step {w W W' : World} {nm tx : ByteArray} {ty i u : Int} (h : VBase w nm ty i u tx W) (hb : Below W.heap.size W W') : VBase w nm ty i u tx W' := ⟨blk_below h.1 hb, blk_below h.2.1 hb, below_step h.2.2 hb⟩
theorem VBase.size {w W : World} {nm tx : ByteArray} {ty i u : Int} (h : VBase w nm ty i u tx W) : w.heap.size + 2 ≤ W.heap.size := blk_lt h.2.1
theorem VBase.grown {w W W' : World} {nm tx : ByteArray} {ty i u : Int} (h : VBase w nm ty i u tx W) {row : Option Nat} (hg : W.grownBy W' row) (hr : ∀ k, row = some k → w.heap.size + 2 ≤ k) : VBase w nm ty i u tx W' := by
  refine ⟨blk_grown h.1 hg ?_, blk_grown h.2.1 hg ?_, h.2.2.grown hg (by have := h.size; omega) (fun k hk => by have := hr k hk; omega)⟩
  · intro e; have := hr _ e.symm; omega
  · intro e; have := hr _ e.symm; omega
theorem VBase.five {w W : World} {nm tx : ByteArray} {ty i u : Int} (h : VBase w nm ty i u tx W) : W.cell? ⟨w.heap.size, 0, none⟩ = some (.string nm) ∧ W.cell? ⟨w.heap.size, 1, none⟩ = some (.int .i64 ty) ∧ W.cell? ⟨w.heap.size, 2, none⟩ = some (.int .i64 i) ∧ W.cell? ⟨w.heap.size, 3, none⟩ = some (.int .u64 u) ∧ W.cell? ⟨w.heap.size, 4, none⟩ = some (.string tx) := by
  obtain ⟨p0, p1, p2, p3, p4, -⟩ := var_cells h.1
  exact ⟨p0, p1, p2, p3, p4⟩
theorem VBase.fiveSet {w W : World} {nm tx : ByteArray} {ty i u : Int} (h : VBase w nm ty i u tx W) (nm' : ByteArray) (ty' i' u' : Int) (tx' : ByteArray) : (setVar W (w.heap.size + 1) nm' ty' i' u' tx').cell? ⟨w.heap.size, 0, none⟩ = some (.string nm) ∧ (setVar W (w.heap.size + 1) nm' ty' i' u' tx').cell? ⟨w.heap.size, 1, none⟩ = some (.int .i64 ty) ∧ (setVar W (w.heap.size + 1) nm' ty' i' u' tx').cell? ⟨w.heap.size, 2, none⟩ = some (.int .i64 i) ∧ (setVar W (w.heap.size + 1) nm' ty' i' u' tx').cell? ⟨w.heap.size, 3, none⟩ = some (.int .u64 u) ∧ (setVar W (w.heap.size + 1) nm' ty' i' u' tx').cell? ⟨w.heap.size, 4, none⟩ = some (.string tx) := by
  obtain ⟨p0, p1, p2, p3, p4⟩ := h.five
  have hne : w.heap.size ≠ w.heap.size + 1 := by omega
  exact ⟨setVar_far p0 hne _ _ _ _ _, setVar_far p1 hne _ _ _ _ _, setVar_far p2 hne _ _ _ _ _, setVar_far p3 hne _ _ _ _ _, setVar_far p4 hne _ _ _ _ _⟩
theorem ReadB.agree {W W' : World} {ok : Nat → Prop} {v : Value} {xs : List Int} (h : ReadB W ok v xs) (hs : W.heap.size ≤ W'.heap.size) (hW : ∀ k, ok k → k < W.heap.size → W'.heap[k]? = W.heap[k]?) : ReadB W' ok v xs := by
  obtain ⟨A, c, rfl, hl, hC⟩ := h
  exact ⟨A, c, rfl, hl, fun W'' hW'' => hC W'' (fun k hk hlt => (hW'' k hk (by omega)).trans (hW k hk hlt))⟩
theorem setVar_size (W : World) (g : Nat) (nm : ByteArray) (ty i u : Int) (tx : ByteArray) : (setVar W g nm ty i u tx).heap.size = W.heap.size := by simp
theorem ReadB.setVar {W : World} {ok : Nat → Prop} {v : Value} {xs : List Int} (h : ReadB W ok v xs) (g : Nat) (hg : ¬ ok g) (nm : ByteArray) (ty i u : Int) (tx : ByteArray) : ReadB (setVar W g nm ty i u tx) ok v xs :=
  h.agree (Nat.le_of_eq (setVar_size W g nm ty i u tx).symm) (fun k hk hlt => by
    obtain ⟨o, ho⟩ : ∃ o, W.heap[k]? = some o := ⟨_, Array.getElem?_eq_getElem hlt⟩
    rw [setVar_heap ho (fun e => by subst e; exact hg hk), ho])
theorem OwnB.read {W : World} {B : Nat} {v : Value} {xs : List Int} (h : OwnB W B v xs) : ReadB W (fun k => B ≤ k ∧ k < W.heap.size) v xs := Kd.R_V (base' := 0) (Kd.R_mono (Kd.R_bound h) (fun _ hk => ⟨hk.2.1, hk.2.2.1⟩))
theorem OwnB.block {w : World} {B : Nat} {v : Value} {xs : List Int} (h : OwnB w B v xs) (k : Nat) (hk : v.ownBlock = some k) : B ≤ k := ((Kd.R_bound h).1 k hk).2.1
/-- 'append(s, x...)' of bytes, s a row of the call's own: as a step of a region that draws its order. -/
theorem app_bytes_step {P : Program} {W : World} {ops : Array Oper} {o : Oper} {a : Act} {Kc : Act → World → Prop} {Q : Exit → Act → World → Prop} (hw : Region.wanted o (yielded ops a.tmps) = true) (s x : Operand) (t : TypeId)
    (ho : o.op = .call { callee := .builtin .append, args := #[s, x], argTypes := #[t, t] }) (ht : P.underlying t = some (.slice 5)) (hinfo : (P.info? 5).map (fun i => (i.zero, i.size, i.bytes)) = some (some (.int .u8 0), 1, 1))
    (B : Nat) (v : Value) (xs ys : List Int) (A : Option Addr) (m c : Nat) (hs : a.eval s = v) (hx : a.eval x = .slice A m c) (HO : OwnB W B v xs) (HR : Kd.C (Kd.int .u8) W A m ys) (hB : B ≤ W.heap.size) (hl : xs.length + m ≤ 140737488355328)
    (h : ∀ v1 w1, OwnB w1 B v1 (xs ++ ys) → W.grownBy w1 v.ownBlock → (v1.ownBlock = v.ownBlock ∨ ∃ b, v1.ownBlock = some b ∧ W.heap.size ≤ b) → Kc (a.put o.dst v1) w1) :
    if Region.wanted o (yielded ops a.tmps) = true then Oper.wp P o a W Kc Q else Kc (a.put o.dst undef) W := by
  refine Kd.R_append_rows_step (Kd.int .u8) (w0 := W) B hw s x t 5 (.int .u8 0) 1 ho ht hinfo rfl (by decide) (by omega) v xs ys A m c (fun _ => True) (fun _ => False) hs hx HO HR ?_ (fun _ hk => hk.elim) (fun _ _ => trivial) (Below.refl _ _) hB (by omega) ?_
  · intro x cs h; exact h
  · intro v1 w1 h1 _ hg hat
    exact h v1 w1 h1 hg hat
theorem results_ttct {P : Program} {fn : Func} {a b p c : Tmp} {ty : TypeId} (h : fn.results = #[.tmp a, .tmp b, .cell p ty, .tmp c]) (tmps : Array Value) (w : World) (g : Nat) (t : TypeId) (cs : Array Value) (fr : Nat × Nat) (d : TypeDesc)
    (hp : tmps.getD p undef = .pointer (some ⟨g, 0, none⟩)) (hg : w.heap[g]? = some (.cells cs t fr))
    (hu : P.underlying ty = some d) (hd : (match d with | .struct _ | .array _ _ => true | _ => false) = true) (hi : (P.info? ty).map (·.size) = some cs.size) :
    (results fn tmps).run P w = .ok (.tuple #[tmps.getD a undef, tmps.getD b undef, .agg cs, tmps.getD c undef]) w := by
  have hp' : tmps[p]?.getD undef = .pointer (some ⟨g, 0, none⟩) := by simpa using hp
  simp [results, h, hp', asAddr, run_loadVar_row w g t ty cs fr d hg hu hd hi]
theorem val_ret {fn : Func} {x y p z : Tmp} (h : fn.results = #[.tmp x, .tmp y, .cell p 24, .tmp z]) {R : Ending → World → Prop} {a : Act} {W : World} {g : Nat} {nm tx nm' tx' : ByteArray} {ty i u ty' i' u' : Int} (hp : a.tmps.getD p undef = .pointer (some ⟨g, 0, none⟩)) (hd : a.defers = [])
    (hr : W.heap[g]? = some (varO nm' ty' i' u' tx')) (hR : R (.returned (.tuple #[a.tmps.getD x undef, a.tmps.getD y undef, varV nm ty i u tx, a.tmps.getD z undef])) (setVar W g nm ty i u tx)) :
    bodyPost Tryd.prog fn R .ret a (setVar W g nm ty i u tx) :=
  bodyPost_ret (results_ttct h _ _ g 24 #[.string nm, .int .i64 ty, .int .i64 i, .int .u64 u, .string tx] (0, 0) _ hp (setVar_new hr _ _ _ _ _) Tryd.underlying24 rfl infoVar) hd hR
set_option maxRecDepth 100000 in
set_option maxHeartbeats 4000000 in
theorem specValue_any (nm tx : ByteArray) (ty i u : Int) (i0 : -9223372036854775808 ≤ i) (i1 : i ≤ 9223372036854775807) (u0 : 0 ≤ u) (u1 : u ≤ 18446744073709551615) (hn : nm.size ≤ 2147483647) (hz : tx.size ≤ 2147483647) (wide : Nat) (hw : wide ≤ 2) (w : World) :
    Calls Tryd.prog 10 #[varV nm ty i u tx, .int .i64 wide] w fun e w' => GotVal nm tx ty i u wide w w' e := by
  go_enter Tryd.func10, Tryd.ntmps10
  go_wp2_with fail
  refine (specArcs_any nm hn _).mono ?_
  rintro e w1 ⟨v, rfl, ho, hb⟩
  obtain ⟨A, cc, rfl, hcc, hC⟩ := Kd.R_reads ho
  have B1 := (VBase.start w nm ty i u tx).step hb
  have HB1 := Lib.hid (And.intro B1 hC)
  obtain ⟨p0, p1, p2, p3, p4, -, -, -, -, -⟩ := var_cells B1.1
  clear ho hb hC B1
  go_wp2_with fail
  refine (specContent_any nm tx ty i u i0 i1 u0 u1 hz _).mono ?_
  rintro e w2 ⟨v2, rfl, ho2, hb2⟩
  obtain ⟨A2, cc2, rfl, hcc2, hC2⟩ := ho2.reads
  have B2 := HB1.out.1.step hb2
  have HC := Lib.hid (And.intro B2 (And.intro (Kd.C_below HB1.out.2 hb2) (And.intro hC2 hb2)))
  clear p0 p1 p2 p3 p4 HB1 ho2 hb2 hC2
  obtain ⟨p0, p1, p2, p3, p4, -, -, -, -, -⟩ := var_cells B2.1
  obtain ⟨r0, r1, r2, r3, r4, rf0, rf1, rf2, rf3, rf4⟩ := var_cells B2.2.1
  clear B2
  have hno : ∀ v1 v2 W, Below w.heap.size w W → GotVal nm tx ty i u wide w W (.returned (.tuple #[v1, v2, varV ⟨#[]⟩ 0 0 0 ⟨#[]⟩, .bool false])) := fun v1 v2 W h => ⟨h, .inl ⟨v1, v2, rfl⟩⟩
  have HN := Lib.hid hno
  clear hno
  cases h1 : (sArcs (bs nm)).2 with
  | false =>
    go_wp2
    exact val_ret rfl rfl rfl HC.out.1.2.1 (HN.out _ _ _ (setVar_below HC.out.1.2.2 (by omega) _ _ _ _ _))
  | true =>
  cases h2 : (sCont ty i u (bs tx)).2 with
  | false =>
    go_wp2
    exact val_ret rfl rfl rfl HC.out.1.2.1 (HN.out _ _ _ (setVar_below HC.out.1.2.2 (by omega) _ _ _ _ _))
  | true =>
  by_cases h500 : (500 : Int) < tx.size
  · go_wp2
    exact val_ret rfl rfl rfl HC.out.1.2.1 (HN.out _ _ _ (setVar_below HC.out.1.2.2 (by omega) _ _ _ _ _))
  by_cases h1000 : (1000 : Int) < nm.size
  · go_wp2
    exact val_ret rfl rfl rfl HC.out.1.2.1 (HN.out _ _ _ (setVar_below HC.out.1.2.2 (by omega) _ _ _ _ _))
  have hA : sArcs (bs nm) = ((sArcs (bs nm)).1, true) := by rw [← h1]
  obtain ⟨i', u', tx', hc⟩ := sCont_ok ty i u (bs tx) (sCont ty i u (bs tx)).1 (by rw [← h2])
  have hask : Asked nm tx ty i u (sArcs (bs nm)).1 (sCont ty i u (bs tx)).1 i' u' tx' := ⟨hA, hc, by omega, by omega⟩
  generalize (sArcs (bs nm)).1 = arcs at *
  generalize (sCont ty i u (bs tx)).1 = c at *
  have hbd := sArcs_bounds _ _ hA
  have hao := (sArcs_text _ _ hA).1
  have hl2 := hao.1
  have hl60 := hao.2.1
  have hcl : c.length ≤ 500 := hc.len
  have HA := Lib.hid (And.intro hask hbd)
  clear hA hc hask hbd hao h1 h2
  go_wp2_with fail
  refine (specSealed_any ty A2 cc2 c wide (by omega) hcc2 (by omega) w2 HC.out.2.2.1).mono ?_
  rintro e w3 ⟨v3, rfl, ho3, hb3⟩
  have B3 := HC.out.1.step hb3
  obtain ⟨p0, p1, p2, p3, p4, -, -, -, -, -⟩ := var_cells B3.1
  obtain ⟨r0, r1, r2, r3, r4, rf0, rf1, rf2, rf3, rf4⟩ := var_cells B3.2.1
  obtain ⟨A3, cc3, rfl, hcc3, hC3⟩ := Kd.R_reads ho3
  have H3 := Lib.hid (And.intro B3 (And.intro ho3 (And.intro (Kd.C_below HC.out.2.1 hb3) hC3)))
  clear ho3 hb3 B3 hC3
  go_wp2_with fail
  have hs3 := H3.out.1.size
  have hv3 : ReadB w3 (fun k => w.heap.size + 2 ≤ k ∧ k < w3.heap.size) (.slice A3 (sSealed ty c wide).length cc3) (sSealed ty c wide) := H3.out.2.1.read.mono (fun k hk => ⟨by have := HC.out.1.size; omega, hk.2⟩)
  have HV3 := Lib.hid hv3
  have n60 := sName_len arcs
  have hsl := sLen_len c.length wide
  have hnl : (sName arcs).length ≤ 300 := by omega
  have hsl2 : (sSealed ty c wide).length ≤ 600 := by simp [sSealed]; omega
  have hnl2 : (sSealed 6 (sName arcs) wide).length ≤ 400 := by have := sLen_len (sName arcs).length wide; simp [sSealed]; omega
  clear hv3 hsl n60
  have BD : VBase w nm ty i u tx w3.drew := H3.out.1.step (below_drew (Below.refl _ _))
  go_region_held3 (fun w' => w'.cell? ⟨w.heap.size, 0, none⟩ = some (.string nm) ∧ w'.cell? ⟨w.heap.size, 1, none⟩ = some (.int .i64 ty) ∧ w'.cell? ⟨w.heap.size, 2, none⟩ = some (.int .i64 i) ∧ w'.cell? ⟨w.heap.size, 3, none⟩ = some (.int .u64 u) ∧ w'.cell? ⟨w.heap.size, 4, none⟩ = some (.string tx))
    (first | with_reducible exact BD.five | with_reducible exact B4.five | with_reducible exact B5.five | with_reducible exact B6.five | with_reducible exact B7.five | with_reducible exact B8.five | with_reducible exact B8.fiveSet _ _ _ _ _)
    (first
      | ((go_at_call 24; (with_reducible refine (specName_any arcs hl2 hl60 HA.out.2 A cc hcc w3.drew (Kd.C_drew H3.out.2.2.1)).mono ?_); rintro e w4 ⟨v4, rfl, ho4, hb4⟩; have B4 := BD.step hb4; obtain ⟨A4, cc4, rfl, hcc4, hC4⟩ := Kd.R_reads ho4))
      | ((go_at_call 23; (with_reducible refine (specSealed_any 6 A4 cc4 (sName arcs) wide (by omega) hcc4 (by omega) w4 hC4).mono ?_); rintro e w5 ⟨v5, rfl, ho5, hb5⟩; have B5 := B4.step hb5))
      | (refine app_bytes_step (by rfl) (.tmp 51) (.tmp 52) 26 rfl Tryd.underlying26 infoB w4.heap.size v5 (sSealed 6 (sName arcs) wide) (sSealed ty c wide) A3 (sSealed ty c wide).length cc3 (by rfl) (by rfl) ho5 (Kd.C_below (Kd.C_below (Kd.C_drew H3.out.2.2.2) hb4) hb5) hb5.size (by omega) ?_; intro v6 w6 ho6 hg6 hat6; have B6 := B5.grown hg6 (fun k hk => by have := OwnB.block ho5 k hk; have := B4.size; omega); obtain ⟨bb, HBB, hbl, ho6'⟩ : ∃ bb, Hid (bb = sSealed 6 (sName arcs) wide ++ sSealed ty c wide) ∧ bb.length ≤ 1000 ∧ OwnB w6 w4.heap.size v6 bb := ⟨_, Lib.hid rfl, by simp; omega, ho6⟩; obtain ⟨A6, cc6, rfl, hcc6, hC6⟩ := Kd.R_reads ho6')
      | ((go_at_call 23; (with_reducible refine (specSealed_any 48 A6 cc6 bb wide (by omega) hcc6 (by omega) w6 hC6).mono ?_); rintro e w7 ⟨v7, rfl, ho7, hb7⟩; have B7 := B6.step hb7))
      | ((go_at_call 25; (with_reducible refine (specPlain_any nm tx ty i u arcs c i' u' tx' hn hz HA.out.1.name HA.out.1.cont w7).mono ?_); rintro e w8 ⟨rfl, hb8⟩; have B8 := B7.step hb8; obtain ⟨r0, r1, r2, r3, r4, rf0, rf1, rf2, rf3, rf4⟩ := var_cells B8.2.1)))
  have hx : w.heap.size ≤ w3.heap.size := by omega
  have hh4 : w3.heap.size ≤ w4.heap.size := hb4.size
  have hh5 := hb5.size
  have hh6 := B6.size
  have N7 : NewB w (setVar w8 (w.heap.size + 1) (strOfNums (sDot arcs)) ty i' u' (strOfNums tx')) v7 (sVar arcs ty c wide) := by
    have h7 := (ho7.read.mono (ok' := fun k => w.heap.size + 2 ≤ k) (fun k hk => by have := hk.1; omega)).below hb8
    have h8 := (h7.setVar (w.heap.size + 1) (by omega) (strOfNums (sDot arcs)) ty i' u' (strOfNums tx')).mono (ok' := fun k => w.heap.size ≤ k) (fun k hk => by omega)
    unfold sVar
    rw [← HBB.out]
    exact h8
  have N3 : NewB w (setVar w8 (w.heap.size + 1) (strOfNums (sDot arcs)) ty i' u' (strOfNums tx')) (.slice A3 (sSealed ty c wide).length cc3) (sSealed ty c wide) := by
    have h4 : ReadB w4 _ _ _ := ReadB.below (w := w3.drew) HV3.out hb4
    have h6 := (h4.below hb5).grown hg6 (fun k hk e => by have := OwnB.block ho5 k e.symm; have := hk.2; omega)
    have h8 := (h6.below hb7).below hb8
    exact (h8.setVar (w.heap.size + 1) (by rintro ⟨h, -⟩; omega) _ _ _ _ _).mono (fun k hk => by have := hk.1; omega)
  have hend : GotVal nm tx ty i u wide w (setVar w8 (w.heap.size + 1) (strOfNums (sDot arcs)) ty i' u' (strOfNums tx')) (.returned (.tuple #[v7, .slice A3 (sSealed ty c wide).length cc3, varV (strOfNums (sDot arcs)) ty i' u' (strOfNums tx'), .bool true])) :=
    ⟨setVar_below B8.2.2 (by omega) _ _ _ _ _, .inr ⟨arcs, c, i', u', tx', _, _, HA.out.1, rfl, N7, N3⟩⟩
  have hr8 := B8.2.1
  clear N7 N3 HV3 HA H3 HN HC BD B4 B5 B6 B7 B8 ho4 ho5 ho6 ho6' ho7 hb4 hb5 hb7 hb8 hg6 hat6 hC4 hC6 r0 r1 r2 r3 r4 rf0 rf1 rf2 rf3 rf4 p0 p1 p2 p3 p4
  go_wp2
  exact val_ret (x := 4) (y := 5) (p := 6) (z := 7) rfl rfl rfl hr8 hend
end Go.Proofs.YtangjgclpipjdaaDoor
set_option linter.unusedVariables false
namespace Go.Proofs.YtangjgclpipjdaaDoor
open Go.RowKit Go.Proofs.YtangjgclpipjdaaDoorW.PrintWords Go.Proofs.YtangjgclpipjdaaDoorW.PrintLast Go.Proofs.YtangjgclpipjdaaDoorW.PrintMore
/-- What Open gives, in one form. -/
def Opened (A : Option Addr) (xs : List Int) (e : Ending) : Prop := ∃ t x y A1 c1 A2 c2 ok, e = .returned (.tuple #[.int .i64 t, .slice A1 x.length c1, .slice A2 y.length c2, .bool ok]) ∧
  Cut A xs A1 c1 x ∧ Cut A xs A2 c2 y ∧ IsB x ∧ IsB y ∧ 0 ≤ t ∧ t ≤ 255 ∧ x.length + y.length ≤ xs.length ∧ sOpen xs = if ok = true then some (t, x, y) else none
theorem Cut.nil (A : Option Addr) (xs : List Int) : Cut A xs none 0 [] := ⟨Nat.le_refl _, fun W _ => Kd.C_nil _ W⟩
theorem isB_nil : IsB [] := fun x hx => by simp at hx
theorem opened_any (A : Option Addr) (c : Nat) (xs : List Int) (w : World) (hr : Kd.C (Kd.int .u8) w A xs.length xs) (hc : xs.length ≤ c) (hb : IsB xs) :
    Calls Tryd.prog 31 #[.slice A xs.length c] w fun e w' => Below w.heap.size w w' ∧ Opened A xs e := by
  refine (open_any A c xs w hr hc hb).mono ?_
  rintro e w' ⟨hbl, ⟨hn, rfl⟩ | ⟨t, x, y, A1, c1, A2, c2, ho, rfl, k1, k2⟩⟩
  · exact ⟨hbl, 0, [], [], none, 0, none, 0, false, rfl, Cut.nil _ _, Cut.nil _ _, isB_nil, isB_nil, by omega, by omega, by simp, hn⟩
  · obtain ⟨b1, b2, b3, b4⟩ := sOpen_isB hb ho
    have := sOpen_len hb ho
    exact ⟨hbl, t, x, y, A1, c1, A2, c2, true, rfl, k1, k2, b1, b2, b3, b4, by omega, ho⟩
/-- What next gives. -/
def Nexted (A : Option Addr) (xs : List Int) (tag : Int) (e : Ending) : Prop := ∃ x y A1 c1 A2 c2 ok, e = .returned (.tuple #[.slice A1 x.length c1, .slice A2 y.length c2, .bool ok]) ∧
  Cut A xs A1 c1 x ∧ Cut A xs A2 c2 y ∧ IsB x ∧ IsB y ∧ x.length + y.length ≤ xs.length ∧ sNext xs tag = if ok = true then some (x, y) else none
set_option maxRecDepth 100000 in
set_option maxHeartbeats 4000000 in
theorem next_any (A : Option Addr) (c : Nat) (xs : List Int) (tag : Int) (w : World) (hr : Kd.C (Kd.int .u8) w A xs.length xs) (hc : xs.length ≤ c) (hb : IsB xs) :
    Calls Tryd.prog 29 #[.slice A xs.length c, .int .i64 tag] w fun e w' => Below w.heap.size w w' ∧ Nexted A xs tag e := by
  have HR := Lib.hid (And.intro hr hb)
  clear hr hb
  go_enter Tryd.func29, Tryd.ntmps29
  go_wp2_with fail
  refine (opened_any A c xs w HR.out.1 hc HR.out.2).mono ?_
  rintro e w1 ⟨hbl, t, x, y, A1, c1, A2, c2, ok, rfl, k1, k2, b1, b2, t0, t1, hl, ho⟩
  have HO := Lib.hid (And.intro hbl (And.intro k1 (And.intro k2 (And.intro b1 (And.intro b2 (And.intro hl ho))))))
  clear hbl k1 k2 b1 b2 hl ho
  cases ok with
  | false =>
    go_wp2
    go_ret3
    refine ⟨HO.out.1, x, y, A1, c1, A2, c2, false, rfl, HO.out.2.1, HO.out.2.2.1, HO.out.2.2.2.1, HO.out.2.2.2.2.1, HO.out.2.2.2.2.2.1, ?_⟩
    unfold sNext
    rw [HO.out.2.2.2.2.2.2]
    rfl
  | true =>
    go_wp2
    go_ret3
    refine ⟨HO.out.1, x, y, A1, c1, A2, c2, (t == tag), rfl, HO.out.2.1, HO.out.2.2.1, HO.out.2.2.2.1, HO.out.2.2.2.2.1, HO.out.2.2.2.2.2.1, ?_⟩
    unfold sNext
    rw [HO.out.2.2.2.2.2.2]
    simp
end Go.Proofs.YtangjgclpipjdaaDoor
set_option linter.unusedVariables false
namespace Go.Proofs.YtangjgclpipjdaaDoor
open Go.RowKit Go.Proofs.YtangjgclpipjdaaDoorW.PrintWords Go.Proofs.YtangjgclpipjdaaDoorW.PrintLast Go.Proofs.YtangjgclpipjdaaDoorW.PrintMore
def GotOV (A : Option Addr) (xs : List Int) (w w' : World) (e : Ending) : Prop := Below w.heap.size w w' ∧
  ((sOfVar xs = none ∧ ∃ nm ty i u tx v2, e = .returned (.tuple #[varV nm ty i u tx, v2, .bool false])) ∨
   ∃ arcs ty i u tx rest A2 c2, sOfVar xs = some ((arcs, ty, i, u, tx), rest) ∧ e = .returned (.tuple #[varV (strOfNums (sDot arcs)) ty i u (strOfNums tx), .slice A2 rest.length c2, .bool true]) ∧ Cut A xs A2 c2 rest)
theorem Cut.trans {A A1 A2 : Option Addr} {c1 c2 : Nat} {xs x y : List Int} (h : Cut A xs A1 c1 x) (k : Cut A1 x A2 c2 y) : Cut A xs A2 c2 y := ⟨k.1, fun W hW => k.2 W (h.2 W hW)⟩
theorem specOfInt_any (A : Option Addr) (c : Nat) (xs : List Int) (w : World) (hC : Kd.C (Kd.int .u8) w A xs.length xs) (hc : xs.length ≤ c) (hb : IsB xs) :
    Calls Tryd.prog 33 #[.slice A xs.length c] w fun e w' => Below w.heap.size w w' ∧ ∃ n ok, e = .returned (.tuple #[.int .i64 n, .bool ok]) ∧ (if 1 ≤ xs.length ∧ xs.length ≤ 8 then n = sVal xs ∧ ok = true else n = 0 ∧ ok = false) := by
  by_cases h : 1 ≤ xs.length ∧ xs.length ≤ 8
  · refine (PFnValue.spec_OfInt.calls 12 A c xs _ true w hC hc (ofInt_eq xs hb h.1 h.2)).mono ?_
    rintro e w' ⟨rfl, hb'⟩
    exact ⟨hb'.below, _, _, rfl, by rw [if_pos h]; exact ⟨rfl, rfl⟩⟩
  · refine (PFnValue.spec_OfInt.calls 12 A c xs 0 false w hC hc (ofInt_no xs h)).mono ?_
    rintro e w' ⟨rfl, hb'⟩
    exact ⟨hb'.below, _, _, rfl, by rw [if_neg h]; exact ⟨rfl, rfl⟩⟩
theorem specOfUint_any (A : Option Addr) (c : Nat) (xs : List Int) (w : World) (hC : Kd.C (Kd.int .u8) w A xs.length xs) (hc : xs.length ≤ c) (hb : IsB xs) :
    Calls Tryd.prog 35 #[.slice A xs.length c] w fun e w' => Below w.heap.size w w' ∧ ∃ n ok, e = .returned (.tuple #[.int .u64 n, .bool ok]) ∧ (if 1 ≤ (uPart xs).length ∧ (uPart xs).length ≤ 8 then n = beVal (uPart xs) 0 ∧ ok = true else n = 0 ∧ ok = false) := by
  by_cases h : 1 ≤ (uPart xs).length ∧ (uPart xs).length ≤ 8
  · refine (PFnValue.spec_OfUint.calls 14 (fun k => k < w.heap.size) A c xs _ true w (readB_of hc hC) (ofUint_eq xs hb h.1 h.2)).mono ?_
    rintro e w' ⟨rfl, hb'⟩
    exact ⟨hb', _, _, rfl, by rw [if_pos h]; exact ⟨rfl, rfl⟩⟩
  · refine (PFnValue.spec_OfUint.calls 14 (fun k => k < w.heap.size) A c xs 0 false w (readB_of hc hC) (ofUint_no xs h)).mono ?_
    rintro e w' ⟨rfl, hb'⟩
    exact ⟨hb', _, _, rfl, by rw [if_neg h]; exact ⟨rfl, rfl⟩⟩
theorem ofGo_bnd (l : List Int) (hb : IsB l) : ∀ (out : List Int) (n : Int) (op : Bool) (r : List Int) (o : Bool), ofGo l out n op = some (r, o) → 0 ≤ n → (∀ x ∈ out, 0 ≤ x ∧ x ≤ 4294967295) → (∀ x ∈ r, 0 ≤ x ∧ x ≤ 4294967295) ∧ r.length ≤ out.length + l.length := by
  induction l with
  | nil =>
    intro out n op r o h h0 ho
    simp only [ofGo, Option.some.injEq, Prod.mk.injEq] at h
    obtain ⟨rfl, -⟩ := h
    exact ⟨ho, by simp⟩
  | cons x l ih =>
    intro out n op r o h h0 ho
    have hx := hb x (by simp)
    have hbl : IsB l := fun y hy => hb y (by simp [hy])
    simp only [ofGo] at h
    split at h
    · simp at h
    · rename_i hc
      simp only [not_or] at hc
      split at h
      · obtain ⟨a, b⟩ := ih hbl _ _ _ _ _ h (by omega) (by
          intro y hy
          rcases List.mem_append.1 hy with hy | hy
          · exact ho y hy
          · simp at hy; subst hy; omega)
        refine ⟨a, ?_⟩
        simp at b ⊢
        omega
      · obtain ⟨a, b⟩ := ih hbl _ _ _ _ _ h (by omega) ho
        refine ⟨a, ?_⟩
        simp
        omega
theorem sOf_bnd (b : List Int) (hb : IsB b) : (∀ x ∈ (sOf b).1, 0 ≤ x ∧ x ≤ 4294967295) ∧ (sOf b).1.length ≤ 1000 := by
  unfold sOf
  split
  · simp
  · rename_i hc
    simp only [not_or] at hc
    have h0 := hb.rd 0
    split
    · simp
    · rename_i out op e
      obtain ⟨a, c⟩ := ofGo_bnd _ (isB_drop hb 1) _ _ _ _ _ e (Int.le_refl 0) (by
        intro y hy
        simp at hy
        omega)
      refine ⟨a, ?_⟩
      simp at c ⊢
      omega
theorem dots_snoc (l : List Int) (x : Int) : dots (l ++ [x]) = if l = [] then dec x.toNat else dots l ++ (46 :: dec x.toNat) := by
  induction l with
  | nil => rfl
  | cons a l ih =>
    cases l with
    | nil => rfl
    | cons b l =>
      have e : dots (a :: b :: (l ++ [x])) = dec a.toNat ++ 46 :: dots (b :: (l ++ [x])) := rfl
      have e2 : dots (a :: b :: l) = dec a.toNat ++ 46 :: dots (b :: l) := rfl
      simp only [List.cons_append] at ih ⊢
      rw [e, ih, e2]
      simp
theorem dots_len (l : List Int) (h : ∀ x ∈ l, 0 ≤ x ∧ x ≤ 255) : (dots l).length ≤ 21 * l.length := by
  induction l with
  | nil => simp [dots]
  | cons a l ih =>
    have ha := h a (by simp)
    have hd := dec_len a ha.1 (by omega)
    cases l with
    | nil => simp [dots]; omega
    | cons b l =>
      have := ih (fun x hx => h x (by simp [hx]))
      have e2 : dots (a :: b :: l) = dec a.toNat ++ 46 :: dots (b :: l) := rfl
      rw [e2]
      simp at this ⊢
      omega
theorem ov_some {A A2 : Option Addr} {xs arcs x y tx : List Int} {t i u : Int} {c2 : Nat} {dt : ByteArray} {w w' : World} (h : strOfNums (sDot arcs) = dt ∧ sOfVar xs = tellVar arcs t y (sTold t x)) (hT : sTold t x = some (i, u, tx)) (k : Cut A xs A2 c2 y) (b : Below w.heap.size w w') :
    GotOV A xs w w' (.returned (.tuple #[varV dt t i u (strOfNums tx), .slice A2 y.length c2, .bool true])) := by
  obtain ⟨rfl, h⟩ := h
  exact ⟨b, .inr ⟨arcs, t, i, u, tx, y, A2, c2, by rw [h, hT]; rfl, rfl, k⟩⟩
theorem ov_none {A : Option Addr} {xs arcs x y : List Int} {t : Int} {dt : ByteArray} {w w' : World} {nm tx : ByteArray} {ty i u : Int} {v2 : Value} (h : strOfNums (sDot arcs) = dt ∧ sOfVar xs = tellVar arcs t y (sTold t x)) (hT : sTold t x = none) (b : Below w.heap.size w w') :
    GotOV A xs w w' (.returned (.tuple #[varV nm ty i u tx, v2, .bool false])) := ⟨b, .inl ⟨by rw [h.2, hT]; rfl, nm, ty, i, u, tx, v2, rfl⟩⟩
theorem results_ctt {P : Program} {fn : Func} {p u v : Tmp} {ty : TypeId} (h : fn.results = #[.cell p ty, .tmp u, .tmp v]) (tmps : Array Value) (w : World) (g : Nat) (t : TypeId) (cs : Array Value) (fr : Nat × Nat) (d : TypeDesc)
    (hp : tmps.getD p undef = .pointer (some ⟨g, 0, none⟩)) (hg : w.heap[g]? = some (.cells cs t fr))
    (hu : P.underlying ty = some d) (hd : (match d with | .struct _ | .array _ _ => true | _ => false) = true) (hi : (P.info? ty).map (·.size) = some cs.size) :
    (results fn tmps).run P w = .ok (.tuple #[.agg cs, tmps.getD u undef, tmps.getD v undef]) w := by
  have hp' : tmps[p]?.getD undef = .pointer (some ⟨g, 0, none⟩) := by simpa using hp
  simp [results, h, hp', asAddr, run_loadVar_row w g t ty cs fr d hg hu hd hi]
theorem ov_ret {fn : Func} {p y z : Tmp} (h : fn.results = #[.cell p 24, .tmp y, .tmp z]) {R : Ending → World → Prop} {a : Act} {W : World} {g : Nat} {nm tx nm' tx' : ByteArray} {ty i u ty' i' u' : Int} (hp : a.tmps.getD p undef = .pointer (some ⟨g, 0, none⟩)) (hd : a.defers = [])
    (hr : W.heap[g]? = some (varO nm' ty' i' u' tx')) (hR : R (.returned (.tuple #[varV nm ty i u tx, a.tmps.getD y undef, a.tmps.getD z undef])) (setVar W g nm ty i u tx)) :
    bodyPost Tryd.prog fn R .ret a (setVar W g nm ty i u tx) :=
  bodyPost_ret (results_ctt h _ _ g 24 #[.string nm, .int .i64 ty, .int .i64 i, .int .u64 u, .string tx] (0, 0) _ hp (setVar_new hr _ _ _ _ _) Tryd.underlying24 rfl infoVar) hd hR
theorem ov_ret2 {fn : Func} {p y z : Tmp} (h : fn.results = #[.cell p 24, .tmp y, .tmp z]) {R : Ending → World → Prop} {a : Act} {W : World} {g : Nat} {nm tx nm' tx' : ByteArray} {ty i u ty' i' u' : Int} {o : Obj} (hp : a.tmps.getD p undef = .pointer (some ⟨g, 0, none⟩)) (hd : a.defers = [])
    (hr : W.heap[g]? = some (varO nm' ty' i' u' tx')) (hR : R (.returned (.tuple #[varV nm ty i u tx, a.tmps.getD y undef, a.tmps.getD z undef])) ((setVar W g nm ty i u tx).alloc o)) :
    bodyPost Tryd.prog fn R .ret a ((setVar W g nm ty i u tx).alloc o) :=
  bodyPost_ret (results_ctt h _ _ g 24 #[.string nm, .int .i64 ty, .int .i64 i, .int .u64 u, .string tx] (0, 0) _ hp (blk_alloc (setVar_new hr _ _ _ _ _) o) Tryd.underlying24 rfl infoVar) hd hR
set_option maxRecDepth 100000 in
set_option maxHeartbeats 4000000 in
theorem ofVar_any (A : Option Addr) (c : Nat) (xs : List Int) (w : World) (hr : Kd.C (Kd.int .u8) w A xs.length xs) (hc : xs.length ≤ c) (hb : IsB xs) (hl : xs.length ≤ 1000000) :
    Calls Tryd.prog 12 #[.slice A xs.length c] w fun e w' => GotOV A xs w w' e := by
  have mixed : Tryd.prog.follows Departure.mixedOrders = true := by kernel_rfl
  have HR := Lib.hid (And.intro hr hb)
  clear hr hb
  go_enter Tryd.func12, Tryd.ntmps12
  go_wp2_with fail
  have b0 := (Below.refl w.heap.size w).alloc (Nat.le_refl _) (varO ⟨#[]⟩ 0 0 0 ⟨#[]⟩)
  refine (next_any A c xs 48 _ (Kd.C_below HR.out.1 b0) hc HR.out.2).mono ?_
  rintro e w1 ⟨hb1, x1, y1, A1, c1, A2, c2, ok1, rfl, k1, k2, i1, i2, l1, ho1⟩
  have b1 := below_step b0 hb1
  have hblk1 := blk_below (blk_new w (varO ⟨#[]⟩ 0 0 0 ⟨#[]⟩)) hb1
  have H1 := Lib.hid (And.intro b1 (And.intro hblk1 (And.intro k1 (And.intro k2 (And.intro i1 (And.intro i2 ho1))))))
  clear b0 hb1 b1 hblk1 k1 k2 i1 i2 ho1
  cases ok1 with
  | false =>
    have HN := Lib.hid (show sOfVar xs = none by unfold sOfVar; rw [H1.out.2.2.2.2.2.2]; rfl)
    obtain ⟨r0, r1, r2, r3, r4, rf0, rf1, rf2, rf3, rf4⟩ := var_cells H1.out.2.1
    go_wp2
    exact ov_ret rfl rfl rfl H1.out.2.1 ⟨setVar_below H1.out.1 (Nat.le_refl _) _ _ _ _ _, .inl ⟨HN.out, _, _, _, _, _, _, rfl⟩⟩
  | true =>
    go_wp2_with fail
    have hC1 := H1.out.2.2.1.2 w1 (Kd.C_below HR.out.1 H1.out.1)
    refine (next_any A1 c1 x1 6 w1 hC1 H1.out.2.2.1.1 H1.out.2.2.2.2.1).mono ?_
    rintro e w2 ⟨hb2, x2, y2, B1, d1, B2, d2, ok2, rfl, m1, m2, j1, j2, l2, ho2⟩
    have n1 := H1.out.2.2.1.trans m1
    have n2 := H1.out.2.2.1.trans m2
    have b2 := below_step H1.out.1 hb2
    have hblk2 := blk_below H1.out.2.1 hb2
    have H2 := Lib.hid (And.intro b2 (And.intro hblk2 (And.intro n1 (And.intro n2 (And.intro j1 (And.intro j2 (And.intro ho2 (And.intro H1.out.2.2.2.1 H1.out.2.2.2.2.2.2))))))))
    clear b2 hb2 hblk2 n1 n2 m1 m2 j1 j2 ho2 hC1 H1
    go_wp2_with fail
    refine (specOfName_any B1 d1 x2 H2.out.2.2.1.1 H2.out.2.2.2.2.1 w2 (H2.out.2.2.1.2 w2 (Kd.C_below HR.out.1 H2.out.1))).mono ?_
    rintro e w3 ⟨v3, rfl, ho3, hb3⟩
    obtain ⟨A3, c3, rfl, hc3, hC3⟩ := Kd.R_reads ho3
    have b3 := below_step H2.out.1 hb3
    have H3 := Lib.hid (And.intro b3 (And.intro (blk_below H2.out.2.1 hb3) (And.intro hC3 H2.out)))
    clear b3 hb3 hC3 ho3 H2
    go_wp2_with fail
    refine (opened_any B2 d2 y2 w3 (H3.out.2.2.2.2.2.2.1.2 w3 (Kd.C_below HR.out.1 H3.out.1)) H3.out.2.2.2.2.2.2.1.1 H3.out.2.2.2.2.2.2.2.2.1).mono ?_
    rintro e w4 ⟨hb4, t, x4, y4, E1, e1, E2, e2, ok4, rfl, q1, q2, s1, s2, t0, t1, l4, ho4⟩
    have b4 := below_step H3.out.1 hb4
    have hblk4 := blk_below H3.out.2.1 hb4
    have hq := H3.out.2.2.2.2.2.2.1.trans q1
    have he1 := q1.1
    have HT := Lib.hid (show sOfVar xs = if ok2 = true ∧ (sOf x2).2 = true ∧ ok4 = true ∧ y4.length = 0 then tellVar (sOf x2).1 t y1 (sTold t x4) else none from by
      unfold sOfVar
      rw [H3.out.2.2.2.2.2.2.2.2.2.2.2]
      simp only [if_true]
      rw [H3.out.2.2.2.2.2.2.2.2.2.1]
      cases ok2 with
      | false => simp
      | true =>
        simp only [if_true]
        rw [ho4]
        cases ok4 with
        | false => simp
        | true => simp)
    have H4 := Lib.hid (And.intro b4 (And.intro hblk4 (And.intro (Kd.C_below H3.out.2.2.1 hb4) (And.intro (hq.2 w4 (Kd.C_below HR.out.1 b4)) (And.intro s1 H3.out.2.2.2.2.2.2.2.2.2.2.1)))))
    have HCC := Lib.hid (fun W (hW : Below w.heap.size w W) => hq.2 W (Kd.C_below HR.out.1 hW))
    have HB2 := Lib.hid H3.out.2.2.2.2.2.1
    have HJ := Lib.hid H3.out.2.2.2.2.2.2.2.1
    clear b4 hb4 hblk4 hq q1 q2 s1 s2 ho4 H3
    cases ok2 with
    | false =>
      have HN := Lib.hid (show sOfVar xs = none by rw [HT.out]; simp)
      obtain ⟨r0, r1, r2, r3, r4, rf0, rf1, rf2, rf3, rf4⟩ := var_cells H4.out.2.1
      go_wp2
      exact ov_ret rfl rfl rfl H4.out.2.1 ⟨setVar_below H4.out.1 (Nat.le_refl _) _ _ _ _ _, .inl ⟨HN.out, _, _, _, _, _, _, rfl⟩⟩
    | true =>
    cases h3 : (sOf x2).2 with
    | false =>
      have HN := Lib.hid (show sOfVar xs = none by rw [HT.out]; simp [h3])
      obtain ⟨r0, r1, r2, r3, r4, rf0, rf1, rf2, rf3, rf4⟩ := var_cells H4.out.2.1
      go_wp2
      exact ov_ret rfl rfl rfl H4.out.2.1 ⟨setVar_below H4.out.1 (Nat.le_refl _) _ _ _ _ _, .inl ⟨HN.out, _, _, _, _, _, _, rfl⟩⟩
    | true =>
    cases ok4 with
    | false =>
      have HN := Lib.hid (show sOfVar xs = none by rw [HT.out]; simp)
      obtain ⟨r0, r1, r2, r3, r4, rf0, rf1, rf2, rf3, rf4⟩ := var_cells H4.out.2.1
      go_wp2
      exact ov_ret rfl rfl rfl H4.out.2.1 ⟨setVar_below H4.out.1 (Nat.le_refl _) _ _ _ _ _, .inl ⟨HN.out, _, _, _, _, _, _, rfl⟩⟩
    | true =>
    by_cases hy4 : y4.length = 0
    case neg =>
      have hyp : 0 < (y4.length : Int) := by omega
      have HN := Lib.hid (show sOfVar xs = none by rw [HT.out, if_neg (by rintro ⟨-, -, -, h⟩; exact hy4 h)])
      obtain ⟨r0, r1, r2, r3, r4, rf0, rf1, rf2, rf3, rf4⟩ := var_cells H4.out.2.1
      go_wp2
      exact ov_ret rfl rfl rfl H4.out.2.1 ⟨setVar_below H4.out.1 (Nat.le_refl _) _ _ _ _ _, .inl ⟨HN.out, _, _, _, _, _, _, rfl⟩⟩
    case pos =>
      rw [hy4]
      have HT2 := Lib.hid (show sOfVar xs = tellVar (sOf x2).1 t y1 (sTold t x4) by rw [HT.out, if_pos ⟨rfl, h3, rfl, hy4⟩])
      obtain ⟨xa, ya, ra, hae, -, hx0, hx2, hyb, hyb2, hbnd, hal⟩ := sOf_text x2 HJ.out (sOf x2).1 (by rw [← h3])
      have hbd : ∀ x ∈ (sOf x2).1, 0 ≤ x ∧ x ≤ 4294967295 := by
        rw [hae]
        intro x hx
        rcases List.mem_cons.1 hx with rfl | hx
        · omega
        rcases List.mem_cons.1 hx with rfl | hx
        · omega
        · exact hbnd x hx
      clear hae hbnd hx0 hx2 hyb hyb2 HT h3 HJ HB2
      generalize (sOf x2).1 = arcs at *
      have H4b := Lib.hid hbd
      clear hbd
      go_wp2_with fail
      refine (dotted_any arcs H4b.out (by omega) A3 c3 w4 H4.out.2.2.1).mono ?_
      rintro e w5 ⟨rfl, hb5⟩
      have b5 := below_step H4.out.1 hb5
      have hblk5 := blk_below H4.out.2.1 hb5
      generalize hdt : strOfNums (sDot arcs) = dt at *
      have hout := blk_new w5 (varO dt t 0 0 ⟨#[]⟩)
      have hblk6 := fun o => blk_alloc hblk5 o
      have b6 := fun o => b5.alloc b5.size o
      have hs5 := blk_lt hblk5
      have hC6 := Kd.C_alloc (Kd.C_below H4.out.2.2.2.1 hb5) (varO dt t 0 0 ⟨#[]⟩)
      have H6 := Lib.hid (And.intro b6 (And.intro hblk6 (And.intro hout (And.intro hC6 (And.intro H4.out.2.2.2.2.1 (And.intro H4.out.2.2.2.2.2 (And.intro hblk5 b5)))))))
      clear hb5 b5 hblk5 H4 hout hblk6 b6 hC6
      have HE := Lib.hid (And.intro hdt HT2.out)
      clear hdt HT2 H4b HR
      by_cases c2 : t = 2
      · subst c2
        go_wp2_with fail
        refine (specOfInt_any E1 e1 x4 _ H6.out.2.2.2.1 (by omega) H6.out.2.2.2.2.1).mono ?_
        rintro e w7 ⟨hb7, n, ok, rfl, hn⟩
        have hout7 := blk_below H6.out.2.2.1 hb7
        have hr7 := blk_below (H6.out.2.1 _) hb7
        obtain ⟨o0, o1, o2, o3, o4, of0, of1, of2, of3, of4⟩ := var_cells hout7
        obtain ⟨r0, r1, r2, r3, r4, rf0, rf1, rf2, rf3, rf4⟩ := var_cells hr7
        have H7 := Lib.hid (And.intro hr7 (And.intro (below_step (H6.out.1 _) hb7) hn))
        clear hout7 hr7 hb7 hn
        go_wp2
        have hr8 : (w7.setCell ⟨w5.heap.size, 2, none⟩ (.int .i64 n)).heap[w.heap.size]? = some (varO ⟨#[]⟩ 0 0 0 ⟨#[]⟩) := (Below.heap_setCell _ _ _ _ (by show w.heap.size ≠ w5.heap.size; omega)).trans H7.out.1
        have hb8 := setVar_below (below_set (j := 2) (v := .int .i64 n) H7.out.2.1 (Nat.le_of_lt hs5)) (Nat.le_refl _) dt 2 n 0 ⟨#[]⟩
        have hn := H7.out.2.2
        by_cases h : 1 ≤ x4.length ∧ x4.length ≤ 8
        · rw [if_pos h] at hn
          obtain ⟨rfl, rfl⟩ := hn
          (refine ov_ret rfl rfl rfl hr8 ?_; exact ov_some HE.out (by unfold sTold; rw [if_pos rfl, if_pos h]) H6.out.2.2.2.2.2.1 hb8)
        · rw [if_neg h] at hn
          obtain ⟨rfl, rfl⟩ := hn
          (refine ov_ret rfl rfl rfl hr8 ?_; exact ov_none HE.out (by unfold sTold; rw [if_pos rfl, if_neg h]) hb8)
      have H5 := H6.out.2.2.2.2.2.2
      obtain ⟨r0, r1, r2, r3, r4, rf0, rf1, rf2, rf3, rf4⟩ := var_cells H5.1
      have HV := Lib.hid H5
      have hsv : ∀ nm ty i u tx o, Below w.heap.size w ((setVar w5 w.heap.size nm ty i u tx).alloc o) := fun nm ty i u tx o => by
        have := setVar_below HV.out.2 (Nat.le_refl w.heap.size) nm ty i u tx
        exact this.alloc this.size o
      have HSV := Lib.hid hsv
      clear H5 hsv
      by_cases c4 : t = 4
      · subst c4
        have hcv := Kd.C_string (P := Tryd.prog) Tryd.underlying26 Tryd.underlying5 Tryd.underlying9 H6.out.2.2.2.1 (c := e1)
        go_wp2
        (refine ov_ret2 rfl rfl rfl HV.out.1 ?_; exact ov_some HE.out (by unfold sTold; rw [if_neg (by omega), if_pos rfl]) H6.out.2.2.2.2.2.1 (HSV.out _ _ _ _ _ _))
      by_cases c5 : t = 5 ∨ t = 128 ∨ t = 129 ∨ t = 130
      · have hT : sTold t x4 = if x4.length = 0 then some (0, 0, []) else none := by unfold sTold; rw [if_neg c2, if_neg c4, if_pos c5]
        rcases c5 with rfl | rfl | rfl | rfl
        all_goals
          by_cases h0 : x4.length = 0
          · rw [if_pos h0] at hT
            have HT := Lib.hid hT
            rw [h0]
            clear hT
            go_wp2
            (refine ov_ret2 rfl rfl rfl HV.out.1 ?_; exact ov_some HE.out HT.out H6.out.2.2.2.2.2.1 (HSV.out _ _ _ _ _ _))
          · have hd0 : ((x4.length : Int) == 0) = false := beq_eq_false_iff_ne.2 (by omega)
            rw [if_neg h0] at hT
            have HT := Lib.hid hT
            clear hT
            go_wp2
            (refine ov_ret2 rfl rfl rfl HV.out.1 ?_; exact ov_none HE.out HT.out (HSV.out _ _ _ _ _ _))
      by_cases c6 : t = 6
      · have hT : sTold t x4 = if (sOf x4).2 = true then some (0, 0, sDot (sOf x4).1) else none := by unfold sTold; rw [if_neg c2, if_neg c4, if_neg c5, if_pos c6]
        subst c6
        obtain ⟨hbx, hlx⟩ := sOf_bnd x4 H6.out.2.2.2.2.1
        have HX := Lib.hid (And.intro hbx hT)
        clear hbx hT
        go_wp2_with fail
        refine (specOfName_any E1 e1 x4 he1 H6.out.2.2.2.2.1 _ H6.out.2.2.2.1).mono ?_
        rintro e w7 ⟨v7, rfl, ho7, hb7⟩
        obtain ⟨A7, c7, rfl, hc7, hC7⟩ := Kd.R_reads ho7
        have H7 := Lib.hid (And.intro (blk_below (H6.out.2.1 _) hb7) (And.intro (below_step (H6.out.1 _) hb7) (blk_below H6.out.2.2.1 hb7)))
        clear ho7 hb7 r0 r1 r2 r3 r4 rf0 rf1 rf2 rf3 rf4
        cases hf : (sOf x4).2
        all_goals
          have HF := Lib.hid hf
          clear hf
          go_wp2_with fail
          refine (dotted_any (sOf x4).1 HX.out.1 hlx A7 c7 w7 hC7).mono ?_
          rintro e w8 ⟨rfl, hb8⟩
          have H8 := Lib.hid (And.intro (blk_below H7.out.1 hb8) (below_step H7.out.2.1 hb8))
          obtain ⟨o0, o1, o2, o3, o4, of0, of1, of2, of3, of4⟩ := var_cells (blk_below H7.out.2.2 hb8)
          obtain ⟨r0, r1, r2, r3, r4, rf0, rf1, rf2, rf3, rf4⟩ := var_cells H8.out.1
          clear hb8
          go_wp2
          have hr9 : (w8.setCell ⟨w5.heap.size, 4, none⟩ (.string (strOfNums (sDot (sOf x4).1)))).heap[w.heap.size]? = some (varO ⟨#[]⟩ 0 0 0 ⟨#[]⟩) := (Below.heap_setCell _ _ _ _ (by show w.heap.size ≠ w5.heap.size; omega)).trans H8.out.1
          have hb9 := setVar_below (below_set (j := 4) (v := .string (strOfNums (sDot (sOf x4).1))) H8.out.2 (Nat.le_of_lt hs5)) (Nat.le_refl _) dt 6 0 0 (strOfNums (sDot (sOf x4).1))
          refine ov_ret rfl rfl rfl hr9 ?_
          first
            | exact ov_some HE.out (HX.out.2.trans (if_pos HF.out)) H6.out.2.2.2.2.2.1 hb9
            | exact ov_none HE.out (HX.out.2.trans (if_neg (by rw [HF.out]; simp))) hb9
      by_cases c65 : t = 65 ∨ t = 66 ∨ t = 67 ∨ t = 70
      · have hT : sTold t x4 = if 1 ≤ (uPart x4).length ∧ (uPart x4).length ≤ 8 then some (0, beVal (uPart x4) 0, []) else none := by unfold sTold; rw [if_neg c2, if_neg c4, if_neg c5, if_neg c6, if_neg (by omega), if_pos c65]
        have HT := Lib.hid hT
        clear hT
        rcases c65 with rfl | rfl | rfl | rfl
        all_goals
          go_wp2_with fail
          refine (specOfUint_any E1 e1 x4 _ H6.out.2.2.2.1 he1 H6.out.2.2.2.2.1).mono ?_
          rintro e w7 ⟨hb7, n, ok, rfl, hn⟩
          have hout7 := blk_below H6.out.2.2.1 hb7
          have hr7 := blk_below (H6.out.2.1 _) hb7
          clear r0 r1 r2 r3 r4 rf0 rf1 rf2 rf3 rf4
          obtain ⟨o0, o1, o2, o3, o4, of0, of1, of2, of3, of4⟩ := var_cells hout7
          obtain ⟨r0, r1, r2, r3, r4, rf0, rf1, rf2, rf3, rf4⟩ := var_cells hr7
          have H7 := Lib.hid (And.intro hr7 (And.intro (below_step (H6.out.1 _) hb7) hn))
          clear hout7 hr7 hb7 hn
          go_wp2
          have hr8 : (w7.setCell ⟨w5.heap.size, 3, none⟩ (.int .u64 n)).heap[w.heap.size]? = some (varO ⟨#[]⟩ 0 0 0 ⟨#[]⟩) := (Below.heap_setCell _ _ _ _ (by show w.heap.size ≠ w5.heap.size; omega)).trans H7.out.1
          have hb8 := fun ty => setVar_below (below_set (j := 3) (v := .int .u64 n) H7.out.2.1 (Nat.le_of_lt hs5)) (Nat.le_refl _) dt ty 0 n ⟨#[]⟩
          have hn := H7.out.2.2
          by_cases h : 1 ≤ (uPart x4).length ∧ (uPart x4).length ≤ 8
          · rw [if_pos h] at hn
            obtain ⟨rfl, rfl⟩ := hn
            refine ov_ret rfl rfl rfl hr8 ?_
            exact ov_some HE.out (HT.out.trans (if_pos h)) H6.out.2.2.2.2.2.1 (hb8 _)
          · rw [if_neg h] at hn
            obtain ⟨rfl, rfl⟩ := hn
            refine ov_ret rfl rfl rfl hr8 ?_
            exact ov_none HE.out (HT.out.trans (if_neg h)) (hb8 _)
      by_cases c64 : t = 64
      · have hT : sTold t x4 = if x4.length = 4 then some (0, 0, dots x4) else none := by unfold sTold; rw [if_neg c2, if_neg c4, if_neg c5, if_neg c6, if_pos c64]
        have HT := Lib.hid hT
        subst c64
        clear hT
        go_wp2
        go_loopg [20, 21, 109] x4.length (fun k v20 v21 v109 wr => ∃ i : Nat, v109 = .int .i64 i ∧ Hid (i ≤ x4.length ∧ k = x4.length - i ∧ wr.heap[w5.heap.size]? = some (varO dt 64 0 0 (strOfNums (dots (x4.take i)))) ∧ wr.heap[w.heap.size]? = some (varO ⟨#[]⟩ 0 0 0 ⟨#[]⟩) ∧ Below w.heap.size w wr))
        case atStart => exact ⟨0, rfl, Lib.hid ⟨Nat.zero_le _, rfl, H6.out.2.2.1, H6.out.2.1 _, H6.out.1 _⟩⟩
        case round =>
          obtain ⟨i, rfl, HI⟩ := hrel
          obtain ⟨hi, hk, hout, hres, hbw⟩ := HI.out
          clear HI r0 r1 r2 r3 r4 rf0 rf1 rf2 rf3 rf4
          obtain ⟨r0, r1, r2, r3, r4, rf0, rf1, rf2, rf3, rf4⟩ := var_cells hres
          obtain ⟨o0, o1, o2, o3, o4, of0, of1, of2, of3, of4⟩ := var_cells hout
          have HW := Lib.hid (And.intro hout (And.intro hres (And.intro hbw hk)))
          clear hk hout hres
          by_cases hil : i < x4.length
          · have hx := H6.out.2.2.2.2.1 x4[i] (List.getElem_mem hil)
            obtain ⟨ad, rfl, gx⟩ := cell_at (HCC.out wr hbw) i hil
            have hrd : rd x4 i = x4[i] := by
              unfold Go.Proofs.YtangjgclpipjdaaDoorW.PrintWords.rd
              rw [Int.toNat_natCast, List.getD_eq_getElem?_getD, List.getElem?_eq_getElem hil]
              rfl
            rw [hrd] at gx
            have hst := dots_snoc (x4.take i) x4[i]
            rw [← List.take_succ_eq_append_getElem hil] at hst
            have hsl := dots_len (x4.take i) (fun y hy => H6.out.2.2.2.2.1 y (List.mem_of_mem_take hy))
            have hdl := dec_len x4[i] hx.1 (by omega)
            rw [List.length_take] at hsl
            have hsl2 : (dots (x4.take i)).length ≤ 21000000 := by omega
            have hx0 := hx.1
            have hx1 := hx.2
            clear hrd hsl hx hbw
            generalize x4[i] = x at *
            by_cases i0 : i = 0
            · subst i0
              have hst0 : dots (x4.take (0 + 1)) = dec x.toNat := by rw [hst]; rfl
              have HST := Lib.hid hst0
              rw [Addr.add_zero'] at gx
              clear hst0 hst hsl2
              go_wp2_with fail
              have hout2 : wr.heap[w5.heap.size]? = some (varO dt 64 0 0 (strOfNums [])) := HW.out.1
              have hres2 := HW.out.2.1
              have hb2 := HW.out.2.2.1
              clear o0 o1 o2 o3 o4 of0 of1 of2 of3 of4
              obtain ⟨o0, o1, o2, o3, o4, of0, of1, of2, of3, of4⟩ := var_cells hout2
              have hgs := blk_lt hout2
              have hwx : IntKind.u64.wrap x = x := wraps_u64 _ hx0 (by omega)
              have p2 := str_app ([] : List Int) (dec x.toNat)
              have q2 : (strOfNums ([])).size + (strOfNums (dec x.toNat)).size ≤ 9223372036854775807 := by simp [strOfNums, ByteArray.size]; omega
              have HW2 := Lib.hid (And.intro hout2 (And.intro hres2 hb2))
              clear hres2 hb2
              go_region_with_o (go_at_call 34; refine (figures_any x hx0 (by omega) _).mono ?_; rintro e w8 ⟨rfl, hb8⟩; have hout8 : w8.heap[w5.heap.size]? = some (varO dt 64 0 0 (strOfNums ([]))) := blk_below (w := wr.drew) hout2 hb8; have z4 : w8.cell? ⟨w5.heap.size, 4, none⟩ = some (.string (strOfNums ([]))) := (var_cells hout8).2.2.2.2.1; have zf4 : w8.frozen? ⟨w5.heap.size, 4, none⟩ = false := blk_frozen hout8 4)
              all_goals
                have H8 := Lib.hid (And.intro (show (w8.setCell ⟨w5.heap.size, 4, none⟩ (.string (strOfNums ([] ++ dec x.toNat)))).heap[w5.heap.size]? = some (varO dt 64 0 0 (strOfNums ([] ++ dec x.toNat))) from by
                  rw [Lib.heap_setCell_same (i := 4) hout8 _]; rfl) (And.intro (show (w8.setCell ⟨w5.heap.size, 4, none⟩ (.string (strOfNums ([] ++ dec x.toNat)))).heap[w.heap.size]? = some (varO ⟨#[]⟩ 0 0 0 ⟨#[]⟩) from (Below.heap_setCell _ _ _ _ (by show w.heap.size ≠ w5.heap.size; omega)).trans (blk_below (w := wr.drew) HW2.out.2.1 hb8)) (below_set (j := 4) (v := .string (strOfNums ([] ++ dec x.toNat))) (below_step (below_drew HW2.out.2.2) hb8) (Nat.le_of_lt hs5))))
                clear hout8 hb8
                go_wp2
                go_roundg (x4.length - (0 + 1))
                case measure =>
                  have := HW.out.2.2.2
                  omega
                case rel => exact ⟨0 + 1, by go_num, Lib.hid ⟨by omega, rfl, by rw [HST.out]; exact H8.out.1, H8.out.2.1, H8.out.2.2⟩⟩
            · have hne : x4.take i ≠ [] := by
                intro e
                have := congrArg List.length e
                rw [List.length_take, List.length_nil] at this
                omega
              rw [if_neg hne] at hst
              generalize hs : dots (x4.take i) = s at *
              have p1 : strOfNums s ++ ByteArray.mk #[46] = strOfNums (s ++ [46]) := str_app s [46]
              have q1 : (strOfNums s).size + (ByteArray.mk #[46]).size ≤ 9223372036854775807 := by simp [strOfNums, ByteArray.size]; omega
              have hsl3 : s.length ≤ 21000000 := by omega
              have HST := Lib.hid hst
              clear hst hs
              go_wp2_with fail
              have hout2 : (wr.setCell ⟨w5.heap.size, 4, none⟩ (.string (strOfNums (s ++ [46])))).heap[w5.heap.size]? = some (varO dt 64 0 0 (strOfNums (s ++ [46]))) := by
                rw [Lib.heap_setCell_same (i := 4) HW.out.1 _]
                rfl
              have hres2 : (wr.setCell ⟨w5.heap.size, 4, none⟩ (.string (strOfNums (s ++ [46])))).heap[w.heap.size]? = some (varO ⟨#[]⟩ 0 0 0 ⟨#[]⟩) := (Below.heap_setCell _ _ _ _ (by show w.heap.size ≠ w5.heap.size; omega)).trans HW.out.2.1
              have hb2 := below_set (j := 4) (v := .string (strOfNums (s ++ [46]))) HW.out.2.2.1 (Nat.le_of_lt hs5)
              clear o0 o1 o2 o3 o4 of0 of1 of2 of3 of4 p1 q1
              generalize (wr.setCell ⟨w5.heap.size, 4, none⟩ (.string (strOfNums (s ++ [46])))) = W2 at *
              have hs2l : (s ++ [46]).length ≤ 21000001 := by simp; omega
              generalize hs2 : s ++ [46] = s2 at *
              obtain ⟨o0, o1, o2, o3, o4, of0, of1, of2, of3, of4⟩ := var_cells hout2
              have hgs := blk_lt hout2
              have hwx : IntKind.u64.wrap x = x := wraps_u64 _ hx0 (by omega)
              have p2 := str_app s2 (dec x.toNat)
              generalize hs3 : s2 ++ dec x.toNat = s3 at *
              have q2 : (strOfNums (s2)).size + (strOfNums (dec x.toNat)).size ≤ 9223372036854775807 := by simp [strOfNums, ByteArray.size]; omega
              have HS3 := Lib.hid (And.intro hs2 hs3)
              clear hs2 hs3
              have HW2 := Lib.hid (And.intro hout2 (And.intro hres2 hb2))
              clear hres2 hb2
              go_region_with_o (go_at_call 34; refine (figures_any x hx0 (by omega) _).mono ?_; rintro e w8 ⟨rfl, hb8⟩; have hout8 : w8.heap[w5.heap.size]? = some (varO dt 64 0 0 (strOfNums (s2))) := blk_below (w := W2.drew) hout2 hb8; have z4 : w8.cell? ⟨w5.heap.size, 4, none⟩ = some (.string (strOfNums (s2))) := (var_cells hout8).2.2.2.2.1; have zf4 : w8.frozen? ⟨w5.heap.size, 4, none⟩ = false := blk_frozen hout8 4)
              all_goals
                have H8 := Lib.hid (And.intro (show (w8.setCell ⟨w5.heap.size, 4, none⟩ (.string (strOfNums (s3)))).heap[w5.heap.size]? = some (varO dt 64 0 0 (strOfNums (s3))) from by
                  rw [Lib.heap_setCell_same (i := 4) hout8 _]; rfl) (And.intro (show (w8.setCell ⟨w5.heap.size, 4, none⟩ (.string (strOfNums (s3)))).heap[w.heap.size]? = some (varO ⟨#[]⟩ 0 0 0 ⟨#[]⟩) from (Below.heap_setCell _ _ _ _ (by show w.heap.size ≠ w5.heap.size; omega)).trans (blk_below (w := W2.drew) HW2.out.2.1 hb8)) (below_set (j := 4) (v := .string (strOfNums (s3))) (below_step (below_drew HW2.out.2.2) hb8) (Nat.le_of_lt hs5))))
                clear hout8 hb8
                go_wp2
                go_roundg (x4.length - (i + 1))
                case measure =>
                  have := HW.out.2.2.2
                  omega
                case rel => exact ⟨i + 1, by go_num, Lib.hid ⟨by omega, rfl, by rw [show dots (x4.take (i + 1)) = s3 by rw [HST.out, ← HS3.out.2, ← HS3.out.1]; simp]; exact H8.out.1, H8.out.2.1, H8.out.2.2⟩⟩
          · obtain rfl : i = x4.length := by omega
            rw [List.take_length] at o4
            by_cases h4 : x4.length = 4
            · have e4 : ((x4.length : Int) == 4) = true := beq_iff_eq.2 (by omega)
              rw [e4]
              go_wp2
              refine ov_ret rfl rfl rfl HW.out.2.1 ?_
              exact ov_some HE.out (HT.out.trans (if_pos h4)) H6.out.2.2.2.2.2.1 (setVar_below HW.out.2.2.1 (Nat.le_refl _) _ _ _ _ _)
            · have e4 : ((x4.length : Int) == 4) = false := beq_eq_false_iff_ne.2 (by omega)
              rw [e4]
              go_wp2
              refine ov_ret rfl rfl rfl HW.out.2.1 ?_
              exact ov_none HE.out (HT.out.trans (if_neg h4)) (setVar_below HW.out.2.2.1 (Nat.le_refl _) _ _ _ _ _)
      · have hT : sTold t x4 = none := by unfold sTold; rw [if_neg c2, if_neg c4, if_neg c5, if_neg c6, if_neg c64, if_neg c65]
        have HT := Lib.hid hT
        have z2 : (t == 2) = false := beq_eq_false_iff_ne.2 c2
        have z4 : (t == 4) = false := beq_eq_false_iff_ne.2 c4
        have z5 : (t == 5) = false := beq_eq_false_iff_ne.2 (by omega)
        have z128 : (t == 128) = false := beq_eq_false_iff_ne.2 (by omega)
        have z129 : (t == 129) = false := beq_eq_false_iff_ne.2 (by omega)
        have z130 : (t == 130) = false := beq_eq_false_iff_ne.2 (by omega)
        have z6 : (t == 6) = false := beq_eq_false_iff_ne.2 c6
        have z64 : (t == 64) = false := beq_eq_false_iff_ne.2 c64
        have z65 : (t == 65) = false := beq_eq_false_iff_ne.2 (by omega)
        have z66 : (t == 66) = false := beq_eq_false_iff_ne.2 (by omega)
        have z67 : (t == 67) = false := beq_eq_false_iff_ne.2 (by omega)
        have z70 : (t == 70) = false := beq_eq_false_iff_ne.2 (by omega)
        clear hT c2 c4 c5 c6 c64 c65
        go_wp2
        refine ov_ret2 rfl rfl rfl HV.out.1 ?_
        exact ov_none HE.out HT.out (HSV.out _ _ _ _ _ _)
end Go.Proofs.YtangjgclpipjdaaDoor
set_option linter.unusedVariables false
namespace Go.Proofs.YtangjgclpipjdaaDoor
open Go.RowKit Go.Proofs.YtangjgclpipjdaaDoorW.PrintWords Go.Proofs.YtangjgclpipjdaaDoorW.PrintLast Go.Proofs.YtangjgclpipjdaaDoorW.PrintMore
theorem fits1_any (nm tx : ByteArray) (ty i u : Int) (w : World) : Calls Tryd.prog 9 #[varV nm ty i u tx] w fun e w' => e = .returned (.bool (decide (nm.size ≤ 2147483647 ∧ tx.size ≤ 2147483647))) ∧ Below w.heap.size w w' := by
  have hal := (Below.refl w.heap.size w).alloc (Nat.le_refl _) (varO nm ty i u tx)
  by_cases h1 : (2147483647 : Int) < nm.size
  · go_enter Tryd.func9, Tryd.ntmps9
    go_wp2
    go_ret
    exact ⟨by congr 2; simp; omega, hal⟩
  · by_cases h2 : (2147483647 : Int) < tx.size
    · go_enter Tryd.func9, Tryd.ntmps9
      go_wp2
      go_ret
      exact ⟨by congr 2; simp; omega, hal⟩
    · go_enter Tryd.func9, Tryd.ntmps9
      go_wp2
      go_ret
      exact ⟨by congr 2; simp; omega, hal⟩
theorem ta_int_int (v : Value) (w : World) : (Instr.typeAssert (.iface 3 v) 20 3 true).run Tryd.prog w = .ok (.tuple #[v, .bool true]) w := by kernel_rfl
theorem ta_uint_uint (v : Value) (w : World) : (Instr.typeAssert (.iface 38 v) 20 38 true).run Tryd.prog w = .ok (.tuple #[v, .bool true]) w := by kernel_rfl
theorem ta_str_bytes (v : Value) (w : World) : (Instr.typeAssert (.iface 9 v) 20 26 true).run Tryd.prog w = .ok (.tuple #[.slice none 0 0, .bool false]) w := by kernel_rfl
theorem ta_str_str (v : Value) (w : World) : (Instr.typeAssert (.iface 9 v) 20 9 true).run Tryd.prog w = .ok (.tuple #[v, .bool true]) w := by kernel_rfl
end Go.Proofs.YtangjgclpipjdaaDoor
set_option linter.unusedVariables false
namespace Go.Proofs.YtangjgclpipjdaaDoor
open Go.RowKit Go.Proofs.YtangjgclpipjdaaDoorW.PrintWords Go.Proofs.YtangjgclpipjdaaDoorW.PrintLast Go.Proofs.YtangjgclpipjdaaDoorW.PrintMore
/-- A kind of elements of several cells, none of which leads elsewhere. -/
def flat {α : Type} (n : Nat) (enc : α → List Value) (hl : ∀ x, (enc x).length = n) (h1 : ∀ x, ∀ u ∈ enc x, u.oneCell' = true) : Kd α where
  sz := n
  E := []
  K := fun _ x cs => cs = enc x
  M := fun _ _ _ x cs => cs = enc x
  K_len := fun h => by rw [h]; exact hl _
  K_one := fun h u hu => by rw [h] at hu; exact h1 _ u hu
  K_below := fun _ h => h
  K_of_M := fun h => h
  M_mono := fun _ h => h
  M_bound := fun h => h
  M_move := fun _ h => h
  M_lower := fun _ h => h
structure VarT where
  nm : ByteArray
  ty : Int
  i : Int
  u : Int
  tx : ByteArray
def VarT.cells (v : VarT) : List Value := [.string v.nm, .int .i64 v.ty, .int .i64 v.i, .int .u64 v.u, .string v.tx]
def kVar : Kd VarT := flat 5 VarT.cells (fun _ => rfl) (fun x u hu => by
  simp only [VarT.cells, List.mem_cons, List.not_mem_nil, or_false] at hu
  rcases hu with rfl | rfl | rfl | rfl | rfl <;> rfl)
theorem add_step (ad : Addr) (m k : Nat) (hk : k ≠ 0) : ad.add (m + k) = ⟨(ad.add m).block, (ad.add m).off + k, none⟩ := by
  rw [← add_add]
  generalize ad.add m = q
  simp [Go.Addr.add, hk]
/-- The cells of the variable at a place. -/
theorem var_at {w : World} {A : Option Addr} {vs : List VarT} (h : Kd.C kVar w A vs.length vs) (j : Nat) (hj : j < vs.length) : ∃ ad, A = some ad ∧
    w.cell? (ad.add (j * 5)) = some (.string vs[j].nm) ∧ w.cell? ⟨(ad.add (j * 5)).block, (ad.add (j * 5)).off + 1, none⟩ = some (.int .i64 vs[j].ty) ∧ w.cell? ⟨(ad.add (j * 5)).block, (ad.add (j * 5)).off + 2, none⟩ = some (.int .i64 vs[j].i) ∧ w.cell? ⟨(ad.add (j * 5)).block, (ad.add (j * 5)).off + 3, none⟩ = some (.int .u64 vs[j].u) ∧ w.cell? ⟨(ad.add (j * 5)).block, (ad.add (j * 5)).off + 4, none⟩ = some (.string vs[j].tx) := by
  obtain ⟨ad, e, hc⟩ := h.2.2 (by omega)
  obtain ⟨cs, hl, hk, hcell⟩ := hc j vs[j] (List.getElem?_eq_getElem hj)
  have hk' : cs = vs[j].cells := hk
  subst hk'
  have h0 := hcell 0 _ rfl
  have h1 := hcell 1 _ rfl
  have h2 := hcell 2 _ rfl
  have h3 := hcell 3 _ rfl
  have h4 := hcell 4 _ rfl
  rw [add_step _ _ _ (by decide)] at h1 h2 h3 h4
  exact ⟨ad, e, h0, h1, h2, h3, h4⟩
def fits1 (v : VarT) : Bool := decide (v.nm.size ≤ 2147483647 ∧ v.tx.size ≤ 2147483647)
set_option maxRecDepth 100000 in
set_option maxHeartbeats 4000000 in
theorem fits3_any (A : Option Addr) (c : Nat) (vs : List VarT) (w : World) (hC : Kd.C kVar w A vs.length vs) :
    Calls Tryd.prog 38 #[.slice A vs.length c] w fun e w' => e = .returned (.bool (decide (vs.length ≤ 2147483647 ∧ ∀ v ∈ vs, fits1 v = true))) ∧ Below w.heap.size w w' := by
  have HC := Lib.hid hC
  have hm := Kd.C_max hC
  clear hC
  by_cases hlen : vs.length ≤ 2147483647
  case neg =>
    have hd : decide (vs.length ≤ 2147483647 ∧ ∀ v ∈ vs, fits1 v = true) = false := decide_eq_false (fun h => hlen h.1)
    rw [hd]
    go_enter Tryd.func38, Tryd.ntmps38
    go_wp2
    go_ret
    exact ⟨rfl, Below.refl _ _⟩
  go_enter Tryd.func38, Tryd.ntmps38
  go_wp2
  go_loopg [4, 10] vs.length (fun k v4 v10 wr => ∃ j : Nat, v10 = .int .i64 j ∧ Hid (j ≤ vs.length ∧ k = vs.length - j ∧ (∀ v ∈ vs.take j, fits1 v = true) ∧ Below w.heap.size w wr))
  case atStart => exact ⟨0, rfl, Lib.hid ⟨Nat.zero_le _, rfl, by simp, Below.refl _ _⟩⟩
  case round =>
    obtain ⟨j, rfl, HJ⟩ := hrel
    obtain ⟨hj, hk, hall, hb⟩ := HJ.out
    clear HJ
    by_cases hjl : j < vs.length
    · obtain ⟨ad, rfl, q0, q1, q2, q3, q4⟩ := var_at (Kd.C_below HC.out hb) j hjl
      have HJ := Lib.hid (And.intro hk (And.intro hall hb))
      clear hk hall hb
      generalize hvj : vs[j] = vj at *
      have HV := Lib.hid hvj
      clear hvj
      go_wp2_with fail
      refine (fits1_any vj.nm vj.tx vj.ty vj.i vj.u _).mono ?_
      rintro e w2 ⟨rfl, hb2⟩
      have b1 := (Below.refl wr.heap.size wr).alloc (Nat.le_refl _) (varO vj.nm vj.ty vj.i vj.u vj.tx)
      have H2 := Lib.hid (below_step (below_step HJ.out.2.2 b1) hb2)
      clear b1 hb2 q0 q1 q2 q3 q4
      by_cases hf : vj.nm.size ≤ 2147483647 ∧ vj.tx.size ≤ 2147483647
      · have hd : decide (vj.nm.size ≤ 2147483647 ∧ vj.tx.size ≤ 2147483647) = true := decide_eq_true hf
        rw [hd]
        have HF := Lib.hid hd
        clear hd hf
        go_wp2
        go_roundg (vs.length - (j + 1))
        case measure =>
          have := HJ.out.1
          omega
        case rel => exact ⟨j + 1, by go_num, Lib.hid ⟨by omega, rfl, by
          intro v hv
          rw [List.take_succ_eq_append_getElem hjl] at hv
          rcases List.mem_append.1 hv with hv | hv
          · exact HJ.out.2.1 v hv
          · simp only [List.mem_singleton] at hv
            subst hv
            rw [HV.out]
            exact HF.out, H2.out⟩⟩
      · have hd : decide (vj.nm.size ≤ 2147483647 ∧ vj.tx.size ≤ 2147483647) = false := decide_eq_false hf
        rw [hd]
        have HF := Lib.hid hd
        clear hd hf
        go_wp2
        go_ret
        refine ⟨?_, H2.out⟩
        have hd2 : decide (vs.length ≤ 2147483647 ∧ ∀ v ∈ vs, fits1 v = true) = false := decide_eq_false (fun h => by
          have := h.2 vs[j] (List.getElem_mem hjl)
          rw [HV.out] at this
          have h2 := HF.out
          unfold fits1 at this
          rw [h2] at this
          cases this)
        rw [hd2]
        rfl
    · obtain rfl : j = vs.length := by omega
      rw [List.take_length] at hall
      have hd : decide (vs.length ≤ 2147483647 ∧ ∀ v ∈ vs, fits1 v = true) = true := decide_eq_true ⟨hlen, hall⟩
      have HD := Lib.hid hd
      clear hd hall hk
      go_wp2
      go_ret
      exact ⟨by rw [HD.out]; rfl, hb⟩
structure MsgT where
  ver : Int
  com : ByteArray
  kind : Int
  id : Int
  st : Int
  ix : Int
  ent : ByteArray
  ag : ByteArray
  gen : Int
  spc : Int
  tm : Int
/-- A message's cells: v its list. -/
abbrev MsgT.arr (m : MsgT) (v : Value) : Array Value := #[.int .i64 m.ver, .string m.com, .int .i64 m.kind, .int .u32 m.id, .int .i64 m.st, .int .i64 m.ix, v, .string m.ent, .string m.ag, .int .i64 m.gen, .int .i64 m.spc, .int .u64 m.tm]
abbrev msgO (m : MsgT) (v : Value) : Obj := .cells (m.arr v) 40 (0, 0)
def fits2 (m : MsgT) (vs : List VarT) : Bool := decide (m.com.size ≤ 2147483647) && (decide (vs.length ≤ 2147483647 ∧ ∀ v ∈ vs, fits1 v = true) && (decide (m.ent.size ≤ 2147483647) && decide (m.ag.size ≤ 2147483647)))
set_option maxRecDepth 100000 in
set_option maxHeartbeats 4000000 in
theorem fits2_any (m : MsgT) (A : Option Addr) (c : Nat) (vs : List VarT) (w : World) (hC : Kd.C kVar w A vs.length vs) :
    Calls Tryd.prog 14 #[.agg (m.arr (.slice A vs.length c))] w fun e w' => e = .returned (.bool (fits2 m vs)) ∧ Below w.heap.size w w' := by
  have hal := (Below.refl w.heap.size w).alloc (Nat.le_refl _) (msgO m (.slice A vs.length c))
  have hblk := blk_new w (msgO m (.slice A vs.length c))
  have HH := Lib.hid (And.intro (Kd.C_below hC hal) (And.intro hal hblk))
  clear hC hal hblk
  by_cases h1 : (2147483647 : Int) < m.com.size
  · have hf : fits2 m vs = false := by unfold fits2; rw [decide_eq_false (by omega)]; rfl
    go_enter Tryd.func14, Tryd.ntmps14
    go_wp2
    go_ret
    exact ⟨by rw [hf]; rfl, HH.out.2.1⟩
  go_enter Tryd.func14, Tryd.ntmps14
  go_wp2_with fail
  refine (fits3_any A c vs _ HH.out.1).mono ?_
  rintro e w1 ⟨rfl, hb1⟩
  have hb := below_step HH.out.2.1 hb1
  have hw := blk_below HH.out.2.2 hb1
  obtain ⟨f3, hf3⟩ : ∃ b, b = decide (vs.length ≤ 2147483647 ∧ ∀ v ∈ vs, fits1 v = true) := ⟨_, rfl⟩
  rw [← hf3]
  have k7 : w1.cell? ⟨w.heap.size, 7, none⟩ = some (.string m.ent) := (blk_cell hw 7).trans rfl
  have k8 : w1.cell? ⟨w.heap.size, 8, none⟩ = some (.string m.ag) := (blk_cell hw 8).trans rfl
  have HF := Lib.hid (show fits2 m vs = (f3 && (decide (m.ent.size ≤ 2147483647) && decide (m.ag.size ≤ 2147483647))) by unfold fits2; rw [decide_eq_true (by omega), ← hf3]; rfl)
  have HB := Lib.hid hb
  clear hb1 hb hw hf3 HH
  cases f3 with
  | false =>
    go_wp2
    go_ret
    exact ⟨by rw [HF.out]; rfl, HB.out⟩
  | true =>
  by_cases h2 : (2147483647 : Int) < m.ent.size
  · go_wp2
    go_ret
    exact ⟨by rw [HF.out, decide_eq_false (show ¬ m.ent.size ≤ 2147483647 by omega)]; rfl, HB.out⟩
  by_cases h3 : (2147483647 : Int) < m.ag.size
  · go_wp2
    go_ret
    exact ⟨by rw [HF.out, decide_eq_false (show ¬ m.ag.size ≤ 2147483647 by omega), Bool.and_false, Bool.and_false]; rfl, HB.out⟩
  go_wp2
  go_ret
  exact ⟨by rw [HF.out, decide_eq_true (show m.ent.size ≤ 2147483647 by omega), decide_eq_true (show m.ag.size ≤ 2147483647 by omega)]; rfl, HB.out⟩
end Go.Proofs.YtangjgclpipjdaaDoor
set_option linter.unusedVariables false
namespace Go.Proofs.YtangjgclpipjdaaDoor
open Go.RowKit Go.Proofs.YtangjgclpipjdaaDoorW.PrintWords Go.Proofs.YtangjgclpipjdaaDoorW.PrintLast Go.Proofs.YtangjgclpipjdaaDoorW.PrintMore
structure Ask where
  arcs : List Int
  c : List Int
  i : Int
  u : Int
  tx : List Int
/-- A variable that is asked, with what is asked of it. -/
def okQ (q : VarT × Ask) : Prop := Asked q.1.nm q.1.tx q.1.ty q.1.i q.1.u q.2.arcs q.2.c q.2.i q.2.u q.2.tx
def toldQ (q : VarT × Ask) : VarT := ⟨strOfNums (sDot q.2.arcs), q.1.ty, q.2.i, q.2.u, strOfNums q.2.tx⟩
def OwnV (w : World) (B : Nat) (v : Value) (xs : List VarT) : Prop := Kd.R kVar 24 w B (fun _ => True) v xs
structure MsgOk (m : MsgT) (n : Nat) : Prop where
  v0 : 0 ≤ m.ver
  v1 : m.ver ≤ 1
  com : m.com.size ≤ 127
  k0 : 160 ≤ m.kind
  k1 : m.kind ≤ 168
  k4 : m.kind ≠ 164
  s0 : 0 ≤ m.st
  s1 : m.st ≤ 127
  x0 : 0 ≤ m.ix
  x1 : m.ix ≤ 127
  n20 : n ≤ 20
  i1 : m.id ≤ 2147483647
  ent : m.ent = ⟨#[]⟩
  ag : m.ag = ⟨#[]⟩
  gen : m.gen = 0
  spc : m.spc = 0
  tm : m.tm = 0
abbrev zeroM : MsgT := ⟨0, ⟨#[]⟩, 0, 0, 0, 0, ⟨#[]⟩, ⟨#[]⟩, 0, 0, 0⟩
theorem infoMsg : (Tryd.prog.info? 40).map (·.size) = some 12 := by kernel_rfl
theorem results_cb {P : Program} {fn : Func} {p u : Tmp} {ty : TypeId} (h : fn.results = #[.cell p ty, .tmp u]) (tmps : Array Value) (w : World) (g : Nat) (t : TypeId) (cs : Array Value) (fr : Nat × Nat) (d : TypeDesc)
    (hp : tmps.getD p undef = .pointer (some ⟨g, 0, none⟩)) (hg : w.heap[g]? = some (.cells cs t fr))
    (hu : P.underlying ty = some d) (hd : (match d with | .struct _ | .array _ _ => true | _ => false) = true) (hi : (P.info? ty).map (·.size) = some cs.size) :
    (results fn tmps).run P w = .ok (.tuple #[.agg cs, tmps.getD u undef]) w := by
  have hp' : tmps[p]?.getD undef = .pointer (some ⟨g, 0, none⟩) := by simpa using hp
  simp [results, h, hp', asAddr, run_loadVar_row w g t ty cs fr d hg hu hd hi]
theorem msg_no {fn : Func} {p u : Tmp} (h : fn.results = #[.cell p 40, .tmp u]) {a : Act} {w : World} {o : Obj} (hp : a.tmps.getD p undef = .pointer (some ⟨w.heap.size + 1, 0, none⟩)) (hu : a.tmps.getD u undef = .bool false) (hd : a.defers = []) :
    bodyPost Tryd.prog fn (fun e w' => Below w.heap.size w w' ∧ e = .returned (.tuple #[.agg (zeroM.arr (.slice none 0 0)), .bool false])) .ret a ((w.alloc o).alloc (msgO zeroM (.slice none 0 0))) := by
  have hb := blk_new (w.alloc o) (msgO zeroM (.slice none 0 0))
  rw [show (w.alloc o).heap.size = w.heap.size + 1 by simp] at hb
  refine bodyPost_ret (results_cb h _ _ (w.heap.size + 1) 40 (zeroM.arr (.slice none 0 0)) (0, 0) _ hp hb Tryd.underlying40 rfl infoMsg) hd ⟨((Below.refl w.heap.size w).alloc (Nat.le_refl _) _).alloc (by simp) _, by rw [hu]⟩
theorem toList_len (b : ByteArray) (k : Nat) : ∀ (i : Nat) (r : List UInt8), b.size - i = k → (ByteArray.toList.loop b i r).length = r.length + k := by
  induction k with
  | zero =>
    intro i r h
    unfold ByteArray.toList.loop
    rw [if_neg (by omega)]
    simp
  | succ k ih =>
    intro i r h
    unfold ByteArray.toList.loop
    rw [if_pos (by omega), ih (i + 1) _ (by omega)]
    simp
    omega
theorem toList_nil {b : ByteArray} (h : b.toList = []) : b = ⟨#[]⟩ := by
  have h2 := toList_len b b.size 0 [] (by omega)
  have h3 : (ByteArray.toList.loop b 0 []).length = 0 := by
    have : ByteArray.toList.loop b 0 [] = [] := h
    rw [this]; rfl
  have h4 : b.size = 0 := by simp at h2; omega
  obtain ⟨⟨l⟩⟩ := b
  have h5 : l.length = 0 := h4
  rw [List.eq_nil_of_length_eq_zero h5]
end Go.Proofs.YtangjgclpipjdaaDoor
set_option linter.unusedVariables false
namespace Go.Proofs.YtangjgclpipjdaaDoor
open Go.RowKit Go.Proofs.YtangjgclpipjdaaDoorW.PrintWords Go.Proofs.YtangjgclpipjdaaDoorW.PrintLast Go.Proofs.YtangjgclpipjdaaDoorW.PrintMore
theorem sealed_len (t : Int) (c : List Int) (wide : Nat) : c.length + 2 ≤ (sSealed t c wide).length ∧ (sSealed t c wide).length ≤ c.length + wide + 6 := by
  have h := sLen_len c.length wide
  have h1 : 1 ≤ (sLen c.length wide).length := by unfold sLen; split <;> simp
  simp only [sSealed, List.length_cons, List.length_append]
  omega
end Go.Proofs.YtangjgclpipjdaaDoor
set_option linter.unusedVariables false
namespace Go.Proofs.YtangjgclpipjdaaDoor
open Go.RowKit Go.Proofs.YtangjgclpipjdaaDoorW.PrintWords Go.Proofs.YtangjgclpipjdaaDoorW.PrintLast Go.Proofs.YtangjgclpipjdaaDoorW.PrintMore
/-- A variable that is read: arcs, type, number, number without a sign, text. -/
abbrev VarP := List Int × Int × Int × Int × List Int
def VarP.t (v : VarP) : VarT := ⟨strOfNums (sDot v.1), v.2.1, v.2.2.1, v.2.2.2.1, strOfNums v.2.2.2.2⟩
def sVars : Nat → List Int → Option (List VarP)
  | _, [] => some []
  | 0, _ :: _ => none
  | n + 1, x :: l => match sOfVar (x :: l) with
    | none => none
    | some (v, rest) => (sVars n rest).map (fun vs => v :: vs)
def sNum (b : List Int) : Option (Int × List Int) := match sNext b 2 with
  | none => none
  | some (c, rest) => if 1 ≤ c.length ∧ c.length ≤ 8 then some (sVal c, rest) else none
structure MsgP where
  ver : Int
  com : List Int
  kind : Int
  id : Int
  st : Int
  ix : Int
  vars : List VarP
/-- What stands behind the list's tag and length. -/
def sMsg8 (ver : Int) (com : List Int) (kind id st ix : Int) : Option (List Int × List Int) → Option MsgP
  | none => none
  | some (list, left) => if left.length = 0 then (sVars list.length list).map (fun vs => ⟨ver, com, kind, id, st, ix, vs⟩) else none
def sMsg7 (ver : Int) (com : List Int) (kind id st : Int) : Option (Int × List Int) → Option MsgP
  | none => none
  | some (ix, b) => sMsg8 ver com kind id st ix (sNext b 48)
def sMsg6 (ver : Int) (com : List Int) (kind id : Int) : Option (Int × List Int) → Option MsgP
  | none => none
  | some (st, b) => sMsg7 ver com kind id st (sNum b)
def sMsg5 (ver : Int) (com : List Int) (kind : Int) : Option (Int × List Int) → Option MsgP
  | none => none
  | some (id, b) => if 0 ≤ id ∧ id < 2147483648 then sMsg6 ver com kind id (sNum b) else none
def sMsg4 (ver : Int) (com : List Int) : Option (Int × List Int × List Int) → Option MsgP
  | none => none
  | some (kind, body, left) => if left.length = 0 then sMsg5 ver com kind (sNum body) else none
def sMsg3 (ver : Int) : Option (List Int × List Int) → Option MsgP
  | none => none
  | some (com, b) => sMsg4 ver com (sOpen b)
def sMsg2 : Option (Int × List Int) → Option MsgP
  | none => none
  | some (ver, b) => sMsg3 ver (sNext b 4)
def sMsg1 : Option (List Int × List Int) → Option MsgP
  | none => none
  | some (b, left) => if left.length = 0 then sMsg2 (sNum b) else none
/-- The reference's OfMessage. -/
def sMsg (b : List Int) : Option MsgP := sMsg1 (sNext b 48)
/-- A message's bytes, of its parts. -/
def gBody (id st ix : Int) (list : List Int) (wide : Nat) : List Int := sSealed 2 (mInt32 id) wide ++ (sSealed 2 (mInt32 st) wide ++ (sSealed 2 (mInt32 ix) wide ++ sSealed 48 list wide))
def gMsg (ver : Int) (com : List Int) (kind id st ix : Int) (list : List Int) (wide : Nat) : List Int := sSealed 48 (sSealed 2 (mInt32 ver) wide ++ (sSealed 4 com wide ++ sSealed kind (gBody id st ix list wide) wide)) wide
theorem lenBytes_two (n : Nat) (h : n ≤ 65535) : (lenBytes n).length ≤ 2 := by
  unfold lenBytes
  split <;> (try split) <;> (try split) <;> (try split) <;> simp <;> omega
theorem sNum_sealed (n : Int) (rest : List Int) (wide : Nat) (hw : wide ≤ 2) (h0 : -2147483648 ≤ n) (h1 : n ≤ 2147483647) : sNum (sSealed 2 (mInt32 n) wide ++ rest) = some (n, rest) := by
  have hl := mInt32_len n
  unfold sNum
  rw [sNext_sealed 2 _ rest wide (by omega) (by omega) (by omega) (by omega) (by have := lenBytes_two (mInt32 n).length (by omega); omega)]
  simp only
  rw [if_pos (by omega), sVal_mInt32 n h0 h1]
theorem gBody_len (id st ix : Int) (list : List Int) (wide : Nat) : (gBody id st ix list wide).length ≤ list.length + 4 * wide + 36 := by
  have a := (sealed_len 2 (mInt32 id) wide).2
  have b := (sealed_len 2 (mInt32 st) wide).2
  have c := (sealed_len 2 (mInt32 ix) wide).2
  have d := (sealed_len 48 list wide).2
  have := (mInt32_len id).2
  have := (mInt32_len st).2
  have := (mInt32_len ix).2
  unfold gBody
  simp only [List.length_append]
  omega
theorem sMsg_gMsg (ver : Int) (com : List Int) (kind id st ix : Int) (list : List Int) (wide : Nat) (hw : wide ≤ 2) (v0 : 0 ≤ ver) (v1 : ver ≤ 127) (hcom : com.length ≤ 127) (k0 : 0 ≤ kind) (k1 : kind ≤ 255) (i0 : 0 ≤ id) (i1 : id ≤ 2147483647) (s0 : 0 ≤ st) (s1 : st ≤ 127) (x0 : 0 ≤ ix) (x1 : ix ≤ 127) (hl : list.length ≤ 60000)
    (vs : List VarP) (hv : sVars list.length list = some vs) : sMsg (gMsg ver com kind id st ix list wide) = some ⟨ver, com, kind, id, st, ix, vs⟩ := by
  have hb := gBody_len id st ix list wide
  have a := (sealed_len 2 (mInt32 ver) wide).2
  have b := (sealed_len 4 com wide).2
  have c := (sealed_len kind (gBody id st ix list wide) wide).2
  have := (mInt32_len ver).2
  have e1 := sNext_sealed 48 (sSealed 2 (mInt32 ver) wide ++ (sSealed 4 com wide ++ sSealed kind (gBody id st ix list wide) wide)) [] wide (by omega) (by omega) (by simp only [List.length_append]; omega) (by omega) (by have := lenBytes_two (sSealed 2 (mInt32 ver) wide ++ (sSealed 4 com wide ++ sSealed kind (gBody id st ix list wide) wide)).length (by simp only [List.length_append]; omega); omega)
  have e4 := sOpen_sealed kind (gBody id st ix list wide) [] wide k0 k1 (by omega) (by omega) (by have := lenBytes_two (gBody id st ix list wide).length (by omega); omega)
  have e8 := sNext_sealed 48 list [] wide (by omega) (by omega) (by omega) (by omega) (by have := lenBytes_two list.length (by omega); omega)
  rw [List.append_nil] at e1 e4 e8
  unfold sMsg gMsg
  rw [e1]
  simp only [sMsg1, List.length_nil, if_true]
  rw [sNum_sealed ver _ wide hw (by omega) (by omega)]
  simp only [sMsg2]
  rw [sNext_sealed 4 com _ wide (by omega) (by omega) (by omega) (by omega) (by have := lenBytes_two com.length (by omega); omega)]
  simp only [sMsg3]
  rw [e4]
  simp only [sMsg4, List.length_nil, if_true]
  unfold gBody
  rw [sNum_sealed id _ wide hw (by omega) (by omega)]
  simp only [sMsg5]
  rw [if_pos (by omega), sNum_sealed st _ wide hw (by omega) (by omega)]
  simp only [sMsg6]
  rw [sNum_sealed ix _ wide hw (by omega) (by omega)]
  simp only [sMsg7]
  rw [e8]
  simp only [sMsg8, List.length_nil, if_true]
  rw [hv]
  rfl
theorem ty_byteQ {ty i u : Int} {tx c : List Int} {i' u' : Int} {tx' : List Int} (h : Cont ty i u tx c i' u' tx') : 0 ≤ ty ∧ ty ≤ 255 := by
  cases h <;> omega
theorem sOfVar_askedW {nm tx : ByteArray} {ty i u : Int} {arcs c : List Int} {i' u' : Int} {tx' : List Int} (h : Asked nm tx ty i u arcs c i' u' tx') (u0 : 0 ≤ u) (u1 : u ≤ 18446744073709551615) (wide : Nat) (hw : wide ≤ 2) (rest : List Int) : sOfVar (sVar arcs ty c wide ++ rest) = some ((arcs, ty, i', u', tx'), rest) := by
  obtain ⟨t0, t1⟩ := ty_byteQ h.cont
  have hl := h.cont.len
  have hn := (sArcs_text _ _ h.name).2.1
  have a := (sealed_len 6 (sName arcs) wide).2
  have b := (sealed_len ty c wide).2
  have o := sOpen_sealed ty c [] wide t0 t1 (by omega) (by omega) (by have := lenBytes_two c.length (by omega); omega)
  rw [List.append_nil] at o
  unfold sOfVar sVar
  rw [sNext_sealed 48 _ rest wide (by omega) (by omega) (by simp; omega) (by omega) (by have := lenBytes_two (sSealed 6 (sName arcs) wide ++ sSealed ty c wide).length (by simp; omega); omega)]
  simp only
  rw [sNext_sealed 6 _ _ wide (by omega) (by omega) (by omega) (by omega) (by have := lenBytes_two (sName arcs).length (by omega); omega)]
  simp only
  rw [o]
  simp only
  rw [sOf_asked h.name, h.cont.sTold u0 u1]
  simp [tellVar]
def partQ (q : VarT × Ask) : VarP := (q.2.arcs, q.1.ty, q.2.i, q.2.u, q.2.tx)
def bytesQ (wide : Nat) (q : VarT × Ask) : List Int := sVar q.2.arcs q.1.ty q.2.c wide
theorem bytesQ_cons (wide : Nat) (q : VarT × Ask) : ∃ x l, bytesQ wide q = x :: l := ⟨_, _, rfl⟩
theorem sVars_bytes (wide : Nat) (hw : wide ≤ 2) : ∀ (qs : List (VarT × Ask)) (n : Nat), (∀ q ∈ qs, okQ q) → (∀ q ∈ qs, 0 ≤ q.1.u ∧ q.1.u ≤ 18446744073709551615) → (qs.map (bytesQ wide)).flatten.length ≤ n → sVars n (qs.map (bytesQ wide)).flatten = some (qs.map partQ)
  | [], n, _, _, _ => by cases n <;> rfl
  | q :: qs, n, h, hu, hn => by
    have hv := sOfVar_askedW (h q (by simp)) (hu q (by simp)).1 (hu q (by simp)).2 wide hw (qs.map (bytesQ wide)).flatten
    have e : ((q :: qs).map (bytesQ wide)).flatten = bytesQ wide q ++ (qs.map (bytesQ wide)).flatten := by simp
    rw [e] at hn ⊢
    obtain ⟨x, l, hx⟩ := bytesQ_cons wide q
    change sOfVar (bytesQ wide q ++ _) = _ at hv
    rw [hx] at hv hn ⊢
    rw [List.cons_append] at hv hn ⊢
    cases n with
    | zero => simp at hn
    | succ n =>
      simp only [sVars]
      rw [hv]
      simp only
      rw [sVars_bytes wide hw qs n (fun y hy => h y (by simp [hy])) (fun y hy => hu y (by simp [hy])) (by simp only [List.length_cons, List.length_append] at hn; omega)]
      rfl
theorem sOfVar_rest {b rest : List Int} {v : VarP} (ho : sOfVar b = some (v, rest)) (hb : IsB b) : rest.length + 2 ≤ b.length ∧ IsB rest := by
  unfold sOfVar at ho
  rcases h1 : sNext b 48 with _ | ⟨inn, r⟩
  · rw [h1] at ho; simp at ho
  rw [h1] at ho
  simp only at ho
  have hr : r = rest := by
    rcases h2 : sNext inn 6 with _ | ⟨nm, in2⟩
    · rw [h2] at ho; simp at ho
    rw [h2] at ho
    simp only at ho
    rcases h3 : sOpen in2 with _ | ⟨tag, c, left⟩
    · rw [h3] at ho; simp at ho
    rw [h3] at ho
    simp only at ho
    split at ho
    · rcases h4 : sTold tag c with _ | ⟨i, u, tx⟩
      · rw [h4] at ho; simp [tellVar] at ho
      · rw [h4] at ho
        simp only [tellVar, Option.some.injEq, Prod.mk.injEq] at ho
        exact ho.2
    · simp at ho
  subst hr
  unfold sNext at h1
  rcases h2 : sOpen b with _ | ⟨t, c, r'⟩
  · rw [h2] at h1; simp at h1
  rw [h2] at h1
  simp only at h1
  split at h1
  · simp only [Option.some.injEq, Prod.mk.injEq] at h1
    obtain ⟨rfl, rfl⟩ := h1
    exact ⟨by have := sOpen_len hb h2; omega, (sOpen_isB hb h2).2.1⟩
  · simp at h1
theorem sVars_more (n : Nat) : ∀ (b : List Int) (m : Nat), b.length ≤ n → b.length ≤ m → IsB b → sVars n b = sVars m b := by
  induction n with
  | zero =>
    intro b m h _ _
    obtain rfl := List.eq_nil_of_length_eq_zero (Nat.le_zero.1 h)
    cases m <;> rfl
  | succ n ih =>
    intro b m h hm hb
    rcases b with _ | ⟨x, l⟩
    · cases m <;> rfl
    rcases m with _ | m
    · simp at hm
    simp only [sVars]
    rcases ho : sOfVar (x :: l) with _ | ⟨v, rest⟩
    · rfl
    · simp only
      obtain ⟨h1, h2⟩ := sOfVar_rest ho hb
      simp only [List.length_cons] at h h1 hm
      rw [ih rest m (by omega) (by omega) h2]
theorem sVars_none {z : List Int} (h0 : z.length ≠ 0) (h : sOfVar z = none) : sVars z.length z = none := by
  cases z with
  | nil => simp at h0
  | cons x l =>
    simp only [List.length_cons, sVars]
    rw [h]
theorem sVars_step {z rest : List Int} {v : VarP} (hb : IsB z) (h : sOfVar z = some (v, rest)) : sVars z.length z = (sVars rest.length rest).map (fun r => v :: r) ∧ rest.length + 2 ≤ z.length ∧ IsB rest := by
  obtain ⟨h1, h2⟩ := sOfVar_rest h hb
  refine ⟨?_, h1, h2⟩
  cases z with
  | nil => simp at h1
  | cons x l =>
    simp only [List.length_cons, sVars] at *
    rw [h]
    simp only
    rw [sVars_more l.length rest rest.length (by omega) (Nat.le_refl _) h2]
end Go.Proofs.YtangjgclpipjdaaDoor
set_option linter.unusedVariables false
namespace Go.Proofs.YtangjgclpipjdaaDoor
open Go.RowKit Go.Proofs.YtangjgclpipjdaaDoorW.PrintWords Go.Proofs.YtangjgclpipjdaaDoorW.PrintLast Go.Proofs.YtangjgclpipjdaaDoorW.PrintMore
theorem msg_cells {W : World} {g : Nat} {m : MsgT} {v : Value} (h : W.heap[g]? = some (msgO m v)) : W.cell? ⟨g, 0, none⟩ = some (.int .i64 m.ver) ∧ W.cell? ⟨g, 1, none⟩ = some (.string m.com) ∧ W.cell? ⟨g, 2, none⟩ = some (.int .i64 m.kind) ∧ W.cell? ⟨g, 3, none⟩ = some (.int .u32 m.id) ∧ W.cell? ⟨g, 4, none⟩ = some (.int .i64 m.st) ∧ W.cell? ⟨g, 5, none⟩ = some (.int .i64 m.ix) ∧ W.cell? ⟨g, 6, none⟩ = some (v) ∧ W.cell? ⟨g, 7, none⟩ = some (.string m.ent) ∧ W.cell? ⟨g, 8, none⟩ = some (.string m.ag) ∧ W.cell? ⟨g, 9, none⟩ = some (.int .i64 m.gen) ∧ W.cell? ⟨g, 10, none⟩ = some (.int .i64 m.spc) ∧ W.cell? ⟨g, 11, none⟩ = some (.int .u64 m.tm) :=
  ⟨(blk_cell h 0).trans rfl, (blk_cell h 1).trans rfl, (blk_cell h 2).trans rfl, (blk_cell h 3).trans rfl, (blk_cell h 4).trans rfl, (blk_cell h 5).trans rfl, (blk_cell h 6).trans rfl, (blk_cell h 7).trans rfl, (blk_cell h 8).trans rfl, (blk_cell h 9).trans rfl, (blk_cell h 10).trans rfl, (blk_cell h 11).trans rfl⟩
/-- A message stored into a block of one. -/
abbrev setMsg (W : World) (g : Nat) (m : MsgT) (v : Value) : World := ((((((((((((W.setCell ⟨g, 0, none⟩ (.int .i64 m.ver)).setCell ⟨g, 1, none⟩ (.string m.com)).setCell ⟨g, 2, none⟩ (.int .i64 m.kind)).setCell ⟨g, 3, none⟩ (.int .u32 m.id)).setCell ⟨g, 4, none⟩ (.int .i64 m.st)).setCell ⟨g, 5, none⟩ (.int .i64 m.ix)).setCell ⟨g, 6, none⟩ (v)).setCell ⟨g, 7, none⟩ (.string m.ent)).setCell ⟨g, 8, none⟩ (.string m.ag)).setCell ⟨g, 9, none⟩ (.int .i64 m.gen)).setCell ⟨g, 10, none⟩ (.int .i64 m.spc)).setCell ⟨g, 11, none⟩ (.int .u64 m.tm))
theorem setMsg_new {W : World} {g : Nat} {m' : MsgT} {v' : Value} (c : W.heap[g]? = some (msgO m' v')) (m : MsgT) (v : Value) : (setMsg W g m v).heap[g]? = some (msgO m v) := by
  have g0 := blk_put (cs' := #[.int .i64 m.ver, .string m'.com, .int .i64 m'.kind, .int .u32 m'.id, .int .i64 m'.st, .int .i64 m'.ix, v', .string m'.ent, .string m'.ag, .int .i64 m'.gen, .int .i64 m'.spc, .int .u64 m'.tm]) c 0 (.int .i64 m.ver) rfl
  have g1 := blk_put (cs' := #[.int .i64 m.ver, .string m.com, .int .i64 m'.kind, .int .u32 m'.id, .int .i64 m'.st, .int .i64 m'.ix, v', .string m'.ent, .string m'.ag, .int .i64 m'.gen, .int .i64 m'.spc, .int .u64 m'.tm]) g0 1 (.string m.com) rfl
  have g2 := blk_put (cs' := #[.int .i64 m.ver, .string m.com, .int .i64 m.kind, .int .u32 m'.id, .int .i64 m'.st, .int .i64 m'.ix, v', .string m'.ent, .string m'.ag, .int .i64 m'.gen, .int .i64 m'.spc, .int .u64 m'.tm]) g1 2 (.int .i64 m.kind) rfl
  have g3 := blk_put (cs' := #[.int .i64 m.ver, .string m.com, .int .i64 m.kind, .int .u32 m.id, .int .i64 m'.st, .int .i64 m'.ix, v', .string m'.ent, .string m'.ag, .int .i64 m'.gen, .int .i64 m'.spc, .int .u64 m'.tm]) g2 3 (.int .u32 m.id) rfl
  have g4 := blk_put (cs' := #[.int .i64 m.ver, .string m.com, .int .i64 m.kind, .int .u32 m.id, .int .i64 m.st, .int .i64 m'.ix, v', .string m'.ent, .string m'.ag, .int .i64 m'.gen, .int .i64 m'.spc, .int .u64 m'.tm]) g3 4 (.int .i64 m.st) rfl
  have g5 := blk_put (cs' := #[.int .i64 m.ver, .string m.com, .int .i64 m.kind, .int .u32 m.id, .int .i64 m.st, .int .i64 m.ix, v', .string m'.ent, .string m'.ag, .int .i64 m'.gen, .int .i64 m'.spc, .int .u64 m'.tm]) g4 5 (.int .i64 m.ix) rfl
  have g6 := blk_put (cs' := #[.int .i64 m.ver, .string m.com, .int .i64 m.kind, .int .u32 m.id, .int .i64 m.st, .int .i64 m.ix, v, .string m'.ent, .string m'.ag, .int .i64 m'.gen, .int .i64 m'.spc, .int .u64 m'.tm]) g5 6 (v) rfl
  have g7 := blk_put (cs' := #[.int .i64 m.ver, .string m.com, .int .i64 m.kind, .int .u32 m.id, .int .i64 m.st, .int .i64 m.ix, v, .string m.ent, .string m'.ag, .int .i64 m'.gen, .int .i64 m'.spc, .int .u64 m'.tm]) g6 7 (.string m.ent) rfl
  have g8 := blk_put (cs' := #[.int .i64 m.ver, .string m.com, .int .i64 m.kind, .int .u32 m.id, .int .i64 m.st, .int .i64 m.ix, v, .string m.ent, .string m.ag, .int .i64 m'.gen, .int .i64 m'.spc, .int .u64 m'.tm]) g7 8 (.string m.ag) rfl
  have g9 := blk_put (cs' := #[.int .i64 m.ver, .string m.com, .int .i64 m.kind, .int .u32 m.id, .int .i64 m.st, .int .i64 m.ix, v, .string m.ent, .string m.ag, .int .i64 m.gen, .int .i64 m'.spc, .int .u64 m'.tm]) g8 9 (.int .i64 m.gen) rfl
  have g10 := blk_put (cs' := #[.int .i64 m.ver, .string m.com, .int .i64 m.kind, .int .u32 m.id, .int .i64 m.st, .int .i64 m.ix, v, .string m.ent, .string m.ag, .int .i64 m.gen, .int .i64 m.spc, .int .u64 m'.tm]) g9 10 (.int .i64 m.spc) rfl
  have g11 := blk_put (cs' := #[.int .i64 m.ver, .string m.com, .int .i64 m.kind, .int .u32 m.id, .int .i64 m.st, .int .i64 m.ix, v, .string m.ent, .string m.ag, .int .i64 m.gen, .int .i64 m.spc, .int .u64 m.tm]) g10 11 (.int .u64 m.tm) rfl
  exact g11
theorem setMsg_below {W0 W : World} {g : Nat} (h : Below W0.heap.size W0 W) (hg : W0.heap.size ≤ g) (m : MsgT) (v : Value) : Below W0.heap.size W0 (setMsg W g m v) :=
  (below_set (below_set (below_set (below_set (below_set (below_set (below_set (below_set (below_set (below_set (below_set (below_set h hg) hg) hg) hg) hg) hg) hg) hg) hg) hg) hg) hg)
theorem setMsg_far {W : World} {g k : Nat} {o : Obj} (ho : W.heap[k]? = some o) (hk : k ≠ g) (m : MsgT) (v : Value) : (setMsg W g m v).heap[k]? = some o := by
  unfold setMsg
  rw [Below.heap_setCell _ _ _ _ (by exact hk)]
  rw [Below.heap_setCell _ _ _ _ (by exact hk)]
  rw [Below.heap_setCell _ _ _ _ (by exact hk)]
  rw [Below.heap_setCell _ _ _ _ (by exact hk)]
  rw [Below.heap_setCell _ _ _ _ (by exact hk)]
  rw [Below.heap_setCell _ _ _ _ (by exact hk)]
  rw [Below.heap_setCell _ _ _ _ (by exact hk)]
  rw [Below.heap_setCell _ _ _ _ (by exact hk)]
  rw [Below.heap_setCell _ _ _ _ (by exact hk)]
  rw [Below.heap_setCell _ _ _ _ (by exact hk)]
  rw [Below.heap_setCell _ _ _ _ (by exact hk)]
  rw [Below.heap_setCell _ _ _ _ (by exact hk)]
  exact ho
end Go.Proofs.YtangjgclpipjdaaDoor
set_option linter.unusedVariables false
namespace Go.Proofs.YtangjgclpipjdaaDoor
open Go.RowKit Go.Proofs.YtangjgclpipjdaaDoorW.PrintWords Go.Proofs.YtangjgclpipjdaaDoorW.PrintLast Go.Proofs.YtangjgclpipjdaaDoorW.PrintMore
structure VarOk (v : VarT) : Prop where
  i0 : -9223372036854775808 ≤ v.i
  i1 : v.i ≤ 9223372036854775807
  u0 : 0 ≤ v.u
  u1 : v.u ≤ 18446744073709551615
  n : v.nm.size ≤ 2147483647
  t : v.tx.size ≤ 2147483647
theorem infoVz : (Tryd.prog.info? 24).map (fun i => (i.zero, i.size, i.bytes)) = some (some (varV ⟨#[]⟩ 0 0 0 ⟨#[]⟩), 5, 56) := by kernel_rfl
/-- append(list, v): a list of the call's own. -/
theorem app_var {W : World} {ops : Array Oper} {rest : List Oper} {o : Oper} {a : Act} {Q : Exit → Act → World → Prop} (hgd : o.guard = none) (s x : Operand)
    (ho : o.op = .call { callee := .builtin .append, args := #[s, x], argTypes := #[37, 37] }) (B : Nat) (v : Value) (xs : List VarT) (p : VarT) (hs : a.eval s = v) {n : Nat} (hx : a.eval x = .slice (some ⟨n, 0, none⟩) 1 1) (hn : n = W.heap.size) (HO : OwnV W B v xs) (hB : B ≤ W.heap.size) (hl : xs.length ≤ 1000000)
    (h : ∀ v1 w1, OwnV w1 B v1 (xs ++ [p]) → W.grownBy w1 v.ownBlock → (v1.ownBlock = v.ownBlock ∨ ∃ b, v1.ownBlock = some b ∧ W.heap.size ≤ b) → wpList Tryd.prog ops Q rest (a.put o.dst v1) w1) :
    wpList Tryd.prog ops Q (o :: rest) a (W.alloc (.cells p.cells.toArray 24)) :=
  Kd.R_append kVar (w0 := W) B hgd s x 37 24 (varV ⟨#[]⟩ 0 0 0 ⟨#[]⟩) 56 ho Tryd.underlying37 infoVz rfl (by decide) (by decide) v xs p p.cells (fun _ => True) (fun _ => False) hs (hn ▸ hx) rfl (fun _ h => h.elim) (fun _ _ => trivial) HO (Below.refl _ _) hB (by omega) (fun v1 w1 h1 _ hg hat => h v1 w1 h1 hg hat)
theorem OwnV.block {w : World} {B : Nat} {v : Value} {xs : List VarT} (h : OwnV w B v xs) (k : Nat) (hk : v.ownBlock = some k) : B ≤ k := Kd.R_base h k hk
theorem OwnV.below {w w1 : World} {B : Nat} {v : Value} {xs : List VarT} (h : OwnV w B v xs) (hb : Below w.heap.size w w1) : OwnV w1 B v xs := Kd.R_below h hb
theorem OwnV.nil (w : World) (B : Nat) : OwnV w B (.slice none 0 0) [] := Kd.R_nil kVar _ _ _ _
theorem OwnV.move {w w1 : World} {B : Nat} {v : Value} {xs : List VarT} (h : OwnV w B v xs) (hm : ∀ k, v.ownBlock = some k → w1.heap[k]? = w.heap[k]?) : OwnV w1 B v xs := by
  obtain ⟨h0, inner, ho, hr⟩ := h
  exact ⟨h0, inner, own_move ho hm, hr⟩
theorem OwnV.setMsg {w : World} {B : Nat} {v : Value} {xs : List VarT} (h : OwnV w B v xs) (g : Nat) (hg : g < B) (m : MsgT) (u : Value) : OwnV (setMsg w g m u) B v xs :=
  h.move (fun k hk => by
    obtain ⟨cells, hc⟩ := own_typed h.2.choose_spec.1 k hk
    rw [hc]
    exact setMsg_far hc (by have := h.block k hk; omega) m u)
theorem msg_ret {fn : Func} {p u : Tmp} (h : fn.results = #[.cell p 40, .tmp u]) {R : Ending → World → Prop} {a : Act} {W : World} {g : Nat} {m m' : MsgT} {v v' : Value} (hp : a.tmps.getD p undef = .pointer (some ⟨g, 0, none⟩)) (hd : a.defers = []) (hr : W.heap[g]? = some (msgO m' v'))
    (hR : R (.returned (.tuple #[.agg (m.arr v), a.tmps.getD u undef])) (setMsg W g m v)) : bodyPost Tryd.prog fn R .ret a (setMsg W g m v) :=
  bodyPost_ret (results_cb h _ _ g 40 (m.arr v) (0, 0) _ hp (setMsg_new hr m v) Tryd.underlying40 rfl infoMsg) hd hR
theorem msg_ret2 {fn : Func} {p u : Tmp} (h : fn.results = #[.cell p 40, .tmp u]) {R : Ending → World → Prop} {a : Act} {W : World} {g : Nat} {m m' : MsgT} {v v' : Value} {o : Obj} (hp : a.tmps.getD p undef = .pointer (some ⟨g, 0, none⟩)) (hd : a.defers = []) (hr : W.heap[g]? = some (msgO m' v'))
    (hR : R (.returned (.tuple #[.agg (m.arr v), a.tmps.getD u undef])) ((setMsg W g m v).alloc o)) : bodyPost Tryd.prog fn R .ret a ((setMsg W g m v).alloc o) :=
  bodyPost_ret (results_cb h _ _ g 40 (m.arr v) (0, 0) _ hp (blk_alloc (setMsg_new hr m v) o) Tryd.underlying40 rfl infoMsg) hd hR
theorem grown_blk {w w1 : World} {row : Option Nat} {k : Nat} {o : Obj} (hg : w.grownBy w1 row) (h : w.heap[k]? = some o) (hk : ∀ b, row = some b → b ≠ k) : w1.heap[k]? = some o :=
  (hg.block k (blk_lt h) (fun e => hk k e.symm rfl)).trans h
def GotTold (m : MsgT) (vs : List VarT) (w w' : World) (e : Ending) : Prop := Below w.heap.size w w' ∧ (e = .returned (.tuple #[.agg (zeroM.arr (.slice none 0 0)), .bool false]) ∨
  ∃ (qs : List (VarT × Ask)) (v : Value), vs = qs.map (·.1) ∧ (∀ q ∈ qs, okQ q) ∧ e = .returned (.tuple #[.agg (m.arr v), .bool true]) ∧ OwnV w' w.heap.size v (qs.map toldQ))
set_option maxRecDepth 100000 in
set_option maxHeartbeats 8000000 in
theorem told2_ok (m : MsgT) (A : Option Addr) (c : Nat) (vs : List VarT) (hok : MsgOk m vs.length) (i0 : 0 ≤ m.id) (hv : ∀ v ∈ vs, VarOk v) (w : World) (hC : Kd.C kVar w A vs.length vs) :
    Calls Tryd.prog 15 #[.agg (m.arr (.slice A vs.length c))] w fun e w' => GotTold m vs w w' e := by
  obtain ⟨ver, com, kind, id, st, ix, ent, ag, gen, spc, tm⟩ := m
  obtain ⟨v0, v1, hcom, k0, k1, k4, s0, s1, x0, x1, n20, i1, hent, hag, hgen, hspc, htm⟩ := hok
  simp only at v0 v1 hcom k0 k1 k4 s0 s1 x0 x1 i1 hent hag hgen hspc htm i0
  subst hent hag hgen hspc htm
  have k4' : (kind == 164) = false := beq_eq_false_iff_ne.2 k4
  have HC := Lib.hid (And.intro hC hv)
  clear hC hv
  go_enter Tryd.func15, Tryd.ntmps15
  go_wp2_with fail
  have hb3 := (((Below.refl w.heap.size w).alloc (Nat.le_refl _) (msgO (⟨ver, com, kind, id, st, ix, ⟨#[]⟩, ⟨#[]⟩, 0, 0, 0⟩ : MsgT) (.slice A vs.length c))).alloc (by simp) (msgO zeroM (.slice none 0 0))).alloc (by simp; omega) (msgO (⟨ver, com, kind, id, st, ix, ⟨#[]⟩, ⟨#[]⟩, 0, 0, 0⟩ : MsgT) (.slice none 0 0))
  have hres := blk_alloc (blk_new (w.alloc (msgO (⟨ver, com, kind, id, st, ix, ⟨#[]⟩, ⟨#[]⟩, 0, 0, 0⟩ : MsgT) (.slice A vs.length c))) (msgO zeroM (.slice none 0 0))) (msgO (⟨ver, com, kind, id, st, ix, ⟨#[]⟩, ⟨#[]⟩, 0, 0, 0⟩ : MsgT) (.slice none 0 0))
  rw [show (w.alloc (msgO (⟨ver, com, kind, id, st, ix, ⟨#[]⟩, ⟨#[]⟩, 0, 0, 0⟩ : MsgT) (.slice A vs.length c))).heap.size = w.heap.size + 1 by simp] at hres
  have hout := blk_new ((w.alloc (msgO (⟨ver, com, kind, id, st, ix, ⟨#[]⟩, ⟨#[]⟩, 0, 0, 0⟩ : MsgT) (.slice A vs.length c))).alloc (msgO zeroM (.slice none 0 0))) (msgO (⟨ver, com, kind, id, st, ix, ⟨#[]⟩, ⟨#[]⟩, 0, 0, 0⟩ : MsgT) (.slice none 0 0))
  rw [show ((w.alloc (msgO (⟨ver, com, kind, id, st, ix, ⟨#[]⟩, ⟨#[]⟩, 0, 0, 0⟩ : MsgT) (.slice A vs.length c))).alloc (msgO zeroM (.slice none 0 0))).heap.size = w.heap.size + 1 + 1 by simp] at hout
  generalize (((w.alloc (msgO (⟨ver, com, kind, id, st, ix, ⟨#[]⟩, ⟨#[]⟩, 0, 0, 0⟩ : MsgT) (.slice A vs.length c))).alloc (msgO zeroM (.slice none 0 0))).alloc (msgO (⟨ver, com, kind, id, st, ix, ⟨#[]⟩, ⟨#[]⟩, 0, 0, 0⟩ : MsgT) (.slice none 0 0))) = w3 at *
  have H3 := Lib.hid (And.intro hb3 (And.intro hres hout))
  clear hb3 hres hout
  go_loopg [6, 7, 8, 9, 10, 113] vs.length (fun k v6 v7 v8 v9 v10 v113 wr => ∃ j : Nat, v113 = .int .i64 j ∧ Hid (∃ (qs : List (VarT × Ask)) (V : Value), j ≤ vs.length ∧ k = vs.length - j ∧ vs.take j = qs.map (·.1) ∧ (∀ q ∈ qs, okQ q) ∧ wr.heap[w.heap.size + 1 + 1]? = some (msgO (⟨ver, com, kind, id, st, ix, ⟨#[]⟩, ⟨#[]⟩, 0, 0, 0⟩ : MsgT) V) ∧ wr.heap[w.heap.size + 1]? = some (msgO zeroM (.slice none 0 0)) ∧ Below w.heap.size w wr ∧ OwnV wr (w.heap.size + 3) V (qs.map toldQ)))
  case atStart => exact ⟨0, rfl, Lib.hid ⟨[], _, Nat.zero_le _, rfl, by simp, by simp, H3.out.2.2, H3.out.2.1, H3.out.1, OwnV.nil _ _⟩⟩
  case round =>
    obtain ⟨j, rfl, HJ⟩ := hrel
    obtain ⟨qs, V, hj, hk, hqs, hall, hout, hres, hbw, hown⟩ := HJ.out
    clear HJ H3
    by_cases hjl : j < vs.length
    · obtain ⟨ad, rfl, q0, q1, q2, q3, q4⟩ := var_at (Kd.C_below HC.out.1 hbw) j hjl
      have hvo := HC.out.2 vs[j] (List.getElem_mem hjl)
      generalize hvj : vs[j] = vj at *
      have HJ := Lib.hid (And.intro hvj (And.intro hk (And.intro hqs (And.intro hall (And.intro hout (And.intro hres (And.intro hbw hown)))))))
      clear hvj hk hqs hall hout hres hbw hown
      go_wp2_with fail
      refine (specValue_any vj.nm vj.tx vj.ty vj.i vj.u hvo.i0 hvo.i1 hvo.u0 hvo.u1 hvo.n hvo.t 0 (by omega) _).mono ?_
      rintro e w4 ⟨hb4, h4⟩
      have b4 := (Below.refl wr.heap.size wr).alloc (Nat.le_refl _) (varO vj.nm vj.ty vj.i vj.u vj.tx)
      have hb5 := b4.trans (hb4.mono b4.size)
      obtain ⟨hvj, hk, hqs, hall, hout, hres, hbw, hown⟩ := HJ.out
      have hz := blk_lt hout
      have H4 := Lib.hid (And.intro hvj (And.intro hk (And.intro hqs (And.intro hall (And.intro (blk_below hout hb5) (And.intro (blk_below hres hb5) (And.intro (below_step hbw hb5) (hown.below hb5))))))))
      have hz4 := hb5.size
      have hz5 : w.heap.size + 1 < w4.heap.size := by omega
      have hz6 : w.heap.size + 1 + 1 < w4.heap.size := by omega
      clear hvj hk hqs hall hout hres hbw hown hb4 b4 hb5 HJ q0 q1 q2 q3 q4
      rcases h4 with ⟨v1, v2, rfl⟩ | ⟨arcs, c', i', u', tx', v1, v2, hask, rfl, hn1, hn2⟩
      · obtain ⟨r0, r1, r2, r3, r4, r5, r6, r7, r8, r9, r10, r11⟩ := msg_cells H4.out.2.2.2.2.2.1
        have hfr := fun i => blk_frozen H4.out.2.2.2.2.2.1 i
        have f0 := hfr 0
        have f1 := hfr 1
        have f2 := hfr 2
        have f3 := hfr 3
        have f4 := hfr 4
        have f5 := hfr 5
        have f6 := hfr 6
        have f7 := hfr 7
        have f8 := hfr 8
        have f9 := hfr 9
        have f10 := hfr 10
        have f11 := hfr 11
        clear hfr
        go_wp2
        refine msg_ret2 (m := zeroM) (v := .slice none 0 0) rfl rfl rfl H4.out.2.2.2.2.2.1 ?_
        have hb6 := setMsg_below H4.out.2.2.2.2.2.2.1 (show w.heap.size ≤ w.heap.size + 1 by omega) zeroM (.slice none 0 0)
        exact ⟨hb6.alloc hb6.size _, .inl rfl⟩
      · have hq : okQ (vj, ⟨arcs, c', i', u', tx'⟩) := hask
        have hqt : toldQ (vj, ⟨arcs, c', i', u', tx'⟩) = ⟨strOfNums (sDot arcs), vj.ty, i', u', strOfNums tx'⟩ := rfl
        generalize hdn : strOfNums (sDot arcs) = dn at *
        generalize hdt : strOfNums tx' = dt at *
        obtain ⟨hvj, hk, hqs, hall, hout, hres, hbw, hown⟩ := H4.out
        obtain ⟨A', c2, rfl, -⟩ := Kd.R_slice hown
        have hlen : qs.length = j := by
          have := congrArg List.length hqs
          rw [List.length_take, List.length_map] at this
          omega
        have hl5 : (qs.map toldQ ++ [(⟨dn, vj.ty, i', u', dt⟩ : VarT)]).length = j + 1 := by simp [hlen]
        rw [List.length_map, hlen] at hown hout
        obtain ⟨o0, o1, o2, o3, o4, o5, o6, o7, o8, o9, o10, o11⟩ := msg_cells hout
        have fo6 := blk_frozen hout 6
        clear o0 o1 o2 o3 o4 o5 o7 o8 o9 o10 o11
        have ba := (Below.refl w4.heap.size w4).alloc (Nat.le_refl _) (varO dn vj.ty i' u' dt)
        have HA := Lib.hid (And.intro (hown.below ba) (And.intro (blk_alloc hout (varO dn vj.ty i' u' dt)) (And.intro (blk_alloc hres (varO dn vj.ty i' u' dt)) (And.intro (below_step hbw ba) (And.intro hvj (And.intro hk (And.intro hqs (And.intro hall (And.intro hq hqt)))))))))
        clear hvj hk hqs hall hout hres hbw hown hask hq hqt hdn hdt hn1 hn2 H4 ba
        go_wp2_with (at_builtin; refine app_var rfl (.tmp 128) (.tmp 130) rfl (w.heap.size + 3) _ (qs.map toldQ) ⟨dn, vj.ty, i', u', dt⟩ rfl rfl (by simp) HA.out.1 (by simp; omega) (by rw [List.length_map]; omega) ?_; intro v1 w5 ho5 hg5 hat5; obtain ⟨A5, c5, rfl, -⟩ := Kd.R_slice ho5; rw [hl5] at ho5 ⊢; have hout5 := grown_blk hg5 HA.out.2.1 (fun k hk => by have := HA.out.1.block k hk; omega); have hres5 := grown_blk hg5 HA.out.2.2.1 (fun k hk => by have := HA.out.1.block k hk; omega); have z6 := (msg_cells hout5).2.2.2.2.2.2.1; have zf6 := blk_frozen hout5 6; refine Hid.out ?_)
        have hb6 := HA.out.2.2.2.1.grown hg5 (by simp; omega) (fun k hk => by have := HA.out.1.block k hk; omega)
        have hput : (w5.setCell ⟨w.heap.size + 1 + 1, 6, none⟩ (.slice A5 (j + 1) c5)).heap[w.heap.size + 1 + 1]? = some (msgO (⟨ver, com, kind, id, st, ix, ⟨#[]⟩, ⟨#[]⟩, 0, 0, 0⟩ : MsgT) (.slice A5 (j + 1) c5)) := blk_put (cs' := (⟨ver, com, kind, id, st, ix, ⟨#[]⟩, ⟨#[]⟩, 0, 0, 0⟩ : MsgT).arr (.slice A5 (j + 1) c5)) hout5 6 _ rfl
        have hres6 : (w5.setCell ⟨w.heap.size + 1 + 1, 6, none⟩ (.slice A5 (j + 1) c5)).heap[w.heap.size + 1]? = some (msgO zeroM (.slice none 0 0)) := (Below.heap_setCell _ _ _ _ (by show w.heap.size + 1 ≠ w.heap.size + 1 + 1; omega)).trans hres5
        have ho6 : OwnV (w5.setCell ⟨w.heap.size + 1 + 1, 6, none⟩ (.slice A5 (j + 1) c5)) (w.heap.size + 3) (.slice A5 (j + 1) c5) (qs.map toldQ ++ [⟨dn, vj.ty, i', u', dt⟩]) := ho5.move (fun k hk => Below.heap_setCell _ _ _ _ (by have := ho5.block k hk; show k ≠ w.heap.size + 1 + 1; omega))
        have H6 := Lib.hid (And.intro hput (And.intro hres6 (And.intro (below_set (j := 6) (v := .slice A5 (j + 1) c5) hb6 (show w.heap.size ≤ w.heap.size + 1 + 1 by omega)) ho6)))
        clear hb6 hput hres6 ho6 ho5 hg5 hat5 hout5 hres5
        refine Lib.hid ?_
        go_wp2
        go_roundg (vs.length - (j + 1))
        case measure =>
          have := HA.out.2.2.2.2.2.1
          omega
        case rel => exact ⟨j + 1, by go_num, Lib.hid ⟨qs ++ [(vj, ⟨arcs, c', i', u', tx'⟩)], _, by omega, rfl, by
          rw [List.take_succ_eq_append_getElem hjl, HA.out.2.2.2.2.2.2.1, HA.out.2.2.2.2.1]
          simp, by
          intro q hq
          rcases List.mem_append.1 hq with hq | hq
          · exact HA.out.2.2.2.2.2.2.2.1 q hq
          · simp only [List.mem_singleton] at hq
            subst hq
            exact HA.out.2.2.2.2.2.2.2.2.1, H6.out.1, H6.out.2.1, H6.out.2.2.1, by
          rw [List.map_append, List.map_cons, List.map_nil, HA.out.2.2.2.2.2.2.2.2.2]
          exact H6.out.2.2.2⟩⟩
    · obtain rfl : j = vs.length := by omega
      rw [List.take_length] at hqs
      have hz := blk_lt hout
      obtain ⟨A', c', rfl, -⟩ := Kd.R_slice hown
      rw [List.length_map] at hout hown
      obtain ⟨o0, o1, o2, o3, o4, o5, o6, o7, o8, o9, o10, o11⟩ := msg_cells hout
      obtain ⟨r0, r1, r2, r3, r4, r5, r6, r7, r8, r9, r10, r11⟩ := msg_cells hres
      have hfr := fun i => blk_frozen hres i
      have HE := Lib.hid (And.intro hqs (And.intro hall (And.intro hres (And.intro hbw (And.intro hown hout)))))
      have f0 := hfr 0
      have f1 := hfr 1
      have f2 := hfr 2
      have f3 := hfr 3
      have f4 := hfr 4
      have f5 := hfr 5
      have f6 := hfr 6
      have f7 := hfr 7
      have f8 := hfr 8
      have f9 := hfr 9
      have f10 := hfr 10
      have f11 := hfr 11
      clear hqs hall hres hbw hown hout hfr
      go_wp2
      refine msg_ret (m := (⟨ver, com, kind, id, st, ix, ⟨#[]⟩, ⟨#[]⟩, 0, 0, 0⟩ : MsgT)) (v := .slice A' qs.length c') rfl rfl rfl HE.out.2.2.1 ?_
      exact ⟨setMsg_below HE.out.2.2.2.1 (by omega) _ _, .inr ⟨qs, _, HE.out.1, HE.out.2.1, rfl, Kd.R_lower (OwnV.setMsg HE.out.2.2.2.2.1 (w.heap.size + 1) (by omega) _ _) (by omega)⟩⟩
end Go.Proofs.YtangjgclpipjdaaDoor
