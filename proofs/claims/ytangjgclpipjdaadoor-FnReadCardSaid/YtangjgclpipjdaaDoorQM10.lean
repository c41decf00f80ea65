/- The lemmas and walks that FnDecode and FnCut and FnRead rests on, part 10: WValFnValue ToldFnValue Msg TolB Msg2 SpecLen SOpen Num. -/
import Derived.Test.YtangjgclpipjdaaDoorQM7
import Derived.Test.YtangjgclpipjdaaDoorQM9
set_option linter.unusedVariables false
namespace Go.Proofs.YtangjgclpipjdaaDoor
open Go.RowKit Go.Proofs.YtangjgclpipjdaaDoorW.PrintWords Go.Proofs.YtangjgclpipjdaaDoorW.PrintLast Go.Proofs.YtangjgclpipjdaaDoorW.PrintMore
/-- A variable that is asked: its name's arcs, its content, what is told. -/
structure Asked (nm tx : ByteArray) (ty i u : Int) (arcs c : List Int) (i' u' : Int) (tx' : List Int) : Prop where
  name : sArcs (bs nm) = (arcs, true)
  cont : Cont ty i u (bs tx) c i' u' tx'
  nsize : nm.size ≤ 1000
  tsize : tx.size ≤ 500
def sVar (arcs : List Int) (ty : Int) (c : List Int) (wide : Nat) : List Int := sSealed 48 (sSealed 6 (sName arcs) wide ++ sSealed ty c wide) wide
def GotVal (nm tx : ByteArray) (ty i u : Int) (wide : Nat) (w w' : World) (e : Ending) : Prop :=
  Below w.heap.size w w' ∧ ((∃ v1 v2, e = .returned (.tuple #[v1, v2, varV ⟨#[]⟩ 0 0 0 ⟨#[]⟩, .bool false])) ∨
    ∃ arcs c i' u' tx' v1 v2, Asked nm tx ty i u arcs c i' u' tx' ∧ e = .returned (.tuple #[v1, v2, varV (strOfNums (sDot arcs)) ty i' u' (strOfNums tx'), .bool true]) ∧ NewB w w' v1 (sVar arcs ty c wide) ∧ NewB w w' v2 (sSealed ty c wide))
/-- The two variables' blocks that the call begins with, in whatever world: the parameter, the zero result. -/
def VBase (w : World) (nm : ByteArray) (ty i u : Int) (tx : ByteArray) (W : World) : Prop :=
  W.heap[w.heap.size]? = some (varO nm ty i u tx) ∧ W.heap[w.heap.size + 1]? = some (varO ⟨#[]⟩ 0 0 0 ⟨#[]⟩) ∧ Below w.heap.size w W
theorem VBase.start (w : World) (nm : ByteArray) (ty i u : Int) (tx : ByteArray) : VBase w nm ty i u tx ((w.alloc (varO nm ty i u tx)).alloc (varO ⟨#[]⟩ 0 0 0 ⟨#[]⟩)) := by
  refine ⟨blk_alloc (blk_new w (varO nm ty i u tx)) _, ?_, ((Below.refl w.heap.size w).alloc (Nat.le_refl _) _).alloc (by simp) _⟩
  have := blk_new (w.alloc (varO nm ty i u tx)) (varO ⟨#[]⟩ 0 0 0 ⟨#[]⟩)
  rw [show (w.alloc (varO nm ty i u tx)).heap.size = w.heap.size + 1 by simp] at this
  exact this
theorem VBase.step {w W W' : World} {nm tx : ByteArray} {ty i u : Int} (h : VBase w nm ty i u tx W) (hb : Below W.heap.size W W') : VBase w nm ty i u tx W' := ⟨blk_below h.1 hb, blk_below h.2.1 hb, below_step h.2.2 hb⟩
theorem VBase.size {w W : World} {nm tx : ByteArray} {ty i u : Int} (h : VBase w nm ty i u tx W) : w.heap.size + 2 ≤ W.heap.size := blk_lt h.2.1
theorem VBase.grown {w W W' : World} {nm tx : ByteArray} {ty i u : Int} (h : VBase w nm ty i u tx W) {row : Option Nat} (hg : W.grownBy W' row) (hr : ∀ k, row = some k → w.heap.size + 2 ≤ k) : VBase w nm ty i u tx W' := by
  refine ⟨blk_grown h.1 hg ?_, blk_grown h.2.1 hg ?_, h.2.2.grown hg (by have := h.size; omega) (fun k hk => by have := hr k hk; omega)⟩
  · intro e; have := hr _ e.symm; omega
  · intro e; have := hr _ e.symm; omega
theorem VBase.five {w W : World} {nm tx : ByteArray} {ty i u : Int} (h : VBase w nm ty i u tx W) : W.cell? ⟨w.heap.size, 0, none⟩ = some (.string nm) ∧ W.cell? ⟨w.heap.size, 1, none⟩ = some (.int .i64 ty) ∧ W.cell? ⟨w.heap.size, 2, none⟩ = some (.int .i64 i) ∧ W.cell? ⟨w.heap.size, 3, none⟩ = some (.int .u64 u) ∧ W.cell? ⟨w.heap.size, 4, none⟩ = some (.string tx) := by
  obtain ⟨p0, p1, p2, p3, p4, -⟩ := var_cells h.1
  exact ⟨p0, p1, p2, p3, p4⟩
theorem VBase.fiveSet {w W : World} {nm tx : ByteArray} {ty i u : Int} (h : VBase w nm ty i u tx W) (nm' : ByteArray) (ty' i' u' : Int) (tx' : ByteArray) : (setVar W (w.heap.size + 1) nm' ty' i' u' tx').cell? ⟨w.heap.size, 0, none⟩ = some (.string nm) ∧ (setVar W (w.heap.size + 1) nm' ty' i' u' tx').cell? ⟨w.heap.size, 1, none⟩ = some (.int .i64 ty) ∧ (setVar W (w.heap.size + 1) nm' ty' i' u' tx').cell? ⟨w.heap.size, 2, none⟩ = some (.int .i64 i) ∧ (setVar W (w.heap.size + 1) nm' ty' i' u' tx').cell? ⟨w.heap.size, 3, none⟩ = some (.int .u64 u) ∧ (setVar W (w.heap.size + 1) nm' ty' i' u' tx').cell? ⟨w.heap.size, 4, none⟩ = some (.string tx) := by
  obtain ⟨p0, p1, p2, p3, p4⟩ := h.five
  have hne : w.heap.size ≠ w.heap.size + 1 := by omega
  exact ⟨setVar_far p0 hne _ _ _ _ _, setVar_far p1 hne _ _ _ _ _, setVar_far p2 hne _ _ _ _ _, setVar_far p3 hne _ _ _ _ _, setVar_far p4 hne _ _ _ _ _⟩
theorem ReadB.agree {W W' : World} {ok : Nat → Prop} {v : Value} {xs : List Int} (h : ReadB W ok v xs) (hs : W.heap.size ≤ W'.heap.size) (hW : ∀ k, ok k → k < W.heap.size → W'.heap[k]? = W.heap[k]?) : ReadB W' ok v xs := by
  obtain ⟨A, c, rfl, hl, hC⟩ := h
  exact ⟨A, c, rfl, hl, fun W'' hW'' => hC W'' (fun k hk hlt => (hW'' k hk (by omega)).trans (hW k hk hlt))⟩
theorem setVar_size (W : World) (g : Nat) (nm : ByteArray) (ty i u : Int) (tx : ByteArray) : (setVar W g nm ty i u tx).heap.size = W.heap.size := by simp
theorem ReadB.setVar {W : World} {ok : Nat → Prop} {v : Value} {xs : List Int} (h : ReadB W ok v xs) (g : Nat) (hg : ¬ ok g) (nm : ByteArray) (ty i u : Int) (tx : ByteArray) : ReadB (setVar W g nm ty i u tx) ok v xs :=
  h.agree (Nat.le_of_eq (setVar_size W g nm ty i u tx).symm) (fun k hk hlt => by
    obtain ⟨o, ho⟩ : ∃ o, W.heap[k]? = some o := ⟨_, Array.getElem?_eq_getElem hlt⟩
    rw [setVar_heap ho (fun e => by subst e; exact hg hk), ho])
theorem OwnB.read {W : World} {B : Nat} {v : Value} {xs : List Int} (h : OwnB W B v xs) : ReadB W (fun k => B ≤ k ∧ k < W.heap.size) v xs := Kd.R_V (base' := 0) (Kd.R_mono (Kd.R_bound h) (fun _ hk => ⟨hk.2.1, hk.2.2.1⟩))
theorem OwnB.block {w : World} {B : Nat} {v : Value} {xs : List Int} (h : OwnB w B v xs) (k : Nat) (hk : v.ownBlock = some k) : B ≤ k := ((Kd.R_bound h).1 k hk).2.1
/-- 'append(s, x...)' of bytes, s a row of the call's own: as a step of a region that draws its order. -/
theorem app_bytes_step {P : Program} {W : World} {ops : Array Oper} {o : Oper} {a : Act} {Kc : Act → World → Prop} {Q : Exit → Act → World → Prop} (hw : Region.wanted o (yielded ops a.tmps) = true) (s x : Operand) (t : TypeId)
    (ho : o.op = .call { callee := .builtin .append, args := #[s, x], argTypes := #[t, t] }) (ht : P.underlying t = some (.slice 5)) (hinfo : (P.info? 5).map (fun i => (i.zero, i.size, i.bytes)) = some (some (.int .u8 0), 1, 1))
    (B : Nat) (v : Value) (xs ys : List Int) (A : Option Addr) (m c : Nat) (hs : a.eval s = v) (hx : a.eval x = .slice A m c) (HO : OwnB W B v xs) (HR : Kd.C (Kd.int .u8) W A m ys) (hB : B ≤ W.heap.size) (hl : xs.length + m ≤ 140737488355328)
    (h : ∀ v1 w1, OwnB w1 B v1 (xs ++ ys) → W.grownBy w1 v.ownBlock → (v1.ownBlock = v.ownBlock ∨ ∃ b, v1.ownBlock = some b ∧ W.heap.size ≤ b) → Kc (a.put o.dst v1) w1) :
    if Region.wanted o (yielded ops a.tmps) = true then Oper.wp P o a W Kc Q else Kc (a.put o.dst undef) W := by
  refine Kd.R_append_rows_step (Kd.int .u8) (w0 := W) B hw s x t 5 (.int .u8 0) 1 ho ht hinfo rfl (by decide) (by omega) v xs ys A m c (fun _ => True) (fun _ => False) hs hx HO HR ?_ (fun _ hk => hk.elim) (fun _ _ => trivial) (Below.refl _ _) hB (by omega) ?_
  · intro x cs h; exact h
  · intro v1 w1 h1 _ hg hat
    exact h v1 w1 h1 hg hat
theorem results_ttct {P : Program} {fn : Func} {a b p c : Tmp} {ty : TypeId} (h : fn.results = #[.tmp a, .tmp b, .cell p ty, .tmp c]) (tmps : Array Value) (w : World) (g : Nat) (t : TypeId) (cs : Array Value) (fr : Nat × Nat) (d : TypeDesc)
    (hp : tmps.getD p undef = .pointer (some ⟨g, 0, none⟩)) (hg : w.heap[g]? = some (.cells cs t fr))
    (hu : P.underlying ty = some d) (hd : (match d with | .struct _ | .array _ _ => true | _ => false) = true) (hi : (P.info? ty).map (·.size) = some cs.size) :
    (results fn tmps).run P w = .ok (.tuple #[tmps.getD a undef, tmps.getD b undef, .agg cs, tmps.getD c undef]) w := by
  have hp' : tmps[p]?.getD undef = .pointer (some ⟨g, 0, none⟩) := by simpa using hp
  simp [results, h, hp', asAddr, run_loadVar_row w g t ty cs fr d hg hu hd hi]
theorem val_ret {fn : Func} {x y p z : Tmp} (h : fn.results = #[.tmp x, .tmp y, .cell p 24, .tmp z]) {R : Ending → World → Prop} {a : Act} {W : World} {g : Nat} {nm tx nm' tx' : ByteArray} {ty i u ty' i' u' : Int} (hp : a.tmps.getD p undef = .pointer (some ⟨g, 0, none⟩)) (hd : a.defers = [])
    (hr : W.heap[g]? = some (varO nm' ty' i' u' tx')) (hR : R (.returned (.tuple #[a.tmps.getD x undef, a.tmps.getD y undef, varV nm ty i u tx, a.tmps.getD z undef])) (setVar W g nm ty i u tx)) :
    bodyPost Tryd.prog fn R .ret a (setVar W g nm ty i u tx) :=
  bodyPost_ret (results_ttct h _ _ g 24 #[.string nm, .int .i64 ty, .int .i64 i, .int .u64 u, .string tx] (0, 0) _ hp (setVar_new hr _ _ _ _ _) Tryd.underlying24 rfl infoVar) hd hR
set_option maxRecDepth 100000 in
set_option maxHeartbeats 4000000 in
theorem specValue_any (nm tx : ByteArray) (ty i u : Int) (i0 : -9223372036854775808 ≤ i) (i1 : i ≤ 9223372036854775807) (u0 : 0 ≤ u) (u1 : u ≤ 18446744073709551615) (hn : nm.size ≤ 2147483647) (hz : tx.size ≤ 2147483647) (wide : Nat) (hw : wide ≤ 2) (w : World) :
    Calls Tryd.prog 10 #[varV nm ty i u tx, .int .i64 wide] w fun e w' => GotVal nm tx ty i u wide w w' e := by
  go_enter Tryd.func10, Tryd.ntmps10
  go_wp2_with fail
  refine (specArcs_any nm hn _).mono ?_
  rintro e w1 ⟨v, rfl, ho, hb⟩
  obtain ⟨A, cc, rfl, hcc, hC⟩ := Kd.R_reads ho
  have B1 := (VBase.start w nm ty i u tx).step hb
  have HB1 := Lib.hid (And.intro B1 hC)
  obtain ⟨p0, p1, p2, p3, p4, -, -, -, -, -⟩ := var_cells B1.1
  clear ho hb hC B1
  go_wp2_with fail
  refine (specContent_any nm tx ty i u i0 i1 u0 u1 hz _).mono ?_
  rintro e w2 ⟨v2, rfl, ho2, hb2⟩
  obtain ⟨A2, cc2, rfl, hcc2, hC2⟩ := ho2.reads
  have B2 := HB1.out.1.step hb2
  have HC := Lib.hid (And.intro B2 (And.intro (Kd.C_below HB1.out.2 hb2) (And.intro hC2 hb2)))
  clear p0 p1 p2 p3 p4 HB1 ho2 hb2 hC2
  obtain ⟨p0, p1, p2, p3, p4, -, -, -, -, -⟩ := var_cells B2.1
  obtain ⟨r0, r1, r2, r3, r4, rf0, rf1, rf2, rf3, rf4⟩ := var_cells B2.2.1
  clear B2
  have hno : ∀ v1 v2 W, Below w.heap.size w W → GotVal nm tx ty i u wide w W (.returned (.tuple #[v1, v2, varV ⟨#[]⟩ 0 0 0 ⟨#[]⟩, .bool false])) := fun v1 v2 W h => ⟨h, .inl ⟨v1, v2, rfl⟩⟩
  have HN := Lib.hid hno
  clear hno
  cases h1 : (sArcs (bs nm)).2 with
  | false =>
    go_wp2
    exact val_ret rfl rfl rfl HC.out.1.2.1 (HN.out _ _ _ (setVar_below HC.out.1.2.2 (by omega) _ _ _ _ _))
  | true =>
  cases h2 : (sCont ty i u (bs tx)).2 with
  | false =>
    go_wp2
    exact val_ret rfl rfl rfl HC.out.1.2.1 (HN.out _ _ _ (setVar_below HC.out.1.2.2 (by omega) _ _ _ _ _))
  | true =>
  by_cases h500 : (500 : Int) < tx.size
  · go_wp2
    exact val_ret rfl rfl rfl HC.out.1.2.1 (HN.out _ _ _ (setVar_below HC.out.1.2.2 (by omega) _ _ _ _ _))
  by_cases h1000 : (1000 : Int) < nm.size
  · go_wp2
    exact val_ret rfl rfl rfl HC.out.1.2.1 (HN.out _ _ _ (setVar_below HC.out.1.2.2 (by omega) _ _ _ _ _))
  have hA : sArcs (bs nm) = ((sArcs (bs nm)).1, true) := by rw [← h1]
  obtain ⟨i', u', tx', hc⟩ := sCont_ok ty i u (bs tx) (sCont ty i u (bs tx)).1 (by rw [← h2])
  have hask : Asked nm tx ty i u (sArcs (bs nm)).1 (sCont ty i u (bs tx)).1 i' u' tx' := ⟨hA, hc, by omega, by omega⟩
  generalize (sArcs (bs nm)).1 = arcs at *
  generalize (sCont ty i u (bs tx)).1 = c at *
  have hbd := sArcs_bounds _ _ hA
  have hao := (sArcs_text _ _ hA).1
  have hl2 := hao.1
  have hl60 := hao.2.1
  have hcl : c.length ≤ 500 := hc.len
  have HA := Lib.hid (And.intro hask hbd)
  clear hA hc hask hbd hao h1 h2
  go_wp2_with fail
  refine (specSealed_any ty A2 cc2 c wide (by omega) hcc2 (by omega) w2 HC.out.2.2.1).mono ?_
  rintro e w3 ⟨v3, rfl, ho3, hb3⟩
  have B3 := HC.out.1.step hb3
  obtain ⟨p0, p1, p2, p3, p4, -, -, -, -, -⟩ := var_cells B3.1
  obtain ⟨r0, r1, r2, r3, r4, rf0, rf1, rf2, rf3, rf4⟩ := var_cells B3.2.1
  obtain ⟨A3, cc3, rfl, hcc3, hC3⟩ := Kd.R_reads ho3
  have H3 := Lib.hid (And.intro B3 (And.intro ho3 (And.intro (Kd.C_below HC.out.2.1 hb3) hC3)))
  clear ho3 hb3 B3 hC3
  go_wp2_with fail
  have hs3 := H3.out.1.size
  have hv3 : ReadB w3 (fun k => w.heap.size + 2 ≤ k ∧ k < w3.heap.size) (.slice A3 (sSealed ty c wide).length cc3) (sSealed ty c wide) := H3.out.2.1.read.mono (fun k hk => ⟨by have := HC.out.1.size; omega, hk.2⟩)
  have HV3 := Lib.hid hv3
  have n60 := sName_len arcs
  have hsl := sLen_len c.length wide
  have hnl : (sName arcs).length ≤ 300 := by omega
  have hsl2 : (sSealed ty c wide).length ≤ 600 := by simp [sSealed]; omega
  have hnl2 : (sSealed 6 (sName arcs) wide).length ≤ 400 := by have := sLen_len (sName arcs).length wide; simp [sSealed]; omega
  clear hv3 hsl n60
  have BD : VBase w nm ty i u tx w3.drew := H3.out.1.step (below_drew (Below.refl _ _))
  go_region_held3 (fun w' => w'.cell? ⟨w.heap.size, 0, none⟩ = some (.string nm) ∧ w'.cell? ⟨w.heap.size, 1, none⟩ = some (.int .i64 ty) ∧ w'.cell? ⟨w.heap.size, 2, none⟩ = some (.int .i64 i) ∧ w'.cell? ⟨w.heap.size, 3, none⟩ = some (.int .u64 u) ∧ w'.cell? ⟨w.heap.size, 4, none⟩ = some (.string tx))
    (first | with_reducible exact BD.five | with_reducible exact B4.five | with_reducible exact B5.five | with_reducible exact B6.five | with_reducible exact B7.five | with_reducible exact B8.five | with_reducible exact B8.fiveSet _ _ _ _ _)
    (first
      | ((go_at_call 24; (with_reducible refine (specName_any arcs hl2 hl60 HA.out.2 A cc hcc w3.drew (Kd.C_drew H3.out.2.2.1)).mono ?_); rintro e w4 ⟨v4, rfl, ho4, hb4⟩; have B4 := BD.step hb4; obtain ⟨A4, cc4, rfl, hcc4, hC4⟩ := Kd.R_reads ho4))
      | ((go_at_call 23; (with_reducible refine (specSealed_any 6 A4 cc4 (sName arcs) wide (by omega) hcc4 (by omega) w4 hC4).mono ?_); rintro e w5 ⟨v5, rfl, ho5, hb5⟩; have B5 := B4.step hb5))
      | (refine app_bytes_step (by rfl) (.tmp 51) (.tmp 52) 26 rfl Tryd.underlying26 infoB w4.heap.size v5 (sSealed 6 (sName arcs) wide) (sSealed ty c wide) A3 (sSealed ty c wide).length cc3 (by rfl) (by rfl) ho5 (Kd.C_below (Kd.C_below (Kd.C_drew H3.out.2.2.2) hb4) hb5) hb5.size (by omega) ?_; intro v6 w6 ho6 hg6 hat6; have B6 := B5.grown hg6 (fun k hk => by have := OwnB.block ho5 k hk; have := B4.size; omega); obtain ⟨bb, HBB, hbl, ho6'⟩ : ∃ bb, Hid (bb = sSealed 6 (sName arcs) wide ++ sSealed ty c wide) ∧ bb.length ≤ 1000 ∧ OwnB w6 w4.heap.size v6 bb := ⟨_, Lib.hid rfl, by simp; omega, ho6⟩; obtain ⟨A6, cc6, rfl, hcc6, hC6⟩ := Kd.R_reads ho6')
      | ((go_at_call 23; (with_reducible refine (specSealed_any 48 A6 cc6 bb wide (by omega) hcc6 (by omega) w6 hC6).mono ?_); rintro e w7 ⟨v7, rfl, ho7, hb7⟩; have B7 := B6.step hb7))
      | ((go_at_call 25; (with_reducible refine (specPlain_any nm tx ty i u arcs c i' u' tx' hn hz HA.out.1.name HA.out.1.cont w7).mono ?_); rintro e w8 ⟨rfl, hb8⟩; have B8 := B7.step hb8; obtain ⟨r0, r1, r2, r3, r4, rf0, rf1, rf2, rf3, rf4⟩ := var_cells B8.2.1)))
  have hx : w.heap.size ≤ w3.heap.size := by omega
  have hh4 : w3.heap.size ≤ w4.heap.size := hb4.size
  have hh5 := hb5.size
  have hh6 := B6.size
  have N7 : NewB w (setVar w8 (w.heap.size + 1) (strOfNums (sDot arcs)) ty i' u' (strOfNums tx')) v7 (sVar arcs ty c wide) := by
    have h7 := (ho7.read.mono (ok' := fun k => w.heap.size + 2 ≤ k) (fun k hk => by have := hk.1; omega)).below hb8
    have h8 := (h7.setVar (w.heap.size + 1) (by omega) (strOfNums (sDot arcs)) ty i' u' (strOfNums tx')).mono (ok' := fun k => w.heap.size ≤ k) (fun k hk => by omega)
    unfold sVar
    rw [← HBB.out]
    exact h8
  have N3 : NewB w (setVar w8 (w.heap.size + 1) (strOfNums (sDot arcs)) ty i' u' (strOfNums tx')) (.slice A3 (sSealed ty c wide).length cc3) (sSealed ty c wide) := by
    have h4 : ReadB w4 _ _ _ := ReadB.below (w := w3.drew) HV3.out hb4
    have h6 := (h4.below hb5).grown hg6 (fun k hk e => by have := OwnB.block ho5 k e.symm; have := hk.2; omega)
    have h8 := (h6.below hb7).below hb8
    exact (h8.setVar (w.heap.size + 1) (by rintro ⟨h, -⟩; omega) _ _ _ _ _).mono (fun k hk => by have := hk.1; omega)
  have hend : GotVal nm tx ty i u wide w (setVar w8 (w.heap.size + 1) (strOfNums (sDot arcs)) ty i' u' (strOfNums tx')) (.returned (.tuple #[v7, .slice A3 (sSealed ty c wide).length cc3, varV (strOfNums (sDot arcs)) ty i' u' (strOfNums tx'), .bool true])) :=
    ⟨setVar_below B8.2.2 (by omega) _ _ _ _ _, .inr ⟨arcs, c, i', u', tx', _, _, HA.out.1, rfl, N7, N3⟩⟩
  have hr8 := B8.2.1
  clear N7 N3 HV3 HA H3 HN HC BD B4 B5 B6 B7 B8 ho4 ho5 ho6 ho6' ho7 hb4 hb5 hb7 hb8 hg6 hat6 hC4 hC6 r0 r1 r2 r3 r4 rf0 rf1 rf2 rf3 rf4 p0 p1 p2 p3 p4
  go_wp2
  exact val_ret (x := 4) (y := 5) (p := 6) (z := 7) rfl rfl rfl hr8 hend
end Go.Proofs.YtangjgclpipjdaaDoor
set_option linter.unusedVariables false
namespace Go.Proofs.YtangjgclpipjdaaDoor
open Go.RowKit Go.Proofs.YtangjgclpipjdaaDoorW.PrintWords Go.Proofs.YtangjgclpipjdaaDoorW.PrintLast Go.Proofs.YtangjgclpipjdaaDoorW.PrintMore
theorem fits1_any (nm tx : ByteArray) (ty i u : Int) (w : World) : Calls Tryd.prog 9 #[varV nm ty i u tx] w fun e w' => e = .returned (.bool (decide (nm.size ≤ 2147483647 ∧ tx.size ≤ 2147483647))) ∧ Below w.heap.size w w' := by
  have hal := (Below.refl w.heap.size w).alloc (Nat.le_refl _) (varO nm ty i u tx)
  by_cases h1 : (2147483647 : Int) < nm.size
  · go_enter Tryd.func9, Tryd.ntmps9
    go_wp2
    go_ret
    exact ⟨by congr 2; simp; omega, hal⟩
  · by_cases h2 : (2147483647 : Int) < tx.size
    · go_enter Tryd.func9, Tryd.ntmps9
      go_wp2
      go_ret
      exact ⟨by congr 2; simp; omega, hal⟩
    · go_enter Tryd.func9, Tryd.ntmps9
      go_wp2
      go_ret
      exact ⟨by congr 2; simp; omega, hal⟩
theorem ta_nil_int (w : World) : (Instr.typeAssert .nilIface 20 3 true).run Tryd.prog w = .ok (.tuple #[.int .i64 0, .bool false]) w := by kernel_rfl
theorem ta_nil_uint (w : World) : (Instr.typeAssert .nilIface 20 38 true).run Tryd.prog w = .ok (.tuple #[.int .u64 0, .bool false]) w := by kernel_rfl
theorem ta_nil_u32 (w : World) : (Instr.typeAssert .nilIface 20 36 true).run Tryd.prog w = .ok (.tuple #[.int .u32 0, .bool false]) w := by kernel_rfl
theorem ta_nil_u64 (w : World) : (Instr.typeAssert .nilIface 20 22 true).run Tryd.prog w = .ok (.tuple #[.int .u64 0, .bool false]) w := by kernel_rfl
theorem ta_nil_f32 (w : World) : (Instr.typeAssert .nilIface 20 114 true).run Tryd.prog w = .ok (.tuple #[.float .f32 0, .bool false]) w := by kernel_rfl
theorem ta_nil_f64 (w : World) : (Instr.typeAssert .nilIface 20 116 true).run Tryd.prog w = .ok (.tuple #[.float .f64 0, .bool false]) w := by kernel_rfl
theorem ta_nil_bytes (w : World) : (Instr.typeAssert .nilIface 20 26 true).run Tryd.prog w = .ok (.tuple #[.slice none 0 0, .bool false]) w := by kernel_rfl
theorem ta_nil_str (w : World) : (Instr.typeAssert .nilIface 20 9 true).run Tryd.prog w = .ok (.tuple #[.string ByteArray.empty, .bool false]) w := by kernel_rfl
theorem ta_int_int (v : Value) (w : World) : (Instr.typeAssert (.iface 3 v) 20 3 true).run Tryd.prog w = .ok (.tuple #[v, .bool true]) w := by kernel_rfl
theorem ta_uint_int (v : Value) (w : World) : (Instr.typeAssert (.iface 38 v) 20 3 true).run Tryd.prog w = .ok (.tuple #[.int .i64 0, .bool false]) w := by kernel_rfl
theorem ta_uint_uint (v : Value) (w : World) : (Instr.typeAssert (.iface 38 v) 20 38 true).run Tryd.prog w = .ok (.tuple #[v, .bool true]) w := by kernel_rfl
theorem ta_u32_int (v : Value) (w : World) : (Instr.typeAssert (.iface 36 v) 20 3 true).run Tryd.prog w = .ok (.tuple #[.int .i64 0, .bool false]) w := by kernel_rfl
theorem ta_u32_uint (v : Value) (w : World) : (Instr.typeAssert (.iface 36 v) 20 38 true).run Tryd.prog w = .ok (.tuple #[.int .u64 0, .bool false]) w := by kernel_rfl
theorem ta_u32_u32 (v : Value) (w : World) : (Instr.typeAssert (.iface 36 v) 20 36 true).run Tryd.prog w = .ok (.tuple #[v, .bool true]) w := by kernel_rfl
theorem ta_u64_int (v : Value) (w : World) : (Instr.typeAssert (.iface 22 v) 20 3 true).run Tryd.prog w = .ok (.tuple #[.int .i64 0, .bool false]) w := by kernel_rfl
theorem ta_u64_uint (v : Value) (w : World) : (Instr.typeAssert (.iface 22 v) 20 38 true).run Tryd.prog w = .ok (.tuple #[.int .u64 0, .bool false]) w := by kernel_rfl
theorem ta_u64_u32 (v : Value) (w : World) : (Instr.typeAssert (.iface 22 v) 20 36 true).run Tryd.prog w = .ok (.tuple #[.int .u32 0, .bool false]) w := by kernel_rfl
theorem ta_u64_u64 (v : Value) (w : World) : (Instr.typeAssert (.iface 22 v) 20 22 true).run Tryd.prog w = .ok (.tuple #[v, .bool true]) w := by kernel_rfl
theorem ta_bytes_int (v : Value) (w : World) : (Instr.typeAssert (.iface 26 v) 20 3 true).run Tryd.prog w = .ok (.tuple #[.int .i64 0, .bool false]) w := by kernel_rfl
theorem ta_bytes_uint (v : Value) (w : World) : (Instr.typeAssert (.iface 26 v) 20 38 true).run Tryd.prog w = .ok (.tuple #[.int .u64 0, .bool false]) w := by kernel_rfl
theorem ta_bytes_u32 (v : Value) (w : World) : (Instr.typeAssert (.iface 26 v) 20 36 true).run Tryd.prog w = .ok (.tuple #[.int .u32 0, .bool false]) w := by kernel_rfl
theorem ta_bytes_u64 (v : Value) (w : World) : (Instr.typeAssert (.iface 26 v) 20 22 true).run Tryd.prog w = .ok (.tuple #[.int .u64 0, .bool false]) w := by kernel_rfl
theorem ta_bytes_f32 (v : Value) (w : World) : (Instr.typeAssert (.iface 26 v) 20 114 true).run Tryd.prog w = .ok (.tuple #[.float .f32 0, .bool false]) w := by kernel_rfl
theorem ta_bytes_f64 (v : Value) (w : World) : (Instr.typeAssert (.iface 26 v) 20 116 true).run Tryd.prog w = .ok (.tuple #[.float .f64 0, .bool false]) w := by kernel_rfl
theorem ta_bytes_bytes (v : Value) (w : World) : (Instr.typeAssert (.iface 26 v) 20 26 true).run Tryd.prog w = .ok (.tuple #[v, .bool true]) w := by kernel_rfl
theorem ta_str_int (v : Value) (w : World) : (Instr.typeAssert (.iface 9 v) 20 3 true).run Tryd.prog w = .ok (.tuple #[.int .i64 0, .bool false]) w := by kernel_rfl
theorem ta_str_uint (v : Value) (w : World) : (Instr.typeAssert (.iface 9 v) 20 38 true).run Tryd.prog w = .ok (.tuple #[.int .u64 0, .bool false]) w := by kernel_rfl
theorem ta_str_u32 (v : Value) (w : World) : (Instr.typeAssert (.iface 9 v) 20 36 true).run Tryd.prog w = .ok (.tuple #[.int .u32 0, .bool false]) w := by kernel_rfl
theorem ta_str_u64 (v : Value) (w : World) : (Instr.typeAssert (.iface 9 v) 20 22 true).run Tryd.prog w = .ok (.tuple #[.int .u64 0, .bool false]) w := by kernel_rfl
theorem ta_str_f32 (v : Value) (w : World) : (Instr.typeAssert (.iface 9 v) 20 114 true).run Tryd.prog w = .ok (.tuple #[.float .f32 0, .bool false]) w := by kernel_rfl
theorem ta_str_f64 (v : Value) (w : World) : (Instr.typeAssert (.iface 9 v) 20 116 true).run Tryd.prog w = .ok (.tuple #[.float .f64 0, .bool false]) w := by kernel_rfl
theorem ta_str_bytes (v : Value) (w : World) : (Instr.typeAssert (.iface 9 v) 20 26 true).run Tryd.prog w = .ok (.tuple #[.slice none 0 0, .bool false]) w := by kernel_rfl
theorem ta_str_str (v : Value) (w : World) : (Instr.typeAssert (.iface 9 v) 20 9 true).run Tryd.prog w = .ok (.tuple #[v, .bool true]) w := by kernel_rfl
/-- What told is handed (besides a name and a type), and what it says: number, number without a sign, text. -/
inductive ToldIn (w : World) : Value → Int → Int → List Int → Prop
  | nil : ToldIn w .nilIface 0 0 []
  | int (n : Int) (h0 : -9223372036854775808 ≤ n) (h1 : n ≤ 9223372036854775807) : ToldIn w (.iface 3 (.int .i64 n)) n 0 []
  | uint (n : Int) (h0 : 0 ≤ n) (h1 : n ≤ 18446744073709551615) : ToldIn w (.iface 38 (.int .u64 n)) 0 n []
  | u32 (n : Int) (h0 : 0 ≤ n) (h1 : n ≤ 4294967295) : ToldIn w (.iface 36 (.int .u32 n)) 0 n []
  | u64 (n : Int) (h0 : 0 ≤ n) (h1 : n ≤ 18446744073709551615) : ToldIn w (.iface 22 (.int .u64 n)) 0 n []
  | bytes (A : Option Addr) (c : Nat) (xs : List Int) (hl : xs.length ≤ 100000) (h : Kd.C (Kd.int .u8) w A xs.length xs) : ToldIn w (.iface 26 (.slice A xs.length c)) 0 0 xs
  | str (s : ByteArray) : ToldIn w (.iface 9 (.string s)) 0 0 (bs s)
theorem told_ret {fn : Func} {p : Tmp} (h : fn.results = #[.cell p 24]) {a : Act} {w : World} {nm tx : ByteArray} {ty i u : Int} {o : Obj} (hp : a.tmps.getD p undef = .pointer (some ⟨w.heap.size, 0, none⟩)) (hd : a.defers = []) :
    bodyPost Tryd.prog fn (fun e w' => e = .returned (varV nm ty i u tx) ∧ Below w.heap.size w w') .ret a ((w.alloc (varO nm ty i u tx)).alloc o) :=
  bodyPost_ret (results_cell_row h _ _ w.heap.size 24 #[.string nm, .int .i64 ty, .int .i64 i, .int .u64 u, .string tx] (0, 0) _ hp (blk_alloc (blk_new w (varO nm ty i u tx)) _) Tryd.underlying24 rfl infoVar) hd ⟨rfl, ((Below.refl w.heap.size w).alloc (Nat.le_refl _) _).alloc (by simp) _⟩
set_option maxRecDepth 100000 in
set_option maxHeartbeats 4000000 in
theorem told_any (nm : ByteArray) (t : Int) (t0 : 0 ≤ t) (t1 : t ≤ 255) (v : Value) (i' u' : Int) (tx' : List Int) (w : World) (h : ToldIn w v i' u' tx') :
    Calls Tryd.prog 37 #[.string nm, .int .u8 t, v] w fun e w' => e = .returned (varV nm t i' u' (strOfNums tx')) ∧ Below w.heap.size w w' := by
  cases h with
  | nil =>
    have q_ta_nil_int := fun W => ta_nil_int W
    have q_ta_nil_uint := fun W => ta_nil_uint W
    have q_ta_nil_u32 := fun W => ta_nil_u32 W
    have q_ta_nil_u64 := fun W => ta_nil_u64 W
    have q_ta_nil_f32 := fun W => ta_nil_f32 W
    have q_ta_nil_f64 := fun W => ta_nil_f64 W
    have q_ta_nil_bytes := fun W => ta_nil_bytes W
    have q_ta_nil_str := fun W => ta_nil_str W
    go_enter Tryd.func37, Tryd.ntmps37
    go_wp2
    exact told_ret rfl rfl rfl
  | int n h0 h1 =>
    have q_ta_int_int := fun W => ta_int_int (.int .i64 i') W
    go_enter Tryd.func37, Tryd.ntmps37
    go_wp2
    exact told_ret rfl rfl rfl
  | uint n h0 h1 =>
    have q_ta_uint_int := fun W => ta_uint_int (.int .u64 u') W
    have q_ta_uint_uint := fun W => ta_uint_uint (.int .u64 u') W
    go_enter Tryd.func37, Tryd.ntmps37
    go_wp2
    exact told_ret rfl rfl rfl
  | u32 n h0 h1 =>
    have q_ta_u32_int := fun W => ta_u32_int (.int .u32 u') W
    have q_ta_u32_uint := fun W => ta_u32_uint (.int .u32 u') W
    have q_ta_u32_u32 := fun W => ta_u32_u32 (.int .u32 u') W
    go_enter Tryd.func37, Tryd.ntmps37
    go_wp2
    exact told_ret rfl rfl rfl
  | u64 n h0 h1 =>
    have q_ta_u64_int := fun W => ta_u64_int (.int .u64 u') W
    have q_ta_u64_uint := fun W => ta_u64_uint (.int .u64 u') W
    have q_ta_u64_u32 := fun W => ta_u64_u32 (.int .u64 u') W
    have q_ta_u64_u64 := fun W => ta_u64_u64 (.int .u64 u') W
    go_enter Tryd.func37, Tryd.ntmps37
    go_wp2
    exact told_ret rfl rfl rfl
  | bytes A c xs hl h =>
    have hb2 := ((Below.refl w.heap.size w).alloc (Nat.le_refl _) (varO ⟨#[]⟩ 0 0 0 ⟨#[]⟩)).alloc (by simp) (varO nm t 0 0 ⟨#[]⟩)
    have hcv := Kd.C_string (P := Tryd.prog) Tryd.underlying26 Tryd.underlying5 Tryd.underlying9 (Kd.C_below h hb2) (c := c)
    clear h hb2
    have q_ta_bytes_int := fun W => ta_bytes_int (.slice A tx'.length c) W
    have q_ta_bytes_uint := fun W => ta_bytes_uint (.slice A tx'.length c) W
    have q_ta_bytes_u32 := fun W => ta_bytes_u32 (.slice A tx'.length c) W
    have q_ta_bytes_u64 := fun W => ta_bytes_u64 (.slice A tx'.length c) W
    have q_ta_bytes_f32 := fun W => ta_bytes_f32 (.slice A tx'.length c) W
    have q_ta_bytes_f64 := fun W => ta_bytes_f64 (.slice A tx'.length c) W
    have q_ta_bytes_bytes := fun W => ta_bytes_bytes (.slice A tx'.length c) W
    go_enter Tryd.func37, Tryd.ntmps37
    go_wp2
    exact told_ret rfl rfl rfl
  | str s =>
    rw [strOfNums_bs]
    have q_ta_str_int := fun W => ta_str_int (.string s) W
    have q_ta_str_uint := fun W => ta_str_uint (.string s) W
    have q_ta_str_u32 := fun W => ta_str_u32 (.string s) W
    have q_ta_str_u64 := fun W => ta_str_u64 (.string s) W
    have q_ta_str_f32 := fun W => ta_str_f32 (.string s) W
    have q_ta_str_f64 := fun W => ta_str_f64 (.string s) W
    have q_ta_str_bytes := fun W => ta_str_bytes (.string s) W
    have q_ta_str_str := fun W => ta_str_str (.string s) W
    go_enter Tryd.func37, Tryd.ntmps37
    go_wp2
    exact told_ret rfl rfl rfl
end Go.Proofs.YtangjgclpipjdaaDoor
set_option linter.unusedVariables false
namespace Go.Proofs.YtangjgclpipjdaaDoor
open Go.RowKit Go.Proofs.YtangjgclpipjdaaDoorW.PrintWords Go.Proofs.YtangjgclpipjdaaDoorW.PrintLast Go.Proofs.YtangjgclpipjdaaDoorW.PrintMore
/-- A kind of elements of several cells, none of which leads elsewhere. -/
def flat {α : Type} (n : Nat) (enc : α → List Value) (hl : ∀ x, (enc x).length = n) (h1 : ∀ x, ∀ u ∈ enc x, u.oneCell' = true) : Kd α where
  sz := n
  E := []
  K := fun _ x cs => cs = enc x
  M := fun _ _ _ x cs => cs = enc x
  K_len := fun h => by rw [h]; exact hl _
  K_one := fun h u hu => by rw [h] at hu; exact h1 _ u hu
  K_below := fun _ h => h
  K_of_M := fun h => h
  M_mono := fun _ h => h
  M_bound := fun h => h
  M_move := fun _ h => h
  M_lower := fun _ h => h
structure VarT where
  nm : ByteArray
  ty : Int
  i : Int
  u : Int
  tx : ByteArray
def VarT.cells (v : VarT) : List Value := [.string v.nm, .int .i64 v.ty, .int .i64 v.i, .int .u64 v.u, .string v.tx]
def kVar : Kd VarT := flat 5 VarT.cells (fun _ => rfl) (fun x u hu => by
  simp only [VarT.cells, List.mem_cons, List.not_mem_nil, or_false] at hu
  rcases hu with rfl | rfl | rfl | rfl | rfl <;> rfl)
theorem add_step (ad : Addr) (m k : Nat) (hk : k ≠ 0) : ad.add (m + k) = ⟨(ad.add m).block, (ad.add m).off + k, none⟩ := by
  rw [← add_add]
  generalize ad.add m = q
  simp [Go.Addr.add, hk]
/-- The cells of the variable at a place. -/
theorem var_at {w : World} {A : Option Addr} {vs : List VarT} (h : Kd.C kVar w A vs.length vs) (j : Nat) (hj : j < vs.length) : ∃ ad, A = some ad ∧
    w.cell? (ad.add (j * 5)) = some (.string vs[j].nm) ∧ w.cell? ⟨(ad.add (j * 5)).block, (ad.add (j * 5)).off + 1, none⟩ = some (.int .i64 vs[j].ty) ∧ w.cell? ⟨(ad.add (j * 5)).block, (ad.add (j * 5)).off + 2, none⟩ = some (.int .i64 vs[j].i) ∧ w.cell? ⟨(ad.add (j * 5)).block, (ad.add (j * 5)).off + 3, none⟩ = some (.int .u64 vs[j].u) ∧ w.cell? ⟨(ad.add (j * 5)).block, (ad.add (j * 5)).off + 4, none⟩ = some (.string vs[j].tx) := by
  obtain ⟨ad, e, hc⟩ := h.2.2 (by omega)
  obtain ⟨cs, hl, hk, hcell⟩ := hc j vs[j] (List.getElem?_eq_getElem hj)
  have hk' : cs = vs[j].cells := hk
  subst hk'
  have h0 := hcell 0 _ rfl
  have h1 := hcell 1 _ rfl
  have h2 := hcell 2 _ rfl
  have h3 := hcell 3 _ rfl
  have h4 := hcell 4 _ rfl
  rw [add_step _ _ _ (by decide)] at h1 h2 h3 h4
  exact ⟨ad, e, h0, h1, h2, h3, h4⟩
def fits1 (v : VarT) : Bool := decide (v.nm.size ≤ 2147483647 ∧ v.tx.size ≤ 2147483647)
set_option maxRecDepth 100000 in
set_option maxHeartbeats 4000000 in
theorem fits3_any (A : Option Addr) (c : Nat) (vs : List VarT) (w : World) (hC : Kd.C kVar w A vs.length vs) :
    Calls Tryd.prog 38 #[.slice A vs.length c] w fun e w' => e = .returned (.bool (decide (vs.length ≤ 2147483647 ∧ ∀ v ∈ vs, fits1 v = true))) ∧ Below w.heap.size w w' := by
  have HC := Lib.hid hC
  have hm := Kd.C_max hC
  clear hC
  by_cases hlen : vs.length ≤ 2147483647
  case neg =>
    have hd : decide (vs.length ≤ 2147483647 ∧ ∀ v ∈ vs, fits1 v = true) = false := decide_eq_false (fun h => hlen h.1)
    rw [hd]
    go_enter Tryd.func38, Tryd.ntmps38
    go_wp2
    go_ret
    exact ⟨rfl, Below.refl _ _⟩
  go_enter Tryd.func38, Tryd.ntmps38
  go_wp2
  go_loopg [4, 10] vs.length (fun k v4 v10 wr => ∃ j : Nat, v10 = .int .i64 j ∧ Hid (j ≤ vs.length ∧ k = vs.length - j ∧ (∀ v ∈ vs.take j, fits1 v = true) ∧ Below w.heap.size w wr))
  case atStart => exact ⟨0, rfl, Lib.hid ⟨Nat.zero_le _, rfl, by simp, Below.refl _ _⟩⟩
  case round =>
    obtain ⟨j, rfl, HJ⟩ := hrel
    obtain ⟨hj, hk, hall, hb⟩ := HJ.out
    clear HJ
    by_cases hjl : j < vs.length
    · obtain ⟨ad, rfl, q0, q1, q2, q3, q4⟩ := var_at (Kd.C_below HC.out hb) j hjl
      have HJ := Lib.hid (And.intro hk (And.intro hall hb))
      clear hk hall hb
      generalize hvj : vs[j] = vj at *
      have HV := Lib.hid hvj
      clear hvj
      go_wp2_with fail
      refine (fits1_any vj.nm vj.tx vj.ty vj.i vj.u _).mono ?_
      rintro e w2 ⟨rfl, hb2⟩
      have b1 := (Below.refl wr.heap.size wr).alloc (Nat.le_refl _) (varO vj.nm vj.ty vj.i vj.u vj.tx)
      have H2 := Lib.hid (below_step (below_step HJ.out.2.2 b1) hb2)
      clear b1 hb2 q0 q1 q2 q3 q4
      by_cases hf : vj.nm.size ≤ 2147483647 ∧ vj.tx.size ≤ 2147483647
      · have hd : decide (vj.nm.size ≤ 2147483647 ∧ vj.tx.size ≤ 2147483647) = true := decide_eq_true hf
        rw [hd]
        have HF := Lib.hid hd
        clear hd hf
        go_wp2
        go_roundg (vs.length - (j + 1))
        case measure =>
          have := HJ.out.1
          omega
        case rel => exact ⟨j + 1, by go_num, Lib.hid ⟨by omega, rfl, by
          intro v hv
          rw [List.take_succ_eq_append_getElem hjl] at hv
          rcases List.mem_append.1 hv with hv | hv
          · exact HJ.out.2.1 v hv
          · simp only [List.mem_singleton] at hv
            subst hv
            rw [HV.out]
            exact HF.out, H2.out⟩⟩
      · have hd : decide (vj.nm.size ≤ 2147483647 ∧ vj.tx.size ≤ 2147483647) = false := decide_eq_false hf
        rw [hd]
        have HF := Lib.hid hd
        clear hd hf
        go_wp2
        go_ret
        refine ⟨?_, H2.out⟩
        have hd2 : decide (vs.length ≤ 2147483647 ∧ ∀ v ∈ vs, fits1 v = true) = false := decide_eq_false (fun h => by
          have := h.2 vs[j] (List.getElem_mem hjl)
          rw [HV.out] at this
          have h2 := HF.out
          unfold fits1 at this
          rw [h2] at this
          cases this)
        rw [hd2]
        rfl
    · obtain rfl : j = vs.length := by omega
      rw [List.take_length] at hall
      have hd : decide (vs.length ≤ 2147483647 ∧ ∀ v ∈ vs, fits1 v = true) = true := decide_eq_true ⟨hlen, hall⟩
      have HD := Lib.hid hd
      clear hd hall hk
      go_wp2
      go_ret
      exact ⟨by rw [HD.out]; rfl, hb⟩
structure MsgT where
  ver : Int
  com : ByteArray
  kind : Int
  id : Int
  st : Int
  ix : Int
  ent : ByteArray
  ag : ByteArray
  gen : Int
  spc : Int
  tm : Int
/-- A message's cells: v its list. -/
abbrev MsgT.arr (m : MsgT) (v : Value) : Array Value := #[.int .i64 m.ver, .string m.com, .int .i64 m.kind, .int .u32 m.id, .int .i64 m.st, .int .i64 m.ix, v, .string m.ent, .string m.ag, .int .i64 m.gen, .int .i64 m.spc, .int .u64 m.tm]
abbrev msgO (m : MsgT) (v : Value) : Obj := .cells (m.arr v) 40 (0, 0)
def fits2 (m : MsgT) (vs : List VarT) : Bool := decide (m.com.size ≤ 2147483647) && (decide (vs.length ≤ 2147483647 ∧ ∀ v ∈ vs, fits1 v = true) && (decide (m.ent.size ≤ 2147483647) && decide (m.ag.size ≤ 2147483647)))
set_option maxRecDepth 100000 in
set_option maxHeartbeats 4000000 in
theorem fits2_any (m : MsgT) (A : Option Addr) (c : Nat) (vs : List VarT) (w : World) (hC : Kd.C kVar w A vs.length vs) :
    Calls Tryd.prog 14 #[.agg (m.arr (.slice A vs.length c))] w fun e w' => e = .returned (.bool (fits2 m vs)) ∧ Below w.heap.size w w' := by
  have hal := (Below.refl w.heap.size w).alloc (Nat.le_refl _) (msgO m (.slice A vs.length c))
  have hblk := blk_new w (msgO m (.slice A vs.length c))
  have HH := Lib.hid (And.intro (Kd.C_below hC hal) (And.intro hal hblk))
  clear hC hal hblk
  by_cases h1 : (2147483647 : Int) < m.com.size
  · have hf : fits2 m vs = false := by unfold fits2; rw [decide_eq_false (by omega)]; rfl
    go_enter Tryd.func14, Tryd.ntmps14
    go_wp2
    go_ret
    exact ⟨by rw [hf]; rfl, HH.out.2.1⟩
  go_enter Tryd.func14, Tryd.ntmps14
  go_wp2_with fail
  refine (fits3_any A c vs _ HH.out.1).mono ?_
  rintro e w1 ⟨rfl, hb1⟩
  have hb := below_step HH.out.2.1 hb1
  have hw := blk_below HH.out.2.2 hb1
  obtain ⟨f3, hf3⟩ : ∃ b, b = decide (vs.length ≤ 2147483647 ∧ ∀ v ∈ vs, fits1 v = true) := ⟨_, rfl⟩
  rw [← hf3]
  have k7 : w1.cell? ⟨w.heap.size, 7, none⟩ = some (.string m.ent) := (blk_cell hw 7).trans rfl
  have k8 : w1.cell? ⟨w.heap.size, 8, none⟩ = some (.string m.ag) := (blk_cell hw 8).trans rfl
  have HF := Lib.hid (show fits2 m vs = (f3 && (decide (m.ent.size ≤ 2147483647) && decide (m.ag.size ≤ 2147483647))) by unfold fits2; rw [decide_eq_true (by omega), ← hf3]; rfl)
  have HB := Lib.hid hb
  clear hb1 hb hw hf3 HH
  cases f3 with
  | false =>
    go_wp2
    go_ret
    exact ⟨by rw [HF.out]; rfl, HB.out⟩
  | true =>
  by_cases h2 : (2147483647 : Int) < m.ent.size
  · go_wp2
    go_ret
    exact ⟨by rw [HF.out, decide_eq_false (show ¬ m.ent.size ≤ 2147483647 by omega)]; rfl, HB.out⟩
  by_cases h3 : (2147483647 : Int) < m.ag.size
  · go_wp2
    go_ret
    exact ⟨by rw [HF.out, decide_eq_false (show ¬ m.ag.size ≤ 2147483647 by omega), Bool.and_false, Bool.and_false]; rfl, HB.out⟩
  go_wp2
  go_ret
  exact ⟨by rw [HF.out, decide_eq_true (show m.ent.size ≤ 2147483647 by omega), decide_eq_true (show m.ag.size ≤ 2147483647 by omega)]; rfl, HB.out⟩
end Go.Proofs.YtangjgclpipjdaaDoor
set_option linter.unusedVariables false
namespace Go.Proofs.YtangjgclpipjdaaDoor
open Go.RowKit Go.Proofs.YtangjgclpipjdaaDoorW.PrintWords Go.Proofs.YtangjgclpipjdaaDoorW.PrintLast Go.Proofs.YtangjgclpipjdaaDoorW.PrintMore
structure Ask where
  arcs : List Int
  c : List Int
  i : Int
  u : Int
  tx : List Int
/-- A variable that is asked, with what is asked of it. -/
def okQ (q : VarT × Ask) : Prop := Asked q.1.nm q.1.tx q.1.ty q.1.i q.1.u q.2.arcs q.2.c q.2.i q.2.u q.2.tx
def toldQ (q : VarT × Ask) : VarT := ⟨strOfNums (sDot q.2.arcs), q.1.ty, q.2.i, q.2.u, strOfNums q.2.tx⟩
def OwnV (w : World) (B : Nat) (v : Value) (xs : List VarT) : Prop := Kd.R kVar 24 w B (fun _ => True) v xs
structure MsgOk (m : MsgT) (n : Nat) : Prop where
  v0 : 0 ≤ m.ver
  v1 : m.ver ≤ 1
  com : m.com.size ≤ 127
  k0 : 160 ≤ m.kind
  k1 : m.kind ≤ 168
  k4 : m.kind ≠ 164
  s0 : 0 ≤ m.st
  s1 : m.st ≤ 127
  x0 : 0 ≤ m.ix
  x1 : m.ix ≤ 127
  n20 : n ≤ 20
  i1 : m.id ≤ 2147483647
  ent : m.ent = ⟨#[]⟩
  ag : m.ag = ⟨#[]⟩
  gen : m.gen = 0
  spc : m.spc = 0
  tm : m.tm = 0
abbrev zeroM : MsgT := ⟨0, ⟨#[]⟩, 0, 0, 0, 0, ⟨#[]⟩, ⟨#[]⟩, 0, 0, 0⟩
theorem infoMsg : (Tryd.prog.info? 40).map (·.size) = some 12 := by kernel_rfl
theorem results_cb {P : Program} {fn : Func} {p u : Tmp} {ty : TypeId} (h : fn.results = #[.cell p ty, .tmp u]) (tmps : Array Value) (w : World) (g : Nat) (t : TypeId) (cs : Array Value) (fr : Nat × Nat) (d : TypeDesc)
    (hp : tmps.getD p undef = .pointer (some ⟨g, 0, none⟩)) (hg : w.heap[g]? = some (.cells cs t fr))
    (hu : P.underlying ty = some d) (hd : (match d with | .struct _ | .array _ _ => true | _ => false) = true) (hi : (P.info? ty).map (·.size) = some cs.size) :
    (results fn tmps).run P w = .ok (.tuple #[.agg cs, tmps.getD u undef]) w := by
  have hp' : tmps[p]?.getD undef = .pointer (some ⟨g, 0, none⟩) := by simpa using hp
  simp [results, h, hp', asAddr, run_loadVar_row w g t ty cs fr d hg hu hd hi]
theorem msg_no {fn : Func} {p u : Tmp} (h : fn.results = #[.cell p 40, .tmp u]) {a : Act} {w : World} {o : Obj} (hp : a.tmps.getD p undef = .pointer (some ⟨w.heap.size + 1, 0, none⟩)) (hu : a.tmps.getD u undef = .bool false) (hd : a.defers = []) :
    bodyPost Tryd.prog fn (fun e w' => Below w.heap.size w w' ∧ e = .returned (.tuple #[.agg (zeroM.arr (.slice none 0 0)), .bool false])) .ret a ((w.alloc o).alloc (msgO zeroM (.slice none 0 0))) := by
  have hb := blk_new (w.alloc o) (msgO zeroM (.slice none 0 0))
  rw [show (w.alloc o).heap.size = w.heap.size + 1 by simp] at hb
  refine bodyPost_ret (results_cb h _ _ (w.heap.size + 1) 40 (zeroM.arr (.slice none 0 0)) (0, 0) _ hp hb Tryd.underlying40 rfl infoMsg) hd ⟨((Below.refl w.heap.size w).alloc (Nat.le_refl _) _).alloc (by simp) _, by rw [hu]⟩
theorem toList_len (b : ByteArray) (k : Nat) : ∀ (i : Nat) (r : List UInt8), b.size - i = k → (ByteArray.toList.loop b i r).length = r.length + k := by
  induction k with
  | zero =>
    intro i r h
    unfold ByteArray.toList.loop
    rw [if_neg (by omega)]
    simp
  | succ k ih =>
    intro i r h
    unfold ByteArray.toList.loop
    rw [if_pos (by omega), ih (i + 1) _ (by omega)]
    simp
    omega
theorem toList_nil {b : ByteArray} (h : b.toList = []) : b = ⟨#[]⟩ := by
  have h2 := toList_len b b.size 0 [] (by omega)
  have h3 : (ByteArray.toList.loop b 0 []).length = 0 := by
    have : ByteArray.toList.loop b 0 [] = [] := h
    rw [this]; rfl
  have h4 : b.size = 0 := by simp at h2; omega
  obtain ⟨⟨l⟩⟩ := b
  have h5 : l.length = 0 := h4
  rw [List.eq_nil_of_length_eq_zero h5]
end Go.Proofs.YtangjgclpipjdaaDoor
set_option linter.unusedVariables false
namespace Go.Proofs.YtangjgclpipjdaaDoor
open Go.RowKit Go.Proofs.YtangjgclpipjdaaDoorW.PrintWords Go.Proofs.YtangjgclpipjdaaDoorW.PrintLast Go.Proofs.YtangjgclpipjdaaDoorW.PrintMore
theorem msg_cells {W : World} {g : Nat} {m : MsgT} {v : Value} (h : W.heap[g]? = some (msgO m v)) : W.cell? ⟨g, 0, none⟩ = some (.int .i64 m.ver) ∧ W.cell? ⟨g, 1, none⟩ = some (.string m.com) ∧ W.cell? ⟨g, 2, none⟩ = some (.int .i64 m.kind) ∧ W.cell? ⟨g, 3, none⟩ = some (.int .u32 m.id) ∧ W.cell? ⟨g, 4, none⟩ = some (.int .i64 m.st) ∧ W.cell? ⟨g, 5, none⟩ = some (.int .i64 m.ix) ∧ W.cell? ⟨g, 6, none⟩ = some (v) ∧ W.cell? ⟨g, 7, none⟩ = some (.string m.ent) ∧ W.cell? ⟨g, 8, none⟩ = some (.string m.ag) ∧ W.cell? ⟨g, 9, none⟩ = some (.int .i64 m.gen) ∧ W.cell? ⟨g, 10, none⟩ = some (.int .i64 m.spc) ∧ W.cell? ⟨g, 11, none⟩ = some (.int .u64 m.tm) :=
  ⟨(blk_cell h 0).trans rfl, (blk_cell h 1).trans rfl, (blk_cell h 2).trans rfl, (blk_cell h 3).trans rfl, (blk_cell h 4).trans rfl, (blk_cell h 5).trans rfl, (blk_cell h 6).trans rfl, (blk_cell h 7).trans rfl, (blk_cell h 8).trans rfl, (blk_cell h 9).trans rfl, (blk_cell h 10).trans rfl, (blk_cell h 11).trans rfl⟩
/-- A message stored into a block of one. -/
abbrev setMsg (W : World) (g : Nat) (m : MsgT) (v : Value) : World := ((((((((((((W.setCell ⟨g, 0, none⟩ (.int .i64 m.ver)).setCell ⟨g, 1, none⟩ (.string m.com)).setCell ⟨g, 2, none⟩ (.int .i64 m.kind)).setCell ⟨g, 3, none⟩ (.int .u32 m.id)).setCell ⟨g, 4, none⟩ (.int .i64 m.st)).setCell ⟨g, 5, none⟩ (.int .i64 m.ix)).setCell ⟨g, 6, none⟩ (v)).setCell ⟨g, 7, none⟩ (.string m.ent)).setCell ⟨g, 8, none⟩ (.string m.ag)).setCell ⟨g, 9, none⟩ (.int .i64 m.gen)).setCell ⟨g, 10, none⟩ (.int .i64 m.spc)).setCell ⟨g, 11, none⟩ (.int .u64 m.tm))
theorem setMsg_new {W : World} {g : Nat} {m' : MsgT} {v' : Value} (c : W.heap[g]? = some (msgO m' v')) (m : MsgT) (v : Value) : (setMsg W g m v).heap[g]? = some (msgO m v) := by
  have g0 := blk_put (cs' := #[.int .i64 m.ver, .string m'.com, .int .i64 m'.kind, .int .u32 m'.id, .int .i64 m'.st, .int .i64 m'.ix, v', .string m'.ent, .string m'.ag, .int .i64 m'.gen, .int .i64 m'.spc, .int .u64 m'.tm]) c 0 (.int .i64 m.ver) rfl
  have g1 := blk_put (cs' := #[.int .i64 m.ver, .string m.com, .int .i64 m'.kind, .int .u32 m'.id, .int .i64 m'.st, .int .i64 m'.ix, v', .string m'.ent, .string m'.ag, .int .i64 m'.gen, .int .i64 m'.spc, .int .u64 m'.tm]) g0 1 (.string m.com) rfl
  have g2 := blk_put (cs' := #[.int .i64 m.ver, .string m.com, .int .i64 m.kind, .int .u32 m'.id, .int .i64 m'.st, .int .i64 m'.ix, v', .string m'.ent, .string m'.ag, .int .i64 m'.gen, .int .i64 m'.spc, .int .u64 m'.tm]) g1 2 (.int .i64 m.kind) rfl
  have g3 := blk_put (cs' := #[.int .i64 m.ver, .string m.com, .int .i64 m.kind, .int .u32 m.id, .int .i64 m'.st, .int .i64 m'.ix, v', .string m'.ent, .string m'.ag, .int .i64 m'.gen, .int .i64 m'.spc, .int .u64 m'.tm]) g2 3 (.int .u32 m.id) rfl
  have g4 := blk_put (cs' := #[.int .i64 m.ver, .string m.com, .int .i64 m.kind, .int .u32 m.id, .int .i64 m.st, .int .i64 m'.ix, v', .string m'.ent, .string m'.ag, .int .i64 m'.gen, .int .i64 m'.spc, .int .u64 m'.tm]) g3 4 (.int .i64 m.st) rfl
  have g5 := blk_put (cs' := #[.int .i64 m.ver, .string m.com, .int .i64 m.kind, .int .u32 m.id, .int .i64 m.st, .int .i64 m.ix, v', .string m'.ent, .string m'.ag, .int .i64 m'.gen, .int .i64 m'.spc, .int .u64 m'.tm]) g4 5 (.int .i64 m.ix) rfl
  have g6 := blk_put (cs' := #[.int .i64 m.ver, .string m.com, .int .i64 m.kind, .int .u32 m.id, .int .i64 m.st, .int .i64 m.ix, v, .string m'.ent, .string m'.ag, .int .i64 m'.gen, .int .i64 m'.spc, .int .u64 m'.tm]) g5 6 (v) rfl
  have g7 := blk_put (cs' := #[.int .i64 m.ver, .string m.com, .int .i64 m.kind, .int .u32 m.id, .int .i64 m.st, .int .i64 m.ix, v, .string m.ent, .string m'.ag, .int .i64 m'.gen, .int .i64 m'.spc, .int .u64 m'.tm]) g6 7 (.string m.ent) rfl
  have g8 := blk_put (cs' := #[.int .i64 m.ver, .string m.com, .int .i64 m.kind, .int .u32 m.id, .int .i64 m.st, .int .i64 m.ix, v, .string m.ent, .string m.ag, .int .i64 m'.gen, .int .i64 m'.spc, .int .u64 m'.tm]) g7 8 (.string m.ag) rfl
  have g9 := blk_put (cs' := #[.int .i64 m.ver, .string m.com, .int .i64 m.kind, .int .u32 m.id, .int .i64 m.st, .int .i64 m.ix, v, .string m.ent, .string m.ag, .int .i64 m.gen, .int .i64 m'.spc, .int .u64 m'.tm]) g8 9 (.int .i64 m.gen) rfl
  have g10 := blk_put (cs' := #[.int .i64 m.ver, .string m.com, .int .i64 m.kind, .int .u32 m.id, .int .i64 m.st, .int .i64 m.ix, v, .string m.ent, .string m.ag, .int .i64 m.gen, .int .i64 m.spc, .int .u64 m'.tm]) g9 10 (.int .i64 m.spc) rfl
  have g11 := blk_put (cs' := #[.int .i64 m.ver, .string m.com, .int .i64 m.kind, .int .u32 m.id, .int .i64 m.st, .int .i64 m.ix, v, .string m.ent, .string m.ag, .int .i64 m.gen, .int .i64 m.spc, .int .u64 m.tm]) g10 11 (.int .u64 m.tm) rfl
  exact g11
theorem setMsg_below {W0 W : World} {g : Nat} (h : Below W0.heap.size W0 W) (hg : W0.heap.size ≤ g) (m : MsgT) (v : Value) : Below W0.heap.size W0 (setMsg W g m v) :=
  (below_set (below_set (below_set (below_set (below_set (below_set (below_set (below_set (below_set (below_set (below_set (below_set h hg) hg) hg) hg) hg) hg) hg) hg) hg) hg) hg) hg)
theorem setMsg_far {W : World} {g k : Nat} {o : Obj} (ho : W.heap[k]? = some o) (hk : k ≠ g) (m : MsgT) (v : Value) : (setMsg W g m v).heap[k]? = some o := by
  unfold setMsg
  rw [Below.heap_setCell _ _ _ _ (by exact hk)]
  rw [Below.heap_setCell _ _ _ _ (by exact hk)]
  rw [Below.heap_setCell _ _ _ _ (by exact hk)]
  rw [Below.heap_setCell _ _ _ _ (by exact hk)]
  rw [Below.heap_setCell _ _ _ _ (by exact hk)]
  rw [Below.heap_setCell _ _ _ _ (by exact hk)]
  rw [Below.heap_setCell _ _ _ _ (by exact hk)]
  rw [Below.heap_setCell _ _ _ _ (by exact hk)]
  rw [Below.heap_setCell _ _ _ _ (by exact hk)]
  rw [Below.heap_setCell _ _ _ _ (by exact hk)]
  rw [Below.heap_setCell _ _ _ _ (by exact hk)]
  rw [Below.heap_setCell _ _ _ _ (by exact hk)]
  exact ho
end Go.Proofs.YtangjgclpipjdaaDoor
set_option linter.unusedVariables false
namespace Go.Proofs.YtangjgclpipjdaaDoor
open Go.RowKit Go.Proofs.YtangjgclpipjdaaDoorW.PrintWords Go.Proofs.YtangjgclpipjdaaDoorW.PrintLast Go.Proofs.YtangjgclpipjdaaDoorW.PrintMore
theorem beVal_zeros (k : Nat) (l : List Int) : beVal (List.replicate k 0 ++ l) 0 = beVal l 0 := by
  induction k with
  | zero => rfl
  | succ k ih => rw [List.replicate_succ]; exact ih
theorem beVal_lenBytes (n : Int) (h0 : 0 ≤ n) (h1 : n ≤ 4294967295) : beVal (lenBytes n) 0 = n := by
  unfold lenBytes
  split
  · simp [beVal]; omega
  split
  · simp [beVal]
  split
  · simp [beVal]; omega
  split
  · simp [beVal]; omega
  · simp [beVal]; omega
theorem lenBytes_isB (n : Int) (h1 : n ≤ 4294967295) : IsB (lenBytes n) := by
  unfold lenBytes
  intro x hx
  split at hx
  · simp at hx
  split at hx
  · simp at hx; omega
  split at hx
  · simp at hx; omega
  split at hx
  · simp at hx; omega
  · simp at hx; omega
theorem isB_append {a b : List Int} (ha : IsB a) (hb : IsB b) : IsB (a ++ b) := fun x hx => (List.mem_append.1 hx).elim (ha x) (hb x)
theorem isB_cons {x : Int} {b : List Int} (h0 : 0 ≤ x) (h1 : x ≤ 255) (hb : IsB b) : IsB (x :: b) := fun y hy => (List.mem_cons.1 hy).elim (fun e => by omega) (hb y)
theorem isB_zeros (k : Nat) : IsB (List.replicate k 0) := fun x hx => by rw [List.eq_of_mem_replicate hx]; omega
theorem sLen_isB (n : Int) (wide : Nat) (h0 : 0 ≤ n) (h1 : n ≤ 4294967295) (hw : wide ≤ 100) : IsB (sLen n wide) := by
  have := lenBytes_len n
  unfold sLen
  split
  · exact isB_cons h0 (by omega) (fun x hx => by simp at hx)
  · exact isB_cons (by omega) (by omega) (isB_append (isB_zeros _) (lenBytes_isB n h1))
theorem sSealed_isB (tag : Int) (c : List Int) (wide : Nat) (hc : IsB c) (h : c.length ≤ 4294967295) (hw : wide ≤ 100) : IsB (sSealed tag c wide) :=
  isB_cons (by omega) (by omega) (isB_append (sLen_isB _ _ (by omega) (by omega) hw) hc)
/-- What parseLength asks of bytes that begin with an element. -/
def LenOk (xs : List Int) : Prop := 2 ≤ xs.length ∧ rd xs 1 ≠ 128 ∧ rd xs 1 ≤ 135 ∧ (127 < rd xs 1 → 2 + (rd xs 1 - 128).toNat ≤ xs.length)
theorem sealed_read (tag : Int) (c rest : List Int) (wide : Nat) (hw : wide ≤ 3) (h : c.length ≤ 4294967295) :
    LenOk (sSealed tag c wide ++ rest) ∧ pLen (sSealed tag c wide ++ rest) = (((sSealed tag c wide).length : Int), ((sSealed tag c wide).length : Int) - c.length) := by
  have hb := lenBytes_len c.length
  by_cases hs : (c.length : Int) < 128 ∧ wide = 0
  · have e : sSealed tag c wide = tag % 256 :: (c.length : Int) :: c := by unfold sSealed sLen; rw [if_pos hs]; rfl
    rw [e]
    have r1 : rd (tag % 256 :: (c.length : Int) :: c ++ rest) 1 = c.length := rfl
    unfold LenOk pLen
    rw [r1, if_pos (by omega)]
    refine ⟨⟨by simp, by omega, by omega, fun h => by omega⟩, ?_⟩
    simp only [List.length_cons]
    rw [Prod.mk.injEq]
    omega
  · have e : sSealed tag c wide = tag % 256 :: (128 + ((lenBytes c.length).length + wide : Nat) : Int) :: (List.replicate wide 0 ++ lenBytes c.length ++ c) := by unfold sSealed sLen; rw [if_neg hs]; rfl
    have hpos : 1 ≤ (lenBytes c.length).length + wide := by
      by_cases h0 : wide = 0
      · have : ¬ (c.length : Int) ≤ 0 := by omega
        unfold lenBytes
        rw [if_neg this]
        split
        · simp
        split
        · simp; omega
        split <;> simp <;> omega
      · omega
    rw [e]
    generalize hm : (lenBytes (c.length : Int)).length + wide = m at *
    have r1 : rd (tag % 256 :: (128 + (m : Nat) : Int) :: (List.replicate wide 0 ++ lenBytes c.length ++ c) ++ rest) 1 = 128 + (m : Int) := rfl
    have hl : (tag % 256 :: (128 + (m : Nat) : Int) :: (List.replicate wide 0 ++ lenBytes c.length ++ c)).length = 2 + m + c.length := by simp; omega
    have ht : ((tag % 256 :: (128 + (m : Nat) : Int) :: (List.replicate wide 0 ++ lenBytes c.length ++ c) ++ rest).drop 2).take m = List.replicate wide 0 ++ lenBytes c.length := by
      simp only [List.cons_append, List.drop_succ_cons, List.drop_zero, List.append_assoc]
      rw [← List.append_assoc, List.take_append_of_le_length (by simp; omega), List.take_of_length_le (by simp; omega)]
    unfold LenOk pLen
    rw [r1, if_neg (by omega), show (128 + (m : Int) - 128).toNat = m by omega, ht, beVal_zeros, beVal_lenBytes _ (by omega) (by omega), List.length_append, hl]
    refine ⟨⟨by omega, by omega, by omega, fun _ => by omega⟩, ?_⟩
    rw [Prod.mk.injEq]
    omega
end Go.Proofs.YtangjgclpipjdaaDoor
set_option linter.unusedVariables false
namespace Go.Proofs.YtangjgclpipjdaaDoor
open Go.RowKit Go.Proofs.YtangjgclpipjdaaDoorW.PrintWords Go.Proofs.YtangjgclpipjdaaDoorW.PrintLast Go.Proofs.YtangjgclpipjdaaDoorW.PrintMore
/-- Bytes that begin with a whole element. -/
def OpenOk (b : List Int) : Prop := 2 ≤ b.length ∧ rd b 1 ≠ 128 ∧ rd b 1 ≤ 132 ∧ (127 < rd b 1 → 2 + (rd b 1 - 128).toNat ≤ b.length) ∧ (pLen b).1 ≤ b.length
instance (b : List Int) : Decidable (OpenOk b) := by unfold OpenOk; infer_instance
/-- Tag, content, what is behind. -/
def sOpen (b : List Int) : Option (Int × List Int × List Int) :=
  if OpenOk b then some (rd b 0, (b.take (pLen b).1.toNat).drop (pLen b).2.toNat, b.drop (pLen b).1.toNat) else none
theorem pLen_ge (b : List Int) (hb : IsB b) (h : OpenOk b) : 2 ≤ (pLen b).2 ∧ (pLen b).2 ≤ (pLen b).1 ∧ (pLen b).1 ≤ b.length := by
  refine ⟨?_, ?_, h.2.2.2.2⟩
  · unfold pLen
    split <;> simp only <;> omega
  · have h1 := hb.rd 1
    unfold pLen
    split
    · simp only; omega
    · have := (beVal_bound ((b.drop 2).take (rd b 1 - 128).toNat) (isB_take (isB_drop hb 2) _) 0 (Int.le_refl 0)).1
      simp only
      omega
theorem sOpen_sealed (tag : Int) (c rest : List Int) (wide : Nat) (t0 : 0 ≤ tag) (t1 : tag ≤ 255) (hc : c.length ≤ 4294967295) (hw : wide ≤ 3) (h4 : (lenBytes c.length).length + wide ≤ 4) : sOpen (sSealed tag c wide ++ rest) = some (tag, c, rest) := by
  obtain ⟨⟨a1, a2, a3, a4⟩, hp⟩ := sealed_read tag c rest wide hw hc
  have hs : sSealed tag c wide = (tag % 256 :: sLen c.length wide) ++ c := by unfold sSealed; simp
  have h132 : rd (sSealed tag c wide ++ rest) 1 ≤ 132 := by
    have hlb := lenBytes_len c.length
    unfold sSealed sLen
    split
    · show ((c.length : Nat) : Int) ≤ 132; omega
    · show (128 + ((lenBytes (c.length : Int)).length + wide : Nat) : Int) ≤ 132; omega
  have hle : (sSealed tag c wide).length = (tag % 256 :: sLen c.length wide).length + c.length := by rw [hs]; simp; omega
  generalize hh : (tag % 256 :: sLen c.length wide) = hd at *
  have hok : OpenOk (sSealed tag c wide ++ rest) := ⟨a1, a2, h132, a4, by rw [hp]; simp; omega⟩
  unfold sOpen
  rw [if_pos hok, hp]
  simp only [Int.toNat_natCast]
  rw [show ((sSealed tag c wide).length : Int) - c.length = (hd.length : Nat) by omega, Int.toNat_natCast, List.take_left', List.drop_left' rfl, hs, List.drop_left' rfl]
  · have h0 : rd (hd ++ c ++ rest) 0 = tag := by
      rw [← hh]
      show tag % 256 = tag
      omega
    rw [h0]
  · rfl
theorem sOpen_len {b c rest : List Int} {t : Int} (hb : IsB b) (h : sOpen b = some (t, c, rest)) : c.length + rest.length + 2 ≤ b.length := by
  unfold sOpen at h
  split at h
  · rename_i hok
    simp only [Option.some.injEq, Prod.mk.injEq] at h
    obtain ⟨-, rfl, rfl⟩ := h
    have := pLen_ge b hb hok
    simp
    omega
  · simp at h
theorem sOpen_isB {b c rest : List Int} {t : Int} (hb : IsB b) (h : sOpen b = some (t, c, rest)) : IsB c ∧ IsB rest ∧ 0 ≤ t ∧ t ≤ 255 := by
  unfold sOpen at h
  split at h
  · simp only [Option.some.injEq, Prod.mk.injEq] at h
    obtain ⟨rfl, rfl, rfl⟩ := h
    have := hb.rd 0
    exact ⟨isB_drop (isB_take hb _) _, isB_drop hb _, this.1, this.2⟩
  · simp at h
def sNext (b : List Int) (tag : Int) : Option (List Int × List Int) := match sOpen b with
  | some (t, c, rest) => if t = tag then some (c, rest) else none
  | none => none
theorem sNext_sealed (tag : Int) (c rest : List Int) (wide : Nat) (t0 : 0 ≤ tag) (t1 : tag ≤ 255) (hc : c.length ≤ 4294967295) (hw : wide ≤ 3) (h4 : (lenBytes c.length).length + wide ≤ 4) : sNext (sSealed tag c wide ++ rest) tag = some (c, rest) := by
  unfold sNext
  rw [sOpen_sealed tag c rest wide t0 t1 hc hw h4]
  simp
end Go.Proofs.YtangjgclpipjdaaDoor
set_option linter.unusedVariables false
namespace Go.Proofs.YtangjgclpipjdaaDoor
open Go.RowKit Go.Proofs.YtangjgclpipjdaaDoorW.PrintWords Go.Proofs.YtangjgclpipjdaaDoorW.PrintLast Go.Proofs.YtangjgclpipjdaaDoorW.PrintMore
theorem i64_or_low (x b : Int) (hx : x % 256 = 0) (h0 : 0 ≤ b) (h1 : b < 256) : bits .or .i64 x b = wrap64 (x + b) := by
  show IntKind.i64.wrap ((BitVec.ofInt 64 x ||| BitVec.ofInt 64 b).toNat : Int) = _
  rw [BitVec.toNat_or, BitVec.toNat_ofInt, BitVec.toNat_ofInt, nat_join 8 _ _ (by omega) (by omega)]
  rw [IntKind.wrap_i64]
  unfold wrap64
  omega
theorem u64_or_low (x b : Int) (hx : x % 256 = 0) (h0 : 0 ≤ b) (h1 : b < 256) (h2 : 0 ≤ x) (h3 : x < 18446744073709551616) : bits .or .u64 x b = x + b := by
  rw [u64_or x b h2 h3 h0 (by omega), nat_join 8 _ _ (by omega) (by omega)]
  omega
theorem w64_mul (x : Int) : wrap64 (x * 256) % 256 = 0 := by unfold wrap64; omega
theorem w64_step (x b : Int) (h0 : 0 ≤ b) (h1 : b < 256) : bits .or .i64 (wrap64 (wrap64 x * 256)) b = wrap64 (x * 256 + b) := by
  rw [i64_or_low _ _ (w64_mul _) h0 h1]
  unfold wrap64
  omega
/-- The number with a sign. -/
def sVal (xs : List Int) : Int := wrap64 (beVal xs (if rd xs 0 > 127 then -1 else 0))
theorem beVal_start (xs : List Int) : ∀ a : Int, beVal xs a = a * 256 ^ xs.length + beVal xs 0 := by
  induction xs with
  | nil => intro a; simp [beVal]
  | cons x l ih =>
    intro a
    simp only [beVal, List.length_cons]
    rw [ih (a * 256 + x), ih (0 * 256 + x), Int.pow_succ, Int.add_mul, Int.add_mul]
    rw [Int.mul_assoc, Int.mul_comm 256]
    omega
theorem beVal_head (x : Int) (l : List Int) (hb : IsB (x :: l)) : x * 256 ^ l.length ≤ beVal (x :: l) 0 ∧ beVal (x :: l) 0 < (x + 1) * 256 ^ l.length := by
  have h := beVal_bound l (fun y hy => hb y (by simp [hy])) 0 (by omega)
  have e : beVal (x :: l) 0 = x * 256 ^ l.length + beVal l 0 := by
    simp only [beVal]
    rw [beVal_start l (0 * 256 + x), Int.zero_mul, Int.zero_add]
  rw [e, Int.add_mul]
  omega
/-- The number with a sign, of its number without. -/
theorem sVal_of (xs : List Int) (hb : IsB xs) (m : Nat) (hl : xs.length = m + 1) : sVal xs = wrap64 (if 128 * 256 ^ m ≤ beVal xs 0 then beVal xs 0 - 256 ^ (m + 1) else beVal xs 0) := by
  obtain ⟨x, l, rfl⟩ : ∃ x l, xs = x :: l := List.exists_cons_of_length_eq_add_one hl
  have hlm : l.length = m := by simpa using hl
  have h := beVal_head x l hb
  rw [hlm] at h
  have hp : (0 : Int) < 256 ^ m := Int.pow_pos (by decide)
  unfold sVal
  have hx : rd (x :: l) 0 = x := rfl
  rw [hx]
  by_cases c : x > 127
  · rw [if_pos c, if_pos (Int.le_trans (Int.mul_le_mul_of_nonneg_right (by omega) (Int.le_of_lt hp)) h.1), beVal_start _ (-1), hl]
    congr 1
    omega
  · rw [if_neg c, if_neg]
    have : (x + 1) * 256 ^ m ≤ 128 * 256 ^ m := Int.mul_le_mul_of_nonneg_right (by omega) (Int.le_of_lt hp)
    omega
theorem sVal_shift (xs : List Int) (hb : IsB xs) (m : Nat) (hm : m ≤ 7) (hl : xs.length = m + 1) : wrap64 (wrap64 (beVal xs 0) * 256 ^ (7 - m)) / 256 ^ (7 - m) = sVal xs := by
  rw [sVal_of xs hb m hl]
  have h := beVal_bound xs hb 0 (by omega)
  rw [hl] at h
  generalize beVal xs 0 = v at *
  rcases (by omega : m = 0 ∨ m = 1 ∨ m = 2 ∨ m = 3 ∨ m = 4 ∨ m = 5 ∨ m = 6 ∨ m = 7) with rfl | rfl | rfl | rfl | rfl | rfl | rfl | rfl
  all_goals
    simp only [Nat.reduceAdd, Nat.reduceSub, Int.reducePow, Int.reduceMul] at h ⊢
    unfold wrap64
    split <;> omega
end Go.Proofs.YtangjgclpipjdaaDoor
