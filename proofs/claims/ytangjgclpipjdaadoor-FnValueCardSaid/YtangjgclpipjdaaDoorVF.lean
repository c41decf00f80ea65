/- spec.content: the walk. spec.plain, spec.Value: the walks. spec.Value: the walk. impl.told, laws.zzFits1: the walks. -/
import Derived.Test.YtangjgclpipjdaaDoorVE
import Derived.Test.YtangjgclpipjdaaDoorVA
import Derived.Test.YtangjgclpipjdaaDoorVD
import Derived.Lib.ConvBytes
import Derived.Lib.AtoiErrMem
set_option linter.unusedVariables false
namespace Go.Proofs.YtangjgclpipjdaaDoor
open Go.RowKit Go.Proofs.YtangjgclpipjdaaDoorW.PrintWords Go.Proofs.YtangjgclpipjdaaDoorW.PrintLast Go.Proofs.YtangjgclpipjdaaDoorW.PrintMore

/-- ([]byte, bool), bytes in new memory. -/
def GotN (w w' : World) (R : List Int × Bool) (e : Ending) : Prop := ∃ v, e = .returned (.tuple #[v, .bool R.2]) ∧ NewB w w' v R.1 ∧ Below w.heap.size w w'
theorem gotN {w w' : World} {R : List Int × Bool} {v : Value} {xs : List Int} {b : Bool} (h : R = (xs, b)) (ho : NewB w w' v xs) (hb : Below w.heap.size w w') : GotN w w' R (.returned (.tuple #[v, .bool b])) := by
  subst h
  exact ⟨v, rfl, ho, hb⟩
theorem ne_beq {a b : Int} (h : a ≠ b) : (a == b) = false := beq_eq_false_iff_ne.2 h

/-- impl.Var laid in a block. -/
abbrev varO (nm : ByteArray) (ty i u : Int) (tx : ByteArray) : Obj := .cells #[.string nm, .int .i64 ty, .int .i64 i, .int .u64 u, .string tx] 24
theorem bytesWorld_new (w : World) (s : ByteArray) (hz : s.size ≤ 2147483647) : NewB w (Lib.bytesWorld w 5 s) (.slice (some ⟨w.heap.size, 0, none⟩) s.size (grownCap w s.size 0 5)) (bs s) ∧ Below w.heap.size w (Lib.bytesWorld w 5 s) := by
  have hh := Lib.bytesWorld_at_new w 5 s
  have hsz := Lib.bytesWorld_size w 5 s
  refine ⟨⟨some ⟨w.heap.size, 0, none⟩, grownCap w s.size 0 5, by rw [bs_length], by rw [bs_length]; exact grownCap_ge w s.size 0 5, fun W' hW => ?_⟩, Lib.bytesWorld_below w 5 s⟩
  have h2 := (hW w.heap.size (Nat.le_refl _) (by rw [hsz]; omega)).trans hh
  refine Kd.C_of_reads (enc := Value.int .u8) (d := (0 : Int)) ⟨rfl, by rw [bs_length]; omega, fun _ => ⟨_, rfl, fun j hj => ?_⟩⟩
  rw [bs_length] at hj
  have e : (⟨w.heap.size, 0, none⟩ : Addr).add j = ⟨w.heap.size, j, none⟩ := by unfold Addr.add; split <;> simp_all
  rw [e]
  have h3 := Lib.bytesWorld_cell w 5 s j hj
  unfold World.cell? at h3 ⊢
  rw [hh] at h3
  rw [h2]
  refine h3.trans ?_
  have hj' : j < s.data.toList.length := by simpa using hj
  simp [bs, List.getD_eq_getElem?_getD, List.getElem?_eq_getElem hj']

set_option maxRecDepth 100000 in
set_option maxHeartbeats 1600000 in
theorem specContent_any (nm tx : ByteArray) (ty i u : Int) (i0 : -9223372036854775808 ≤ i) (i1 : i ≤ 9223372036854775807) (u0 : 0 ≤ u) (u1 : u ≤ 18446744073709551615) (hz : tx.size ≤ 2147483647) (w : World) :
    Calls Tryd.prog 22 #[varV nm ty i u tx] w fun e w' => GotN w w' (sCont ty i u (bs tx)) e := by
  obtain ⟨R, hR⟩ : ∃ R, R = sCont ty i u (bs tx) := ⟨_, rfl⟩
  rw [← hR]
  unfold sCont at hR
  have hblk := blk_new w (varO nm ty i u tx)
  have hal := (Below.refl w.heap.size w).alloc (Nat.le_refl _) (varO nm ty i u tx)
  have hald := Lib.hid (below_drew hal)
  by_cases h2 : ty = 2
  · subst h2
    rw [if_pos rfl] at hR
    have HR := Lib.hid hR
    clear hR
    have c2 := (blk_cell hblk 2).trans rfl
    by_cases hi : -2147483648 ≤ i
    · have hi' := eq_true hi
      go_enter Tryd.func22, Tryd.ntmps22
      go_wp2_with fail
      go_region_held3 (fun w' => w'.cell? ⟨w.heap.size, 2, none⟩ = some (.int .i64 i)) (first | exact c2 | exact (hb.cell (World.block_lt_of_cell? _ _ c2)).trans c2) ((go_at_call 42; refine (specInt_any i i0 i1 _).mono ?_; rintro e w' ⟨v, rfl, ho, hb⟩))
      go_wp2
      go_ret2
      exact gotN (by rw [HR.out]; congr 1; simp [hi]) (ho.newAt (by simp)) (below_step hald.out hb)
    · have hi' := eq_false hi
      have HI := Lib.hid hi
      clear hi
      go_enter Tryd.func22, Tryd.ntmps22
      go_wp2_with fail
      have mixed : Tryd.prog.follows Departure.mixedOrders = true := by kernel_rfl
      have hd' : decide (-2147483648 ≤ i) = false := decide_eq_false (by have := HI.out; omega)
      first | (go_region_with_o (go_at_call 42; refine (specInt_any i i0 i1 _).mono ?_; rintro e w' ⟨v, rfl, ho, hb⟩; have c2' := (hb.cell (World.block_lt_of_cell? _ _ c2)).trans c2)) | fail
      all_goals go_wp2
      all_goals go_ret2
      all_goals exact gotN (by rw [HR.out]; congr 1; simp [hi']) (ho.newAt (by simp)) (below_step hald.out hb)
  rw [if_neg h2] at hR
  have b2 := ne_beq h2
  by_cases h4 : ty = 4
  · subst h4
    rw [if_pos rfl] at hR
    have HR := Lib.hid hR
    clear hR b2 h2
    have c4 := (blk_cell hblk 4).trans rfl
    have hcv := fun W => Lib.run_convert_string_bytes (P := Tryd.prog) W 9 26 5 tx Tryd.underlying9 Tryd.underlying26 Tryd.underlying5
    go_enter Tryd.func22, Tryd.ntmps22
    go_wp2_with fail
    have mixed : Tryd.prog.follows Departure.mixedOrders = true := by kernel_rfl
    have c4' := ((bytesWorld_new (w.alloc (varO nm 4 i u tx)).drew tx hz).2.cell (World.block_lt_of_cell? _ _ c4)).trans c4
    go_region_o
    all_goals go_wp2
    all_goals go_ret2
    have hN := (bytesWorld_new (w.alloc (varO nm 4 i u tx)).drew tx hz).1.since (w0 := w) (by simp)
    rw [show (w.alloc (varO nm 4 i u tx)).drew.heap.size = w.heap.size + 1 by simp] at hN
    all_goals exact gotN (by rw [HR.out, bs_length]; congr 1; simp; omega) hN (below_step hald.out (bytesWorld_new (w.alloc (varO nm 4 i u tx)).drew tx hz).2)
  rw [if_neg h4] at hR
  have b4 := ne_beq h4
  by_cases h5 : ty = 5 ∨ ty = 128 ∨ ty = 129 ∨ ty = 130
  · rw [if_pos h5] at hR
    have HR := Lib.hid hR
    clear hR b2 h2 b4 h4
    rcases h5 with rfl | rfl | rfl | rfl
    all_goals
      go_enter Tryd.func22, Tryd.ntmps22
      go_wp2
      go_ret2
      exact gotN HR.out (NewB.nil _ _) hal
  rw [if_neg h5] at hR
  have b5 := ne_beq (show ty ≠ 5 by omega)
  have b128 := ne_beq (show ty ≠ 128 by omega)
  have b129 := ne_beq (show ty ≠ 129 by omega)
  have b130 := ne_beq (show ty ≠ 130 by omega)
  by_cases h6 : ty = 6
  · subst h6
    rw [if_pos rfl] at hR
    clear b2 h2 b4 h4 h5 b5 b128 b129 b130
    go_enter Tryd.func22, Tryd.ntmps22
    go_wp2_with fail
    refine (specArcs_any tx hz _).mono ?_
    rintro e w1 ⟨v, rfl, ho, hb⟩
    obtain ⟨A, c, rfl, hcc, hC⟩ := Kd.R_reads ho
    have HB := Lib.hid (below_step hal hb)
    cases hok : (sArcs (bs tx)).2 with
    | false =>
      rw [hok, if_neg (by simp)] at hR
      have HR := Lib.hid hR
      clear hR ho hb hC
      go_wp2
      go_ret2
      exact gotN HR.out (NewB.nil _ _) HB.out
    | true =>
      rw [hok, if_pos rfl] at hR
      have HR := Lib.hid hR
      have hA : sArcs (bs tx) = ((sArcs (bs tx)).1, true) := by rw [← hok]
      have hbd := sArcs_bounds _ _ hA
      have hao := (sArcs_text _ _ hA).1
      have HH := Lib.hid (And.intro hbd hC)
      have hl2 := hao.1
      have hl60 := hao.2.1
      have hsz := hb.size
      have hle : w.heap.size ≤ w1.heap.size := by simp at hsz; omega
      clear hR ho hb hC hA hbd hao hsz
      go_wp2_with fail
      refine (specName_any _ hl2 hl60 HH.out.1 A c hcc _ HH.out.2).mono ?_
      rintro e w2 ⟨v2, rfl, ho2, hb2⟩
      have H2 := Lib.hid (And.intro (ho2.newAt hle) (below_step HB.out hb2))
      clear ho2 hb2
      go_wp2
      go_ret2
      exact gotN HR.out H2.out.1 H2.out.2
  rw [if_neg h6] at hR
  have b6 := ne_beq h6
  by_cases h7 : ty = 64
  · subst h7
    rw [if_pos rfl] at hR
    have HR := Lib.hid hR
    clear hR b2 h2 b4 h4 h5 b5 b128 b129 b130 h6 b6
    go_enter Tryd.func22, Tryd.ntmps22
    go_wp2_with fail
    refine (specAddr_any tx hz _).mono ?_
    rintro e w1 ⟨v, rfl, ho, hb⟩
    have HB := Lib.hid (And.intro (ho.newAt (w := w) (by simp)) (below_step hal hb))
    clear ho hb
    go_wp2
    go_ret2
    exact gotN HR.out HB.out.1 HB.out.2
  rw [if_neg h7] at hR
  have b7 := ne_beq h7
  have c3 := (blk_cell hblk 3).trans rfl
  by_cases h8 : ty = 65 ∨ ty = 66 ∨ ty = 67
  · rw [if_pos h8] at hR
    have HR := Lib.hid hR
    clear hR b2 h2 b4 h4 h5 b5 b128 b129 b130 h6 b6 h7 b7
    rcases h8 with rfl | rfl | rfl
    all_goals
      go_enter Tryd.func22, Tryd.ntmps22
      go_wp2_with fail
      go_region_held3 (fun w' => w'.cell? ⟨w.heap.size, 3, none⟩ = some (.int .u64 u)) (first | exact c3 | exact (hb.cell (World.block_lt_of_cell? _ _ c3)).trans c3) ((go_at_call 46; refine (specUint_any u u0 u1 _).mono ?_; rintro e w' ⟨v, rfl, ho, hb⟩))
      go_wp2
      go_ret2
      exact gotN HR.out (ho.newAt (by simp)) (below_step hald.out hb)
  rw [if_neg h8] at hR
  have b65 := ne_beq (show ty ≠ 65 by omega)
  have b66 := ne_beq (show ty ≠ 66 by omega)
  have b67 := ne_beq (show ty ≠ 67 by omega)
  by_cases h9 : ty = 70
  · subst h9
    rw [if_pos rfl] at hR
    have HR := Lib.hid hR
    clear hR b2 h2 b4 h4 h5 b5 b128 b129 b130 h6 b6 h7 b7 h8 b65 b66 b67
    go_enter Tryd.func22, Tryd.ntmps22
    go_wp2_with fail
    refine (specUint_any u u0 u1 _).mono ?_
    rintro e w1 ⟨v, rfl, ho, hb⟩
    have HB := Lib.hid (And.intro (ho.newAt (w := w) (by simp)) (below_step hal hb))
    clear ho hb
    go_wp2
    go_ret2
    exact gotN HR.out HB.out.1 HB.out.2
  rw [if_neg h9] at hR
  have b9 := ne_beq h9
  have HR := Lib.hid hR
  clear hR h2 h4 h5 h6 h7 h8 h9
  go_enter Tryd.func22, Tryd.ntmps22
  go_wp2
  go_ret2
  exact gotN HR.out (NewB.nil _ _) hal
end Go.Proofs.YtangjgclpipjdaaDoor
set_option linter.unusedVariables false
namespace Go.Proofs.YtangjgclpipjdaaDoor
open Go.RowKit Go.Proofs.YtangjgclpipjdaaDoorW.PrintWords Go.Proofs.YtangjgclpipjdaaDoorW.PrintLast Go.Proofs.YtangjgclpipjdaaDoorW.PrintMore

theorem cell_up {W W' : World} {a : Addr} {v : Value} (c : W.cell? a = some v) (hb : Below W.heap.size W W') : W'.cell? a = some v := (hb.cell (World.block_lt_of_cell? _ _ c)).trans c
theorem cell_alloc {W : World} {a : Addr} {v : Value} (c : W.cell? a = some v) (o : Obj) : (W.alloc o).cell? a = some v := cell_up c ((Below.refl _ _).alloc (Nat.le_refl _) o)
theorem cell_drew {W : World} {a : Addr} {v : Value} (c : W.cell? a = some v) : W.drew.cell? a = some v := c
theorem var_cells {W : World} {g : Nat} {nm tx : ByteArray} {ty i u : Int} (h : W.heap[g]? = some (varO nm ty i u tx)) : W.cell? ⟨g, 0, none⟩ = some (.string nm) ∧ W.cell? ⟨g, 1, none⟩ = some (.int .i64 ty) ∧ W.cell? ⟨g, 2, none⟩ = some (.int .i64 i) ∧ W.cell? ⟨g, 3, none⟩ = some (.int .u64 u) ∧ W.cell? ⟨g, 4, none⟩ = some (.string tx) ∧
    W.frozen? ⟨g, 0, none⟩ = false ∧ W.frozen? ⟨g, 1, none⟩ = false ∧ W.frozen? ⟨g, 2, none⟩ = false ∧ W.frozen? ⟨g, 3, none⟩ = false ∧ W.frozen? ⟨g, 4, none⟩ = false :=
  ⟨(blk_cell h 0).trans rfl, (blk_cell h 1).trans rfl, (blk_cell h 2).trans rfl, (blk_cell h 3).trans rfl, (blk_cell h 4).trans rfl, blk_frozen h 0, blk_frozen h 1, blk_frozen h 2, blk_frozen h 3, blk_frozen h 4⟩
/-- A variable stored whole, cell by cell. -/
abbrev setVar (W : World) (g : Nat) (nm : ByteArray) (ty i u : Int) (tx : ByteArray) : World :=
  ((((W.setCell ⟨g, 0, none⟩ (.string nm)).setCell ⟨g, 1, none⟩ (.int .i64 ty)).setCell ⟨g, 2, none⟩ (.int .i64 i)).setCell ⟨g, 3, none⟩ (.int .u64 u)).setCell ⟨g, 4, none⟩ (.string tx)
theorem setVar_far {W : World} {g : Nat} {a : Addr} {v : Value} (c : W.cell? a = some v) (h : a.block ≠ g) (nm : ByteArray) (ty i u : Int) (tx : ByteArray) : (setVar W g nm ty i u tx).cell? a = some v :=
  (cell_far (p := ⟨g, 4, none⟩) h _).trans ((cell_far (p := ⟨g, 3, none⟩) h _).trans ((cell_far (p := ⟨g, 2, none⟩) h _).trans ((cell_far (p := ⟨g, 1, none⟩) h _).trans ((cell_far (p := ⟨g, 0, none⟩) h _).trans c))))
theorem setVar_heap {W : World} {g k : Nat} {o : Obj} (c : W.heap[k]? = some o) (h : k ≠ g) (nm : ByteArray) (ty i u : Int) (tx : ByteArray) : (setVar W g nm ty i u tx).heap[k]? = some o :=
  (Below.heap_setCell _ ⟨g, 4, none⟩ _ k h).trans ((Below.heap_setCell _ ⟨g, 3, none⟩ _ k h).trans ((Below.heap_setCell _ ⟨g, 2, none⟩ _ k h).trans ((Below.heap_setCell _ ⟨g, 1, none⟩ _ k h).trans ((Below.heap_setCell _ ⟨g, 0, none⟩ _ k h).trans c))))
theorem setVar_new {W : World} {g : Nat} {nm' tx' : ByteArray} {ty' i' u' : Int} (c : W.heap[g]? = some (varO nm' ty' i' u' tx')) (nm : ByteArray) (ty i u : Int) (tx : ByteArray) : (setVar W g nm ty i u tx).heap[g]? = some (varO nm ty i u tx) :=
  blk_put (cs := #[.string nm, .int .i64 ty, .int .i64 i, .int .u64 u, .string tx']) (blk_put (cs := #[.string nm, .int .i64 ty, .int .i64 i, .int .u64 u', .string tx']) (blk_put (cs := #[.string nm, .int .i64 ty, .int .i64 i', .int .u64 u', .string tx']) (blk_put (cs := #[.string nm, .int .i64 ty', .int .i64 i', .int .u64 u', .string tx']) (blk_put c 0 _ rfl) 1 _ rfl) 2 _ rfl) 3 _ rfl) 4 _ rfl
theorem setVar_below {W0 W : World} {g : Nat} (h : Below W0.heap.size W0 W) (hg : W0.heap.size ≤ g) (nm : ByteArray) (ty i u : Int) (tx : ByteArray) : Below W0.heap.size W0 (setVar W g nm ty i u tx) :=
  below_set (below_set (below_set (below_set (below_set h hg) hg) hg) hg) hg
/-- What holds behind 'out := impl.Var{..}'. -/
def PlainAt (w : World) (g : Nat) (nm : ByteArray) (ty i u : Int) (tx dt : ByteArray) (W : World) : Prop :=
  W.heap[w.heap.size]? = some (varO nm ty i u tx) ∧ W.heap[w.heap.size + 1]? = some (varO ⟨#[]⟩ 0 0 0 ⟨#[]⟩) ∧ W.heap[g]? = some (varO dt ty 0 0 ⟨#[]⟩) ∧ Below w.heap.size w W ∧ w.heap.size + 1 < g

theorem plainAt_call {w W w2 : World} {nm tx dt : ByteArray} {ty i u : Int} (hW : W.heap.size = w.heap.size + 2 ∨ w.heap.size + 2 ≤ W.heap.size) (h1 : W.heap[w.heap.size]? = some (varO nm ty i u tx)) (h2 : W.heap[w.heap.size + 1]? = some (varO ⟨#[]⟩ 0 0 0 ⟨#[]⟩)) (h3 : Below w.heap.size w W) (hb : Below W.drew.heap.size W.drew w2) :
    PlainAt w w2.heap.size nm ty i u tx dt (w2.alloc (varO dt ty 0 0 ⟨#[]⟩)) := by
  have hs := hb.size
  have hs' : W.heap.size ≤ w2.heap.size := hs
  refine ⟨blk_alloc (blk_below (w := W.drew) h1 hb) _, blk_alloc (blk_below (w := W.drew) h2 hb) _, blk_new _ _, (below_step (below_drew h3) hb).alloc ?_ _, ?_⟩
  · omega
  · omega
theorem plainAt_alloc {w W w2 : World} {nm tx dt : ByteArray} {ty i u : Int} (hW : w.heap.size + 2 ≤ W.heap.size) (h1 : W.heap[w.heap.size]? = some (varO nm ty i u tx)) (h2 : W.heap[w.heap.size + 1]? = some (varO ⟨#[]⟩ 0 0 0 ⟨#[]⟩)) (h3 : Below w.heap.size w W) (hb : Below (W.alloc (varO ⟨#[]⟩ 0 0 0 ⟨#[]⟩)).drew.heap.size (W.alloc (varO ⟨#[]⟩ 0 0 0 ⟨#[]⟩)).drew w2) :
    PlainAt w W.heap.size nm ty i u tx dt (setVar w2 W.heap.size dt ty 0 0 ⟨#[]⟩) := by
  refine ⟨setVar_heap (blk_below (blk_drew (blk_alloc h1 _)) hb) (by omega) _ _ _ _ _, setVar_heap (blk_below (blk_drew (blk_alloc h2 _)) hb) (by omega) _ _ _ _ _, setVar_new (blk_below (blk_drew (blk_new W _)) hb) _ _ _ _ _, setVar_below (below_step (below_drew (h3.alloc (by omega) _)) hb) (by omega) _ _ _ _ _, by omega⟩

theorem infoVar : (Tryd.prog.info? 24).map (·.size) = some 5 := by kernel_rfl
theorem plain_ret (fn : Func) {p : Tmp} (h : fn.results = #[.cell p 24]) {a : Act} {w W : World} {nm tx nm' tx' : ByteArray} {ty i u ty' i' u' : Int} (hp : a.tmps.getD p undef = .pointer (some ⟨w.heap.size + 1, 0, none⟩)) (hd : a.defers = [])
    (hr : W.heap[w.heap.size + 1]? = some (varO nm' ty' i' u' tx')) (hb : Below w.heap.size w W) :
    bodyPost Tryd.prog fn (fun e w' => e = .returned (varV nm ty i u tx) ∧ Below w.heap.size w w') .ret a (setVar W (w.heap.size + 1) nm ty i u tx) :=
  bodyPost_ret (results_cell_row h _ _ (w.heap.size + 1) 24 #[.string nm, .int .i64 ty, .int .i64 i, .int .u64 u, .string tx] (0, 0) _ hp (setVar_new hr _ _ _ _ _) Tryd.underlying24 rfl infoVar) hd ⟨rfl, setVar_below hb (by omega) _ _ _ _ _⟩

set_option maxRecDepth 100000 in
set_option maxHeartbeats 4000000 in
theorem specPlain_any (nm tx : ByteArray) (ty i u : Int) (arcs c : List Int) (i' u' : Int) (tx' : List Int) (hn : nm.size ≤ 2147483647) (hz : tx.size ≤ 2147483647) (ha : sArcs (bs nm) = (arcs, true)) (hc : Cont ty i u (bs tx) c i' u' tx') (w : World) :
    Calls Tryd.prog 25 #[varV nm ty i u tx] w fun e w' => e = .returned (varV (strOfNums (sDot arcs)) ty i' u' (strOfNums tx')) ∧ Below w.heap.size w w' := by
  have hbd := sArcs_bounds _ _ ha
  have hao := (sArcs_text _ _ ha).1
  have hl60 := hao.2.1
  have hD := fun A cc W => dotted_any arcs hbd (by omega) A cc W
  obtain ⟨dt, hdt⟩ : ∃ dt, dt = strOfNums (sDot arcs) := ⟨_, rfl⟩
  simp only [← hdt] at hD ⊢
  clear hdt
  have HC := Lib.hid hc
  clear hc
  go_enter Tryd.func25, Tryd.ntmps25
  go_wp2_with fail
  refine (specArcs_any nm hn _).mono ?_
  rintro e w1 ⟨v, rfl, ho, hb⟩
  rw [ha] at ho ⊢
  obtain ⟨A, cc, rfl, hcc, hC⟩ := Kd.R_reads ho
  have hws := hb.size
  simp only [World.size_alloc] at hws
  have hP : w1.heap[w.heap.size]? = some (varO nm ty i u tx) := blk_below (blk_alloc (blk_new w (varO nm ty i u tx)) _) hb
  have hR : w1.heap[w.heap.size + 1]? = some (varO ⟨#[]⟩ 0 0 0 ⟨#[]⟩) := by
    have := blk_below (blk_new (w.alloc (varO nm ty i u tx)) (varO ⟨#[]⟩ 0 0 0 ⟨#[]⟩)) hb
    rw [show (w.alloc (varO nm ty i u tx)).heap.size = w.heap.size + 1 by simp] at this
    exact this
  have hB : Below w.heap.size w w1 := below_step (((Below.refl w.heap.size w).alloc (Nat.le_refl _) _).alloc (by simp) _) hb
  have c1 : w1.cell? ⟨w.heap.size, 1, none⟩ = some (.int .i64 ty) := (blk_cell hP 1).trans rfl
  have HF := Lib.hid (And.intro hP (And.intro hR hB))
  clear hb hP hR hB ho
  go_wp2_with fail
  go_region_held3 (fun w' => w'.cell? ⟨w.heap.size, 1, none⟩ = some (.int .i64 ty)) (first | with_reducible exact cell_drew c1 | with_reducible exact cell_up (cell_drew c1) hb2 | with_reducible exact cell_drew (cell_alloc c1 _) | with_reducible exact cell_alloc (cell_up (cell_drew c1) hb2) _ | with_reducible exact cell_up (cell_drew (cell_alloc c1 _)) hb2 | with_reducible exact setVar_far (cell_up (cell_drew (cell_alloc c1 _)) hb2) (by show w.heap.size ≠ w1.heap.size; omega) _ _ _ _ _) ((go_at_call 32; refine (hD A cc _ (by first | exact hC | exact Kd.C_alloc hC _)).mono ?_; rintro e w2 ⟨rfl, hb2⟩; (first | (have hzz : w2.heap[w1.heap.size]? = some (varO ⟨#[]⟩ 0 0 0 ⟨#[]⟩) := blk_below (blk_drew (blk_new w1 (varO ⟨#[]⟩ 0 0 0 ⟨#[]⟩))) hb2; obtain ⟨z0, z1, z2, z3, z4, y0, y1, y2, y3, y4⟩ := var_cells hzz) | skip)))
  all_goals
    first
    | (have F := plainAt_call (dt := dt) (.inr hws) HF.out.1 HF.out.2.1 HF.out.2.2 hb2
       have F2 := Lib.hid F
       clear F
       generalize w2.alloc (.cells #[.string dt, .int .i64 ty, .int .i64 0, .int .u64 0, .string ⟨#[]⟩] 24) = W3 at F2 ⊢
       generalize w2.heap.size = g at F2 ⊢)
    | (have F := plainAt_alloc (dt := dt) hws HF.out.1 HF.out.2.1 HF.out.2.2 hb2
       have F2 : Hid (PlainAt w w1.heap.size nm ty i u tx dt (((((w2.setCell ⟨w1.heap.size, 0, none⟩ (.string dt)).setCell ⟨w1.heap.size, 1, none⟩ (.int .i64 ty)).setCell ⟨w1.heap.size, 2, none⟩ (.int .i64 0)).setCell ⟨w1.heap.size, 3, none⟩ (.int .u64 0)).setCell ⟨w1.heap.size, 4, none⟩ (.string ⟨#[]⟩))) := Lib.hid F
       clear F
       generalize (((((w2.setCell ⟨w1.heap.size, 0, none⟩ (.string dt)).setCell ⟨w1.heap.size, 1, none⟩ (.int .i64 ty)).setCell ⟨w1.heap.size, 2, none⟩ (.int .i64 0)).setCell ⟨w1.heap.size, 3, none⟩ (.int .u64 0)).setCell ⟨w1.heap.size, 4, none⟩ (.string ⟨#[]⟩)) = W3 at F2 ⊢
       generalize w1.heap.size = g at F2 ⊢)
  all_goals
    obtain ⟨p, r, o, hb3, hlt⟩ := F2.out
    clear F2 hD HF c1 hC
    try clear hb2
    try clear hHeld
    have hc := HC.out
    clear HC
    obtain ⟨p0, p1, p2, p3, p4, -, -, -, -, -⟩ := var_cells p
    obtain ⟨r0, r1, r2, r3, r4, rf0, rf1, rf2, rf3, rf4⟩ := var_cells r
    obtain ⟨o0, o1, o2, o3, o4, of0, of1, of2, of3, of4⟩ := var_cells o
    have HO := Lib.hid (And.intro p (And.intro r (And.intro o hb3)))
    clear p r o hb3
    have n1 : w.heap.size ≠ g := by omega
    have n2 : g ≠ w.heap.size := by omega
    have n3 : w.heap.size + 1 ≠ g := by omega
    have n4 : g ≠ w.heap.size + 1 := by omega
    have n5 : w.heap.size ≤ g := by omega
    cases hc with
    | int h h0 h1 =>
      subst h
      go_wp2
      exact plain_ret _ rfl rfl rfl (W := W3.setCell ⟨g, 2, none⟩ (.int .i64 i)) (blk_far HO.out.2.1 n3 _) (below_set HO.out.2.2.2 n5)
    | oct h h0 =>
      subst h
      go_wp2
      rw [strOfNums_bs]
      exact plain_ret _ rfl rfl rfl (W := W3.setCell ⟨g, 4, none⟩ (.string tx)) (blk_far HO.out.2.1 n3 _) (below_set HO.out.2.2.2 n5)
    | null h =>
      rcases h with rfl | rfl | rfl | rfl
      all_goals
        go_wp2
        exact plain_ret _ rfl rfl rfl (W := W3) HO.out.2.1 HO.out.2.2.2
    | addr h out ha =>
      subst h
      go_wp2
      rw [strOfNums_bs]
      exact plain_ret _ rfl rfl rfl (W := W3.setCell ⟨g, 4, none⟩ (.string tx)) (blk_far HO.out.2.1 n3 _) (below_set HO.out.2.2.2 n5)
    | u32 h h0 =>
      rcases h with rfl | rfl | rfl
      all_goals
        go_wp2
        exact plain_ret _ rfl rfl rfl (W := W3.setCell ⟨g, 3, none⟩ (.int .u64 u)) (blk_far HO.out.2.1 n3 _) (below_set HO.out.2.2.2 n5)
    | u64 h =>
      subst h
      go_wp2
      exact plain_ret _ rfl rfl rfl (W := W3.setCell ⟨g, 3, none⟩ (.int .u64 u)) (blk_far HO.out.2.1 n3 _) (below_set HO.out.2.2.2 n5)
    | oid h arcs2 ha2 =>
      subst h
      go_wp2_with fail
      refine (specArcs_any tx hz _).mono ?_
      rintro e w4 ⟨v4, rfl, ho4, hb4⟩
      rw [ha2] at ho4 ⊢
      obtain ⟨A4, cc4, rfl, hcc4, hC4⟩ := Kd.R_reads ho4
      have hbd4 := sArcs_bounds _ _ ha2
      have hl4 := (sArcs_text _ _ ha2).1.2.1
      have HO4 := Lib.hid (And.intro (blk_below HO.out.1 hb4) (And.intro (blk_below HO.out.2.1 hb4) (And.intro (blk_below HO.out.2.2.1 hb4) (below_step HO.out.2.2.2 hb4))))
      have HC4 := Lib.hid hC4
      clear p0 p1 p2 p3 p4 r0 r1 r2 r3 r4 rf0 rf1 rf2 rf3 rf4 o0 o1 o2 o3 o4 of0 of1 of2 of3 of4 hb4 ho4 HO hC4
      go_wp2_with fail
      refine (dotted_any arcs2 hbd4 (by omega) A4 cc4 _ HC4.out).mono ?_
      rintro e w5 ⟨rfl, hb5⟩
      have HO := Lib.hid (And.intro (blk_below HO4.out.1 hb5) (And.intro (blk_below HO4.out.2.1 hb5) (And.intro (blk_below HO4.out.2.2.1 hb5) (below_step HO4.out.2.2.2 hb5))))
      clear HO4 HC4 hb5 hbd4
      obtain ⟨r0, r1, r2, r3, r4, rf0, rf1, rf2, rf3, rf4⟩ := var_cells HO.out.2.1
      obtain ⟨o0, o1, o2, o3, o4, of0, of1, of2, of3, of4⟩ := var_cells HO.out.2.2.1
      go_wp2
      exact plain_ret _ rfl rfl rfl (W := w5.setCell ⟨g, 4, none⟩ (.string (strOfNums (sDot arcs2)))) (blk_far HO.out.2.1 n3 _) (below_set HO.out.2.2.2 n5)
end Go.Proofs.YtangjgclpipjdaaDoor
set_option linter.unusedVariables false
namespace Go.Proofs.YtangjgclpipjdaaDoor
open Go.RowKit Go.Proofs.YtangjgclpipjdaaDoorW.PrintWords Go.Proofs.YtangjgclpipjdaaDoorW.PrintLast Go.Proofs.YtangjgclpipjdaaDoorW.PrintMore

/-- A variable that is asked: its name's arcs, its content, what is told. -/
structure Asked (nm tx : ByteArray) (ty i u : Int) (arcs c : List Int) (i' u' : Int) (tx' : List Int) : Prop where
  name : sArcs (bs nm) = (arcs, true)
  cont : Cont ty i u (bs tx) c i' u' tx'
  nsize : nm.size ≤ 1000
  tsize : tx.size ≤ 500
def sVar (arcs : List Int) (ty : Int) (c : List Int) (wide : Nat) : List Int := sSealed 48 (sSealed 6 (sName arcs) wide ++ sSealed ty c wide) wide
def GotVal (nm tx : ByteArray) (ty i u : Int) (wide : Nat) (w w' : World) (e : Ending) : Prop :=
  Below w.heap.size w w' ∧ ((∃ v1 v2, e = .returned (.tuple #[v1, v2, varV ⟨#[]⟩ 0 0 0 ⟨#[]⟩, .bool false])) ∨
    ∃ arcs c i' u' tx' v1 v2, Asked nm tx ty i u arcs c i' u' tx' ∧ e = .returned (.tuple #[v1, v2, varV (strOfNums (sDot arcs)) ty i' u' (strOfNums tx'), .bool true]) ∧ NewB w w' v1 (sVar arcs ty c wide) ∧ NewB w w' v2 (sSealed ty c wide))

/-- The two variables' blocks that the call begins with, in whatever world: the parameter, the zero result. -/
def VBase (w : World) (nm : ByteArray) (ty i u : Int) (tx : ByteArray) (W : World) : Prop :=
  W.heap[w.heap.size]? = some (varO nm ty i u tx) ∧ W.heap[w.heap.size + 1]? = some (varO ⟨#[]⟩ 0 0 0 ⟨#[]⟩) ∧ Below w.heap.size w W
theorem VBase.start (w : World) (nm : ByteArray) (ty i u : Int) (tx : ByteArray) : VBase w nm ty i u tx ((w.alloc (varO nm ty i u tx)).alloc (varO ⟨#[]⟩ 0 0 0 ⟨#[]⟩)) := by
  refine ⟨blk_alloc (blk_new w (varO nm ty i u tx)) _, ?_, ((Below.refl w.heap.size w).alloc (Nat.le_refl _) _).alloc (by simp) _⟩
  have := blk_new (w.alloc (varO nm ty i u tx)) (varO ⟨#[]⟩ 0 0 0 ⟨#[]⟩)
  rw [show (w.alloc (varO nm ty i u tx)).heap.size = w.heap.size + 1 by simp] at this
  exact this
theorem VBase.step {w W W' : World} {nm tx : ByteArray} {ty i u : Int} (h : VBase w nm ty i u tx W) (hb : Below W.heap.size W W') : VBase w nm ty i u tx W' := ⟨blk_below h.1 hb, blk_below h.2.1 hb, below_step h.2.2 hb⟩
theorem VBase.size {w W : World} {nm tx : ByteArray} {ty i u : Int} (h : VBase w nm ty i u tx W) : w.heap.size + 2 ≤ W.heap.size := blk_lt h.2.1

theorem VBase.grown {w W W' : World} {nm tx : ByteArray} {ty i u : Int} (h : VBase w nm ty i u tx W) {row : Option Nat} (hg : W.grownBy W' row) (hr : ∀ k, row = some k → w.heap.size + 2 ≤ k) : VBase w nm ty i u tx W' := by
  refine ⟨blk_grown h.1 hg ?_, blk_grown h.2.1 hg ?_, h.2.2.grown hg (by have := h.size; omega) (fun k hk => by have := hr k hk; omega)⟩
  · intro e; have := hr _ e.symm; omega
  · intro e; have := hr _ e.symm; omega
theorem VBase.five {w W : World} {nm tx : ByteArray} {ty i u : Int} (h : VBase w nm ty i u tx W) : W.cell? ⟨w.heap.size, 0, none⟩ = some (.string nm) ∧ W.cell? ⟨w.heap.size, 1, none⟩ = some (.int .i64 ty) ∧ W.cell? ⟨w.heap.size, 2, none⟩ = some (.int .i64 i) ∧ W.cell? ⟨w.heap.size, 3, none⟩ = some (.int .u64 u) ∧ W.cell? ⟨w.heap.size, 4, none⟩ = some (.string tx) := by
  obtain ⟨p0, p1, p2, p3, p4, -⟩ := var_cells h.1
  exact ⟨p0, p1, p2, p3, p4⟩
theorem VBase.fiveSet {w W : World} {nm tx : ByteArray} {ty i u : Int} (h : VBase w nm ty i u tx W) (nm' : ByteArray) (ty' i' u' : Int) (tx' : ByteArray) : (setVar W (w.heap.size + 1) nm' ty' i' u' tx').cell? ⟨w.heap.size, 0, none⟩ = some (.string nm) ∧ (setVar W (w.heap.size + 1) nm' ty' i' u' tx').cell? ⟨w.heap.size, 1, none⟩ = some (.int .i64 ty) ∧ (setVar W (w.heap.size + 1) nm' ty' i' u' tx').cell? ⟨w.heap.size, 2, none⟩ = some (.int .i64 i) ∧ (setVar W (w.heap.size + 1) nm' ty' i' u' tx').cell? ⟨w.heap.size, 3, none⟩ = some (.int .u64 u) ∧ (setVar W (w.heap.size + 1) nm' ty' i' u' tx').cell? ⟨w.heap.size, 4, none⟩ = some (.string tx) := by
  obtain ⟨p0, p1, p2, p3, p4⟩ := h.five
  have hne : w.heap.size ≠ w.heap.size + 1 := by omega
  exact ⟨setVar_far p0 hne _ _ _ _ _, setVar_far p1 hne _ _ _ _ _, setVar_far p2 hne _ _ _ _ _, setVar_far p3 hne _ _ _ _ _, setVar_far p4 hne _ _ _ _ _⟩
theorem ReadB.agree {W W' : World} {ok : Nat → Prop} {v : Value} {xs : List Int} (h : ReadB W ok v xs) (hs : W.heap.size ≤ W'.heap.size) (hW : ∀ k, ok k → k < W.heap.size → W'.heap[k]? = W.heap[k]?) : ReadB W' ok v xs := by
  obtain ⟨A, c, rfl, hl, hC⟩ := h
  exact ⟨A, c, rfl, hl, fun W'' hW'' => hC W'' (fun k hk hlt => (hW'' k hk (by omega)).trans (hW k hk hlt))⟩
theorem setVar_size (W : World) (g : Nat) (nm : ByteArray) (ty i u : Int) (tx : ByteArray) : (setVar W g nm ty i u tx).heap.size = W.heap.size := by simp
theorem ReadB.setVar {W : World} {ok : Nat → Prop} {v : Value} {xs : List Int} (h : ReadB W ok v xs) (g : Nat) (hg : ¬ ok g) (nm : ByteArray) (ty i u : Int) (tx : ByteArray) : ReadB (setVar W g nm ty i u tx) ok v xs :=
  h.agree (Nat.le_of_eq (setVar_size W g nm ty i u tx).symm) (fun k hk hlt => by
    obtain ⟨o, ho⟩ : ∃ o, W.heap[k]? = some o := ⟨_, Array.getElem?_eq_getElem hlt⟩
    rw [setVar_heap ho (fun e => by subst e; exact hg hk), ho])
theorem OwnB.read {W : World} {B : Nat} {v : Value} {xs : List Int} (h : OwnB W B v xs) : ReadB W (fun k => B ≤ k ∧ k < W.heap.size) v xs := Kd.R_V (base' := 0) (Kd.R_mono (Kd.R_bound h) (fun _ hk => ⟨hk.2.1, hk.2.2.1⟩))
theorem OwnB.block {w : World} {B : Nat} {v : Value} {xs : List Int} (h : OwnB w B v xs) (k : Nat) (hk : v.ownBlock = some k) : B ≤ k := ((Kd.R_bound h).1 k hk).2.1
/-- 'append(s, x...)' of bytes, s a row of the call's own: as a step of a region that draws its order. -/
theorem app_bytes_step {P : Program} {W : World} {ops : Array Oper} {o : Oper} {a : Act} {Kc : Act → World → Prop} {Q : Exit → Act → World → Prop} (hw : Region.wanted o (yielded ops a.tmps) = true) (s x : Operand) (t : TypeId)
    (ho : o.op = .call { callee := .builtin .append, args := #[s, x], argTypes := #[t, t] }) (ht : P.underlying t = some (.slice 5)) (hinfo : (P.info? 5).map (fun i => (i.zero, i.size, i.bytes)) = some (some (.int .u8 0), 1, 1))
    (B : Nat) (v : Value) (xs ys : List Int) (A : Option Addr) (m c : Nat) (hs : a.eval s = v) (hx : a.eval x = .slice A m c) (HO : OwnB W B v xs) (HR : Kd.C (Kd.int .u8) W A m ys) (hB : B ≤ W.heap.size) (hl : xs.length + m ≤ 140737488355328)
    (h : ∀ v1 w1, OwnB w1 B v1 (xs ++ ys) → W.grownBy w1 v.ownBlock → (v1.ownBlock = v.ownBlock ∨ ∃ b, v1.ownBlock = some b ∧ W.heap.size ≤ b) → Kc (a.put o.dst v1) w1) :
    if Region.wanted o (yielded ops a.tmps) = true then Oper.wp P o a W Kc Q else Kc (a.put o.dst undef) W := by
  refine Kd.R_append_rows_step (Kd.int .u8) (w0 := W) B hw s x t 5 (.int .u8 0) 1 ho ht hinfo rfl (by decide) (by omega) v xs ys A m c (fun _ => True) (fun _ => False) hs hx HO HR ?_ (fun _ hk => hk.elim) (fun _ _ => trivial) (Below.refl _ _) hB (by omega) ?_
  · intro x cs h; exact h
  · intro v1 w1 h1 _ hg hat
    exact h v1 w1 h1 hg hat

theorem results_ttct {P : Program} {fn : Func} {a b p c : Tmp} {ty : TypeId} (h : fn.results = #[.tmp a, .tmp b, .cell p ty, .tmp c]) (tmps : Array Value) (w : World) (g : Nat) (t : TypeId) (cs : Array Value) (fr : Nat × Nat) (d : TypeDesc)
    (hp : tmps.getD p undef = .pointer (some ⟨g, 0, none⟩)) (hg : w.heap[g]? = some (.cells cs t fr))
    (hu : P.underlying ty = some d) (hd : (match d with | .struct _ | .array _ _ => true | _ => false) = true) (hi : (P.info? ty).map (·.size) = some cs.size) :
    (results fn tmps).run P w = .ok (.tuple #[tmps.getD a undef, tmps.getD b undef, .agg cs, tmps.getD c undef]) w := by
  have hp' : tmps[p]?.getD undef = .pointer (some ⟨g, 0, none⟩) := by simpa using hp
  simp [results, h, hp', asAddr, run_loadVar_row w g t ty cs fr d hg hu hd hi]
theorem val_ret {fn : Func} {x y p z : Tmp} (h : fn.results = #[.tmp x, .tmp y, .cell p 24, .tmp z]) {R : Ending → World → Prop} {a : Act} {W : World} {g : Nat} {nm tx nm' tx' : ByteArray} {ty i u ty' i' u' : Int} (hp : a.tmps.getD p undef = .pointer (some ⟨g, 0, none⟩)) (hd : a.defers = [])
    (hr : W.heap[g]? = some (varO nm' ty' i' u' tx')) (hR : R (.returned (.tuple #[a.tmps.getD x undef, a.tmps.getD y undef, varV nm ty i u tx, a.tmps.getD z undef])) (setVar W g nm ty i u tx)) :
    bodyPost Tryd.prog fn R .ret a (setVar W g nm ty i u tx) :=
  bodyPost_ret (results_ttct h _ _ g 24 #[.string nm, .int .i64 ty, .int .i64 i, .int .u64 u, .string tx] (0, 0) _ hp (setVar_new hr _ _ _ _ _) Tryd.underlying24 rfl infoVar) hd hR

set_option maxRecDepth 100000 in
set_option maxHeartbeats 4000000 in
theorem specValue_any (nm tx : ByteArray) (ty i u : Int) (i0 : -9223372036854775808 ≤ i) (i1 : i ≤ 9223372036854775807) (u0 : 0 ≤ u) (u1 : u ≤ 18446744073709551615) (hn : nm.size ≤ 2147483647) (hz : tx.size ≤ 2147483647) (wide : Nat) (hw : wide ≤ 2) (w : World) :
    Calls Tryd.prog 10 #[varV nm ty i u tx, .int .i64 wide] w fun e w' => GotVal nm tx ty i u wide w w' e := by
  go_enter Tryd.func10, Tryd.ntmps10
  go_wp2_with fail
  refine (specArcs_any nm hn _).mono ?_
  rintro e w1 ⟨v, rfl, ho, hb⟩
  obtain ⟨A, cc, rfl, hcc, hC⟩ := Kd.R_reads ho
  have B1 := (VBase.start w nm ty i u tx).step hb
  have HB1 := Lib.hid (And.intro B1 hC)
  obtain ⟨p0, p1, p2, p3, p4, -, -, -, -, -⟩ := var_cells B1.1
  clear ho hb hC B1
  go_wp2_with fail
  refine (specContent_any nm tx ty i u i0 i1 u0 u1 hz _).mono ?_
  rintro e w2 ⟨v2, rfl, ho2, hb2⟩
  obtain ⟨A2, cc2, rfl, hcc2, hC2⟩ := ho2.reads
  have B2 := HB1.out.1.step hb2
  have HC := Lib.hid (And.intro B2 (And.intro (Kd.C_below HB1.out.2 hb2) (And.intro hC2 hb2)))
  clear p0 p1 p2 p3 p4 HB1 ho2 hb2 hC2
  obtain ⟨p0, p1, p2, p3, p4, -, -, -, -, -⟩ := var_cells B2.1
  obtain ⟨r0, r1, r2, r3, r4, rf0, rf1, rf2, rf3, rf4⟩ := var_cells B2.2.1
  clear B2
  have hno : ∀ v1 v2 W, Below w.heap.size w W → GotVal nm tx ty i u wide w W (.returned (.tuple #[v1, v2, varV ⟨#[]⟩ 0 0 0 ⟨#[]⟩, .bool false])) := fun v1 v2 W h => ⟨h, .inl ⟨v1, v2, rfl⟩⟩
  have HN := Lib.hid hno
  clear hno
  cases h1 : (sArcs (bs nm)).2 with
  | false =>
    go_wp2
    exact val_ret rfl rfl rfl HC.out.1.2.1 (HN.out _ _ _ (setVar_below HC.out.1.2.2 (by omega) _ _ _ _ _))
  | true =>
  cases h2 : (sCont ty i u (bs tx)).2 with
  | false =>
    go_wp2
    exact val_ret rfl rfl rfl HC.out.1.2.1 (HN.out _ _ _ (setVar_below HC.out.1.2.2 (by omega) _ _ _ _ _))
  | true =>
  by_cases h500 : (500 : Int) < tx.size
  · go_wp2
    exact val_ret rfl rfl rfl HC.out.1.2.1 (HN.out _ _ _ (setVar_below HC.out.1.2.2 (by omega) _ _ _ _ _))
  by_cases h1000 : (1000 : Int) < nm.size
  · go_wp2
    exact val_ret rfl rfl rfl HC.out.1.2.1 (HN.out _ _ _ (setVar_below HC.out.1.2.2 (by omega) _ _ _ _ _))
  have hA : sArcs (bs nm) = ((sArcs (bs nm)).1, true) := by rw [← h1]
  obtain ⟨i', u', tx', hc⟩ := sCont_ok ty i u (bs tx) (sCont ty i u (bs tx)).1 (by rw [← h2])
  have hask : Asked nm tx ty i u (sArcs (bs nm)).1 (sCont ty i u (bs tx)).1 i' u' tx' := ⟨hA, hc, by omega, by omega⟩
  generalize (sArcs (bs nm)).1 = arcs at *
  generalize (sCont ty i u (bs tx)).1 = c at *
  have hbd := sArcs_bounds _ _ hA
  have hao := (sArcs_text _ _ hA).1
  have hl2 := hao.1
  have hl60 := hao.2.1
  have hcl : c.length ≤ 500 := hc.len
  have HA := Lib.hid (And.intro hask hbd)
  clear hA hc hask hbd hao h1 h2
  go_wp2_with fail
  refine (specSealed_any ty A2 cc2 c wide (by omega) hcc2 (by omega) w2 HC.out.2.2.1).mono ?_
  rintro e w3 ⟨v3, rfl, ho3, hb3⟩
  have B3 := HC.out.1.step hb3
  obtain ⟨p0, p1, p2, p3, p4, -, -, -, -, -⟩ := var_cells B3.1
  obtain ⟨r0, r1, r2, r3, r4, rf0, rf1, rf2, rf3, rf4⟩ := var_cells B3.2.1
  obtain ⟨A3, cc3, rfl, hcc3, hC3⟩ := Kd.R_reads ho3
  have H3 := Lib.hid (And.intro B3 (And.intro ho3 (And.intro (Kd.C_below HC.out.2.1 hb3) hC3)))
  clear ho3 hb3 B3 hC3
  go_wp2_with fail
  have hs3 := H3.out.1.size
  have hv3 : ReadB w3 (fun k => w.heap.size + 2 ≤ k ∧ k < w3.heap.size) (.slice A3 (sSealed ty c wide).length cc3) (sSealed ty c wide) := H3.out.2.1.read.mono (fun k hk => ⟨by have := HC.out.1.size; omega, hk.2⟩)
  have HV3 := Lib.hid hv3
  have n60 := sName_len arcs
  have hsl := sLen_len c.length wide
  have hnl : (sName arcs).length ≤ 300 := by omega
  have hsl2 : (sSealed ty c wide).length ≤ 600 := by simp [sSealed]; omega
  have hnl2 : (sSealed 6 (sName arcs) wide).length ≤ 400 := by have := sLen_len (sName arcs).length wide; simp [sSealed]; omega
  clear hv3 hsl n60
  have BD : VBase w nm ty i u tx w3.drew := H3.out.1.step (below_drew (Below.refl _ _))
  go_region_held3 (fun w' => w'.cell? ⟨w.heap.size, 0, none⟩ = some (.string nm) ∧ w'.cell? ⟨w.heap.size, 1, none⟩ = some (.int .i64 ty) ∧ w'.cell? ⟨w.heap.size, 2, none⟩ = some (.int .i64 i) ∧ w'.cell? ⟨w.heap.size, 3, none⟩ = some (.int .u64 u) ∧ w'.cell? ⟨w.heap.size, 4, none⟩ = some (.string tx))
    (first | with_reducible exact BD.five | with_reducible exact B4.five | with_reducible exact B5.five | with_reducible exact B6.five | with_reducible exact B7.five | with_reducible exact B8.five | with_reducible exact B8.fiveSet _ _ _ _ _)
    (first
      | ((go_at_call 24; (with_reducible refine (specName_any arcs hl2 hl60 HA.out.2 A cc hcc w3.drew (Kd.C_drew H3.out.2.2.1)).mono ?_); rintro e w4 ⟨v4, rfl, ho4, hb4⟩; have B4 := BD.step hb4; obtain ⟨A4, cc4, rfl, hcc4, hC4⟩ := Kd.R_reads ho4))
      | ((go_at_call 23; (with_reducible refine (specSealed_any 6 A4 cc4 (sName arcs) wide (by omega) hcc4 (by omega) w4 hC4).mono ?_); rintro e w5 ⟨v5, rfl, ho5, hb5⟩; have B5 := B4.step hb5))
      | (refine app_bytes_step (by rfl) (.tmp 51) (.tmp 52) 26 rfl Tryd.underlying26 infoB w4.heap.size v5 (sSealed 6 (sName arcs) wide) (sSealed ty c wide) A3 (sSealed ty c wide).length cc3 (by rfl) (by rfl) ho5 (Kd.C_below (Kd.C_below (Kd.C_drew H3.out.2.2.2) hb4) hb5) hb5.size (by omega) ?_; intro v6 w6 ho6 hg6 hat6; have B6 := B5.grown hg6 (fun k hk => by have := OwnB.block ho5 k hk; have := B4.size; omega); obtain ⟨bb, HBB, hbl, ho6'⟩ : ∃ bb, Hid (bb = sSealed 6 (sName arcs) wide ++ sSealed ty c wide) ∧ bb.length ≤ 1000 ∧ OwnB w6 w4.heap.size v6 bb := ⟨_, Lib.hid rfl, by simp; omega, ho6⟩; obtain ⟨A6, cc6, rfl, hcc6, hC6⟩ := Kd.R_reads ho6')
      | ((go_at_call 23; (with_reducible refine (specSealed_any 48 A6 cc6 bb wide (by omega) hcc6 (by omega) w6 hC6).mono ?_); rintro e w7 ⟨v7, rfl, ho7, hb7⟩; have B7 := B6.step hb7))
      | ((go_at_call 25; (with_reducible refine (specPlain_any nm tx ty i u arcs c i' u' tx' hn hz HA.out.1.name HA.out.1.cont w7).mono ?_); rintro e w8 ⟨rfl, hb8⟩; have B8 := B7.step hb8; obtain ⟨r0, r1, r2, r3, r4, rf0, rf1, rf2, rf3, rf4⟩ := var_cells B8.2.1)))
  have hx : w.heap.size ≤ w3.heap.size := by omega
  have hh4 : w3.heap.size ≤ w4.heap.size := hb4.size
  have hh5 := hb5.size
  have hh6 := B6.size
  have N7 : NewB w (setVar w8 (w.heap.size + 1) (strOfNums (sDot arcs)) ty i' u' (strOfNums tx')) v7 (sVar arcs ty c wide) := by
    have h7 := (ho7.read.mono (ok' := fun k => w.heap.size + 2 ≤ k) (fun k hk => by have := hk.1; omega)).below hb8
    have h8 := (h7.setVar (w.heap.size + 1) (by omega) (strOfNums (sDot arcs)) ty i' u' (strOfNums tx')).mono (ok' := fun k => w.heap.size ≤ k) (fun k hk => by omega)
    unfold sVar
    rw [← HBB.out]
    exact h8
  have N3 : NewB w (setVar w8 (w.heap.size + 1) (strOfNums (sDot arcs)) ty i' u' (strOfNums tx')) (.slice A3 (sSealed ty c wide).length cc3) (sSealed ty c wide) := by
    have h4 : ReadB w4 _ _ _ := ReadB.below (w := w3.drew) HV3.out hb4
    have h6 := (h4.below hb5).grown hg6 (fun k hk e => by have := OwnB.block ho5 k e.symm; have := hk.2; omega)
    have h8 := (h6.below hb7).below hb8
    exact (h8.setVar (w.heap.size + 1) (by rintro ⟨h, -⟩; omega) _ _ _ _ _).mono (fun k hk => by have := hk.1; omega)
  have hend : GotVal nm tx ty i u wide w (setVar w8 (w.heap.size + 1) (strOfNums (sDot arcs)) ty i' u' (strOfNums tx')) (.returned (.tuple #[v7, .slice A3 (sSealed ty c wide).length cc3, varV (strOfNums (sDot arcs)) ty i' u' (strOfNums tx'), .bool true])) :=
    ⟨setVar_below B8.2.2 (by omega) _ _ _ _ _, .inr ⟨arcs, c, i', u', tx', _, _, HA.out.1, rfl, N7, N3⟩⟩
  have hr8 := B8.2.1
  clear N7 N3 HV3 HA H3 HN HC BD B4 B5 B6 B7 B8 ho4 ho5 ho6 ho6' ho7 hb4 hb5 hb7 hb8 hg6 hat6 hC4 hC6 r0 r1 r2 r3 r4 rf0 rf1 rf2 rf3 rf4 p0 p1 p2 p3 p4
  go_wp2
  exact val_ret (x := 4) (y := 5) (p := 6) (z := 7) rfl rfl rfl hr8 hend
end Go.Proofs.YtangjgclpipjdaaDoor
set_option linter.unusedVariables false
namespace Go.Proofs.YtangjgclpipjdaaDoor
open Go.RowKit Go.Proofs.YtangjgclpipjdaaDoorW.PrintWords Go.Proofs.YtangjgclpipjdaaDoorW.PrintLast Go.Proofs.YtangjgclpipjdaaDoorW.PrintMore

theorem fits1_any (nm tx : ByteArray) (ty i u : Int) (w : World) : Calls Tryd.prog 9 #[varV nm ty i u tx] w fun e w' => e = .returned (.bool (decide (nm.size ≤ 2147483647 ∧ tx.size ≤ 2147483647))) ∧ Below w.heap.size w w' := by
  have hal := (Below.refl w.heap.size w).alloc (Nat.le_refl _) (varO nm ty i u tx)
  by_cases h1 : (2147483647 : Int) < nm.size
  · go_enter Tryd.func9, Tryd.ntmps9
    go_wp2
    go_ret
    exact ⟨by congr 2; simp; omega, hal⟩
  · by_cases h2 : (2147483647 : Int) < tx.size
    · go_enter Tryd.func9, Tryd.ntmps9
      go_wp2
      go_ret
      exact ⟨by congr 2; simp; omega, hal⟩
    · go_enter Tryd.func9, Tryd.ntmps9
      go_wp2
      go_ret
      exact ⟨by congr 2; simp; omega, hal⟩

theorem ta_nil_int (w : World) : (Instr.typeAssert .nilIface 20 3 true).run Tryd.prog w = .ok (.tuple #[.int .i64 0, .bool false]) w := by kernel_rfl
theorem ta_nil_uint (w : World) : (Instr.typeAssert .nilIface 20 38 true).run Tryd.prog w = .ok (.tuple #[.int .u64 0, .bool false]) w := by kernel_rfl
theorem ta_nil_u32 (w : World) : (Instr.typeAssert .nilIface 20 36 true).run Tryd.prog w = .ok (.tuple #[.int .u32 0, .bool false]) w := by kernel_rfl
theorem ta_nil_u64 (w : World) : (Instr.typeAssert .nilIface 20 22 true).run Tryd.prog w = .ok (.tuple #[.int .u64 0, .bool false]) w := by kernel_rfl
theorem ta_nil_f32 (w : World) : (Instr.typeAssert .nilIface 20 114 true).run Tryd.prog w = .ok (.tuple #[.float .f32 0, .bool false]) w := by kernel_rfl
theorem ta_nil_f64 (w : World) : (Instr.typeAssert .nilIface 20 116 true).run Tryd.prog w = .ok (.tuple #[.float .f64 0, .bool false]) w := by kernel_rfl
theorem ta_nil_bytes (w : World) : (Instr.typeAssert .nilIface 20 26 true).run Tryd.prog w = .ok (.tuple #[.slice none 0 0, .bool false]) w := by kernel_rfl
theorem ta_nil_str (w : World) : (Instr.typeAssert .nilIface 20 9 true).run Tryd.prog w = .ok (.tuple #[.string ByteArray.empty, .bool false]) w := by kernel_rfl
theorem ta_int_int (v : Value) (w : World) : (Instr.typeAssert (.iface 3 v) 20 3 true).run Tryd.prog w = .ok (.tuple #[v, .bool true]) w := by kernel_rfl
theorem ta_uint_int (v : Value) (w : World) : (Instr.typeAssert (.iface 38 v) 20 3 true).run Tryd.prog w = .ok (.tuple #[.int .i64 0, .bool false]) w := by kernel_rfl
theorem ta_uint_uint (v : Value) (w : World) : (Instr.typeAssert (.iface 38 v) 20 38 true).run Tryd.prog w = .ok (.tuple #[v, .bool true]) w := by kernel_rfl
theorem ta_u32_int (v : Value) (w : World) : (Instr.typeAssert (.iface 36 v) 20 3 true).run Tryd.prog w = .ok (.tuple #[.int .i64 0, .bool false]) w := by kernel_rfl
theorem ta_u32_uint (v : Value) (w : World) : (Instr.typeAssert (.iface 36 v) 20 38 true).run Tryd.prog w = .ok (.tuple #[.int .u64 0, .bool false]) w := by kernel_rfl
theorem ta_u32_u32 (v : Value) (w : World) : (Instr.typeAssert (.iface 36 v) 20 36 true).run Tryd.prog w = .ok (.tuple #[v, .bool true]) w := by kernel_rfl
theorem ta_u64_int (v : Value) (w : World) : (Instr.typeAssert (.iface 22 v) 20 3 true).run Tryd.prog w = .ok (.tuple #[.int .i64 0, .bool false]) w := by kernel_rfl
theorem ta_u64_uint (v : Value) (w : World) : (Instr.typeAssert (.iface 22 v) 20 38 true).run Tryd.prog w = .ok (.tuple #[.int .u64 0, .bool false]) w := by kernel_rfl
theorem ta_u64_u32 (v : Value) (w : World) : (Instr.typeAssert (.iface 22 v) 20 36 true).run Tryd.prog w = .ok (.tuple #[.int .u32 0, .bool false]) w := by kernel_rfl
theorem ta_u64_u64 (v : Value) (w : World) : (Instr.typeAssert (.iface 22 v) 20 22 true).run Tryd.prog w = .ok (.tuple #[v, .bool true]) w := by kernel_rfl
theorem ta_bytes_int (v : Value) (w : World) : (Instr.typeAssert (.iface 26 v) 20 3 true).run Tryd.prog w = .ok (.tuple #[.int .i64 0, .bool false]) w := by kernel_rfl
theorem ta_bytes_uint (v : Value) (w : World) : (Instr.typeAssert (.iface 26 v) 20 38 true).run Tryd.prog w = .ok (.tuple #[.int .u64 0, .bool false]) w := by kernel_rfl
theorem ta_bytes_u32 (v : Value) (w : World) : (Instr.typeAssert (.iface 26 v) 20 36 true).run Tryd.prog w = .ok (.tuple #[.int .u32 0, .bool false]) w := by kernel_rfl
theorem ta_bytes_u64 (v : Value) (w : World) : (Instr.typeAssert (.iface 26 v) 20 22 true).run Tryd.prog w = .ok (.tuple #[.int .u64 0, .bool false]) w := by kernel_rfl
theorem ta_bytes_f32 (v : Value) (w : World) : (Instr.typeAssert (.iface 26 v) 20 114 true).run Tryd.prog w = .ok (.tuple #[.float .f32 0, .bool false]) w := by kernel_rfl
theorem ta_bytes_f64 (v : Value) (w : World) : (Instr.typeAssert (.iface 26 v) 20 116 true).run Tryd.prog w = .ok (.tuple #[.float .f64 0, .bool false]) w := by kernel_rfl
theorem ta_bytes_bytes (v : Value) (w : World) : (Instr.typeAssert (.iface 26 v) 20 26 true).run Tryd.prog w = .ok (.tuple #[v, .bool true]) w := by kernel_rfl
theorem ta_str_int (v : Value) (w : World) : (Instr.typeAssert (.iface 9 v) 20 3 true).run Tryd.prog w = .ok (.tuple #[.int .i64 0, .bool false]) w := by kernel_rfl
theorem ta_str_uint (v : Value) (w : World) : (Instr.typeAssert (.iface 9 v) 20 38 true).run Tryd.prog w = .ok (.tuple #[.int .u64 0, .bool false]) w := by kernel_rfl
theorem ta_str_u32 (v : Value) (w : World) : (Instr.typeAssert (.iface 9 v) 20 36 true).run Tryd.prog w = .ok (.tuple #[.int .u32 0, .bool false]) w := by kernel_rfl
theorem ta_str_u64 (v : Value) (w : World) : (Instr.typeAssert (.iface 9 v) 20 22 true).run Tryd.prog w = .ok (.tuple #[.int .u64 0, .bool false]) w := by kernel_rfl
theorem ta_str_f32 (v : Value) (w : World) : (Instr.typeAssert (.iface 9 v) 20 114 true).run Tryd.prog w = .ok (.tuple #[.float .f32 0, .bool false]) w := by kernel_rfl
theorem ta_str_f64 (v : Value) (w : World) : (Instr.typeAssert (.iface 9 v) 20 116 true).run Tryd.prog w = .ok (.tuple #[.float .f64 0, .bool false]) w := by kernel_rfl
theorem ta_str_bytes (v : Value) (w : World) : (Instr.typeAssert (.iface 9 v) 20 26 true).run Tryd.prog w = .ok (.tuple #[.slice none 0 0, .bool false]) w := by kernel_rfl
theorem ta_str_str (v : Value) (w : World) : (Instr.typeAssert (.iface 9 v) 20 9 true).run Tryd.prog w = .ok (.tuple #[v, .bool true]) w := by kernel_rfl
/-- What told is handed (besides a name and a type), and what it says: number, number without a sign, text. -/
inductive ToldIn (w : World) : Value → Int → Int → List Int → Prop
  | nil : ToldIn w .nilIface 0 0 []
  | int (n : Int) (h0 : -9223372036854775808 ≤ n) (h1 : n ≤ 9223372036854775807) : ToldIn w (.iface 3 (.int .i64 n)) n 0 []
  | uint (n : Int) (h0 : 0 ≤ n) (h1 : n ≤ 18446744073709551615) : ToldIn w (.iface 38 (.int .u64 n)) 0 n []
  | u32 (n : Int) (h0 : 0 ≤ n) (h1 : n ≤ 4294967295) : ToldIn w (.iface 36 (.int .u32 n)) 0 n []
  | u64 (n : Int) (h0 : 0 ≤ n) (h1 : n ≤ 18446744073709551615) : ToldIn w (.iface 22 (.int .u64 n)) 0 n []
  | bytes (A : Option Addr) (c : Nat) (xs : List Int) (hl : xs.length ≤ 100000) (h : Kd.C (Kd.int .u8) w A xs.length xs) : ToldIn w (.iface 26 (.slice A xs.length c)) 0 0 xs
  | str (s : ByteArray) : ToldIn w (.iface 9 (.string s)) 0 0 (bs s)
theorem told_ret {fn : Func} {p : Tmp} (h : fn.results = #[.cell p 24]) {a : Act} {w : World} {nm tx : ByteArray} {ty i u : Int} {o : Obj} (hp : a.tmps.getD p undef = .pointer (some ⟨w.heap.size, 0, none⟩)) (hd : a.defers = []) :
    bodyPost Tryd.prog fn (fun e w' => e = .returned (varV nm ty i u tx) ∧ Below w.heap.size w w') .ret a ((w.alloc (varO nm ty i u tx)).alloc o) :=
  bodyPost_ret (results_cell_row h _ _ w.heap.size 24 #[.string nm, .int .i64 ty, .int .i64 i, .int .u64 u, .string tx] (0, 0) _ hp (blk_alloc (blk_new w (varO nm ty i u tx)) _) Tryd.underlying24 rfl infoVar) hd ⟨rfl, ((Below.refl w.heap.size w).alloc (Nat.le_refl _) _).alloc (by simp) _⟩

set_option maxRecDepth 100000 in
set_option maxHeartbeats 4000000 in
theorem told_any (nm : ByteArray) (t : Int) (t0 : 0 ≤ t) (t1 : t ≤ 255) (v : Value) (i' u' : Int) (tx' : List Int) (w : World) (h : ToldIn w v i' u' tx') :
    Calls Tryd.prog 37 #[.string nm, .int .u8 t, v] w fun e w' => e = .returned (varV nm t i' u' (strOfNums tx')) ∧ Below w.heap.size w w' := by
  cases h with
  | nil =>
    have q_ta_nil_int := fun W => ta_nil_int W
    have q_ta_nil_uint := fun W => ta_nil_uint W
    have q_ta_nil_u32 := fun W => ta_nil_u32 W
    have q_ta_nil_u64 := fun W => ta_nil_u64 W
    have q_ta_nil_f32 := fun W => ta_nil_f32 W
    have q_ta_nil_f64 := fun W => ta_nil_f64 W
    have q_ta_nil_bytes := fun W => ta_nil_bytes W
    have q_ta_nil_str := fun W => ta_nil_str W
    go_enter Tryd.func37, Tryd.ntmps37
    go_wp2
    exact told_ret rfl rfl rfl
  | int n h0 h1 =>
    have q_ta_int_int := fun W => ta_int_int (.int .i64 i') W
    go_enter Tryd.func37, Tryd.ntmps37
    go_wp2
    exact told_ret rfl rfl rfl
  | uint n h0 h1 =>
    have q_ta_uint_int := fun W => ta_uint_int (.int .u64 u') W
    have q_ta_uint_uint := fun W => ta_uint_uint (.int .u64 u') W
    go_enter Tryd.func37, Tryd.ntmps37
    go_wp2
    exact told_ret rfl rfl rfl
  | u32 n h0 h1 =>
    have q_ta_u32_int := fun W => ta_u32_int (.int .u32 u') W
    have q_ta_u32_uint := fun W => ta_u32_uint (.int .u32 u') W
    have q_ta_u32_u32 := fun W => ta_u32_u32 (.int .u32 u') W
    go_enter Tryd.func37, Tryd.ntmps37
    go_wp2
    exact told_ret rfl rfl rfl
  | u64 n h0 h1 =>
    have q_ta_u64_int := fun W => ta_u64_int (.int .u64 u') W
    have q_ta_u64_uint := fun W => ta_u64_uint (.int .u64 u') W
    have q_ta_u64_u32 := fun W => ta_u64_u32 (.int .u64 u') W
    have q_ta_u64_u64 := fun W => ta_u64_u64 (.int .u64 u') W
    go_enter Tryd.func37, Tryd.ntmps37
    go_wp2
    exact told_ret rfl rfl rfl
  | bytes A c xs hl h =>
    have hb2 := ((Below.refl w.heap.size w).alloc (Nat.le_refl _) (varO ⟨#[]⟩ 0 0 0 ⟨#[]⟩)).alloc (by simp) (varO nm t 0 0 ⟨#[]⟩)
    have hcv := Kd.C_string (P := Tryd.prog) Tryd.underlying26 Tryd.underlying5 Tryd.underlying9 (Kd.C_below h hb2) (c := c)
    clear h hb2
    have q_ta_bytes_int := fun W => ta_bytes_int (.slice A tx'.length c) W
    have q_ta_bytes_uint := fun W => ta_bytes_uint (.slice A tx'.length c) W
    have q_ta_bytes_u32 := fun W => ta_bytes_u32 (.slice A tx'.length c) W
    have q_ta_bytes_u64 := fun W => ta_bytes_u64 (.slice A tx'.length c) W
    have q_ta_bytes_f32 := fun W => ta_bytes_f32 (.slice A tx'.length c) W
    have q_ta_bytes_f64 := fun W => ta_bytes_f64 (.slice A tx'.length c) W
    have q_ta_bytes_bytes := fun W => ta_bytes_bytes (.slice A tx'.length c) W
    go_enter Tryd.func37, Tryd.ntmps37
    go_wp2
    exact told_ret rfl rfl rfl
  | str s =>
    rw [strOfNums_bs]
    have q_ta_str_int := fun W => ta_str_int (.string s) W
    have q_ta_str_uint := fun W => ta_str_uint (.string s) W
    have q_ta_str_u32 := fun W => ta_str_u32 (.string s) W
    have q_ta_str_u64 := fun W => ta_str_u64 (.string s) W
    have q_ta_str_f32 := fun W => ta_str_f32 (.string s) W
    have q_ta_str_f64 := fun W => ta_str_f64 (.string s) W
    have q_ta_str_bytes := fun W => ta_str_bytes (.string s) W
    have q_ta_str_str := fun W => ta_str_str (.string s) W
    go_enter Tryd.func37, Tryd.ntmps37
    go_wp2
    exact told_ret rfl rfl rfl
end Go.Proofs.YtangjgclpipjdaaDoor
