/- The lemmas and walks that FnDecode and FnCut and FnRead rests on, part 20: MsgArg MsgP WValAFnValue. -/
import Derived.Deep.Slices
import Derived.Test.YtangjgclpipjdaaDoorQM7
import Derived.Test.YtangjgclpipjdaaDoorQM10
import Derived.Test.YtangjgclpipjdaaDoorQM18
set_option linter.unusedVariables false
namespace Go.Proofs.YtangjgclpipjdaaDoor
open Go.ChangeShapes Go.WideShapes Go.ChangeAt Go.RowKit Go.Joins Go.Proofs.YtangjgclpipjdaaDoorW.PrintWords Go.Proofs.YtangjgclpipjdaaDoorW.PrintLast Go.Proofs.YtangjgclpipjdaaDoorW.PrintMore
theorem array12 {α : Type} {cs : Array α} (h : cs.size = 12) : ∃ c0 c1 c2 c3 c4 c5 c6 c7 c8 c9 c10 c11, cs = #[c0, c1, c2, c3, c4, c5, c6, c7, c8, c9, c10, c11] := by
  obtain ⟨l⟩ := cs
  match l, h with
  | [c0, c1, c2, c3, c4, c5, c6, c7, c8, c9, c10, c11], _ => exact ⟨c0, c1, c2, c3, c4, c5, c6, c7, c8, c9, c10, c11, rfl⟩
theorem cellsMsg : Tryd.prog.cellsOf 40 = 12 := by kernel_rfl
theorem cellsMsg4 : Tryd.prog.cellsOf 36 = 1 ∧ Tryd.prog.cellsOf 37 = 1 ∧ Tryd.prog.cellsOf 38 = 1 := ⟨by kernel_rfl, by kernel_rfl, by kernel_rfl⟩
/-- The numbers of a variable, as wide as they may be. -/
structure VarB (v : VarT) : Prop where
  t0 : -9223372036854775808 ≤ v.ty
  t1 : v.ty ≤ 9223372036854775807
  i0 : -9223372036854775808 ≤ v.i
  i1 : v.i ≤ 9223372036854775807
  u0 : 0 ≤ v.u
  u1 : v.u ≤ 18446744073709551615
instance : Inhabited VarT := ⟨⟨⟨#[]⟩, 0, 0, 0, ⟨#[]⟩⟩⟩
set_option maxRecDepth 100000 in
theorem open_varC {H : Type} {enc : TypeId × Value → H} {w : World} {base : Nat} {spare : Nat → Bool} {held : Bool} {fuel : Nat} {cs : List Value} {x : DataW H × List MemPlace}
    (hs : cs.length = 5) (hf : DataW.trod enc Tryd.prog w base spare held fuel 24 cs = some x) : ∃ v : VarT, cs = v.cells ∧ VarB v := by
  obtain ⟨c0, c1, c2, c3, c4, rfl⟩ : ∃ c0 c1 c2 c3 c4, cs = [c0, c1, c2, c3, c4] := by
    match cs, hs with
    | [c0, c1, c2, c3, c4], _ => exact ⟨c0, c1, c2, c3, c4, rfl⟩
  obtain ⟨xs, n, _, _, hl, hlen, hf⟩ := DataW.trod_struct Tryd.underlying24 hf
  obtain ⟨k0, k1, k2, k3⟩ := cellsVar5
  have g0 : DataW.trod enc Tryd.prog w base spare held n 9 [c0] = xs[0]? := by
    have h0 := hf 0 _ rfl
    change DataW.trod enc _ w base spare held n 9 (List.take (Tryd.prog.cellsOf 9) [c0, c1, c2, c3, c4]) = _ at h0
    rw [k0] at h0
    exact h0
  have g1 : DataW.trod enc Tryd.prog w base spare held n 3 [c1] = xs[1]? := by
    have h0 := hf 1 _ rfl
    change DataW.trod enc _ w base spare held n 3 (List.take (Tryd.prog.cellsOf 3) [c1, c2, c3, c4]) = _ at h0
    rw [k1] at h0
    exact h0
  have g2 : DataW.trod enc Tryd.prog w base spare held n 2 [c2] = xs[2]? := by
    have h0 := hf 2 _ rfl
    change DataW.trod enc _ w base spare held n 2 (List.take (Tryd.prog.cellsOf 2) [c2, c3, c4]) = _ at h0
    rw [k2] at h0
    exact h0
  have g3 : DataW.trod enc Tryd.prog w base spare held n 22 [c3] = xs[3]? := by
    have h0 := hf 3 _ rfl
    change DataW.trod enc _ w base spare held n 22 (List.take (Tryd.prog.cellsOf 22) [c3, c4]) = _ at h0
    rw [k3] at h0
    exact h0
  have g4 : DataW.trod enc Tryd.prog w base spare held n 9 [c4] = xs[4]? := by
    have h0 := hf 4 _ rfl
    change DataW.trod enc _ w base spare held n 9 (List.take (Tryd.prog.cellsOf 9) [c4]) = _ at h0
    rw [k0] at h0
    exact h0
  have h5 : xs.length = 5 := hlen
  clear hf hlen hl hs
  match xs, h5 with
  | [y0, y1, y2, y3, y4], _ =>
    obtain ⟨nm, e0, -, w0⟩ := DataW.trod_string Tryd.underlying9 g0
    obtain ⟨ty, e1, -, w1⟩ := DataW.trod_int Tryd.underlying3 g1
    obtain ⟨i, e2, -, w2⟩ := DataW.trod_int Tryd.underlying2 g2
    obtain ⟨u, e3, -, w3⟩ := DataW.trod_int Tryd.underlying22 g3
    obtain ⟨tx, e4, -, w4⟩ := DataW.trod_string Tryd.underlying9 g4
    injection e0 with e0; injection e1 with e1; injection e2 with e2; injection e3 with e3; injection e4 with e4
    subst e0 e1 e2 e3 e4
    have b1 := bounds_i64 w1
    have b2 := bounds_i64 w2
    have b3 := bounds_u64 w3
    exact ⟨⟨nm, ty, i, u, tx⟩, rfl, by constructor <;> simp only <;> omega⟩
/-- The numbers of a message. -/
structure MsgB (m : MsgT) : Prop where
  v0 : -9223372036854775808 ≤ m.ver
  v1 : m.ver ≤ 9223372036854775807
  k0 : -9223372036854775808 ≤ m.kind
  k1 : m.kind ≤ 9223372036854775807
  i0 : 0 ≤ m.id
  i1 : m.id ≤ 4294967295
  s0 : -9223372036854775808 ≤ m.st
  s1 : m.st ≤ 9223372036854775807
  x0 : -9223372036854775808 ≤ m.ix
  x1 : m.ix ≤ 9223372036854775807
  g0 : -9223372036854775808 ≤ m.gen
  g1 : m.gen ≤ 9223372036854775807
  p0 : -9223372036854775808 ≤ m.spc
  p1 : m.spc ≤ 9223372036854775807
  t0 : 0 ≤ m.tm
  t1 : m.tm ≤ 18446744073709551615
set_option maxRecDepth 100000 in
theorem open_list {H : Type} {enc : TypeId × Value → H} {w : World} {base : Nat} {spare : Nat → Bool} {held : Bool} {fuel : Nat} {cs : List Value} {x : DataW H × List MemPlace}
    (hf : DataW.trod enc Tryd.prog w base spare held fuel 37 cs = some x) : ∃ (A : Option Addr) (c : Nat) (vs : List VarT), cs = [.slice A vs.length c] ∧ Kd.C kVar w A vs.length vs ∧ ∀ v ∈ vs, VarB v := by
  rcases Go.Deep.open_slice Tryd.underlying37 hf with ⟨rfl, -⟩ | ⟨a, len, cap, m, n, D, Pl, rfl, hb, hl, hm, hmm, -, hx⟩
  · exact ⟨none, 0, [], rfl, ⟨rfl, Nat.zero_le _, fun h => absurd h (by simp)⟩, fun v hv => by simp at hv⟩
  · rw [show Tryd.prog.cellsOf 24 = 5 from cellsVar] at hx
    have hlm : len ≤ m := by rw [hmm]; split <;> omega
    obtain ⟨f, hf2⟩ := Go.Deep.choose_lt (α := VarT) (n := len) (p := fun i v => VarB v ∧ w.cells? base (a.add (i * 5)) 5 = some v.cells) (fun i hi => by
      obtain ⟨cs', h1, h2⟩ := hx i (by omega)
      obtain ⟨-, hlen, -⟩ := World.cells?_some h1
      obtain ⟨v, rfl, hv⟩ := open_varC hlen h2
      exact ⟨v, hv, h1⟩)
    have hlen : ((List.range len).map f).length = len := by simp
    refine ⟨some a, cap, (List.range len).map f, by rw [hlen], ?_, ?_⟩
    · rw [hlen]
      refine ⟨hlen, by simp only [maxLen] at hm; omega, fun _ => ⟨a, rfl, fun j p hj => ?_⟩⟩
      obtain ⟨hjl, hjp⟩ := List.getElem?_eq_some_iff.1 hj
      rw [hlen] at hjl
      have hp : p = f j := by rw [← hjp]; simp
      obtain ⟨hv, hc⟩ := hf2 j hjl
      obtain ⟨-, hl5, hcell⟩ := World.cells?_some hc
      refine ⟨(f j).cells, rfl, by rw [hp]; rfl, fun i u hu => ?_⟩
      have hi : i < 5 := (List.getElem?_eq_some_iff.1 hu).1
      have h3 := hcell i hi
      show w.cell? (a.add (j * 5 + i)) = some u
      rw [show a.add (j * 5 + i) = (a.add (j * 5)).add i from (Go.Deep.add_add a (j * 5) i).symm]
      rw [← hu]
      exact h3
    · intro v hv
      obtain ⟨i, hi, rfl⟩ := List.mem_map.1 hv
      exact (hf2 i (List.mem_range.1 hi)).1
set_option maxRecDepth 100000 in
theorem open_msg {H : Type} {enc : TypeId × Value → H} {w : World} {base : Nat} {spare : Nat → Bool} {held : Bool} {r : Reach} {b0 : Nat} {v : Value} {d : DataW H} {p : List MemPlace}
    (hv : Value.okWide Tryd.prog w r b0 40 v) (h : DataW.Trod enc Tryd.prog w base spare held 40 v d p) :
    ∃ (m : MsgT) (A : Option Addr) (c : Nat) (vs : List VarT), v = .agg (m.arr (.slice A vs.length c)) ∧ Kd.C kVar w A vs.length vs ∧ MsgB m ∧ ∀ v ∈ vs, VarB v := by
  obtain ⟨cs, rfl, hsz⟩ := okWide_struct Tryd.underlying40 hv
  obtain ⟨c0, c1, c2, c3, c4, c5, c6, c7, c8, c9, c10, c11, rfl⟩ := array12 (hsz.trans cellsMsg)
  obtain ⟨fuel, hf⟩ := h
  obtain ⟨xs, n, _, _, hl, hlen, hf⟩ := DataW.trod_struct Tryd.underlying40 hf
  obtain ⟨k0, k1, k2, k3⟩ := cellsVar5
  obtain ⟨k4, k5, k6⟩ := cellsMsg4
  have g0 : DataW.trod enc Tryd.prog w base spare held n 3 [c0] = xs[0]? := by
    have h0 := hf 0 _ rfl
    change DataW.trod enc _ w base spare held n 3 (List.take (Tryd.prog.cellsOf 3) [c0, c1, c2, c3, c4, c5, c6, c7, c8, c9, c10, c11]) = _ at h0
    rw [k1] at h0
    exact h0
  have g1 : DataW.trod enc Tryd.prog w base spare held n 9 [c1] = xs[1]? := by
    have h0 := hf 1 _ rfl
    change DataW.trod enc _ w base spare held n 9 (List.take (Tryd.prog.cellsOf 9) [c1, c2, c3, c4, c5, c6, c7, c8, c9, c10, c11]) = _ at h0
    rw [k0] at h0
    exact h0
  have g2 : DataW.trod enc Tryd.prog w base spare held n 3 [c2] = xs[2]? := by
    have h0 := hf 2 _ rfl
    change DataW.trod enc _ w base spare held n 3 (List.take (Tryd.prog.cellsOf 3) [c2, c3, c4, c5, c6, c7, c8, c9, c10, c11]) = _ at h0
    rw [k1] at h0
    exact h0
  have g3 : DataW.trod enc Tryd.prog w base spare held n 36 [c3] = xs[3]? := by
    have h0 := hf 3 _ rfl
    change DataW.trod enc _ w base spare held n 36 (List.take (Tryd.prog.cellsOf 36) [c3, c4, c5, c6, c7, c8, c9, c10, c11]) = _ at h0
    rw [k4] at h0
    exact h0
  have g4 : DataW.trod enc Tryd.prog w base spare held n 3 [c4] = xs[4]? := by
    have h0 := hf 4 _ rfl
    change DataW.trod enc _ w base spare held n 3 (List.take (Tryd.prog.cellsOf 3) [c4, c5, c6, c7, c8, c9, c10, c11]) = _ at h0
    rw [k1] at h0
    exact h0
  have g5 : DataW.trod enc Tryd.prog w base spare held n 3 [c5] = xs[5]? := by
    have h0 := hf 5 _ rfl
    change DataW.trod enc _ w base spare held n 3 (List.take (Tryd.prog.cellsOf 3) [c5, c6, c7, c8, c9, c10, c11]) = _ at h0
    rw [k1] at h0
    exact h0
  have g6 : DataW.trod enc Tryd.prog w base spare held n 37 [c6] = xs[6]? := by
    have h0 := hf 6 _ rfl
    change DataW.trod enc _ w base spare held n 37 (List.take (Tryd.prog.cellsOf 37) [c6, c7, c8, c9, c10, c11]) = _ at h0
    rw [k5] at h0
    exact h0
  have g7 : DataW.trod enc Tryd.prog w base spare held n 9 [c7] = xs[7]? := by
    have h0 := hf 7 _ rfl
    change DataW.trod enc _ w base spare held n 9 (List.take (Tryd.prog.cellsOf 9) [c7, c8, c9, c10, c11]) = _ at h0
    rw [k0] at h0
    exact h0
  have g8 : DataW.trod enc Tryd.prog w base spare held n 9 [c8] = xs[8]? := by
    have h0 := hf 8 _ rfl
    change DataW.trod enc _ w base spare held n 9 (List.take (Tryd.prog.cellsOf 9) [c8, c9, c10, c11]) = _ at h0
    rw [k0] at h0
    exact h0
  have g9 : DataW.trod enc Tryd.prog w base spare held n 3 [c9] = xs[9]? := by
    have h0 := hf 9 _ rfl
    change DataW.trod enc _ w base spare held n 3 (List.take (Tryd.prog.cellsOf 3) [c9, c10, c11]) = _ at h0
    rw [k1] at h0
    exact h0
  have g10 : DataW.trod enc Tryd.prog w base spare held n 3 [c10] = xs[10]? := by
    have h0 := hf 10 _ rfl
    change DataW.trod enc _ w base spare held n 3 (List.take (Tryd.prog.cellsOf 3) [c10, c11]) = _ at h0
    rw [k1] at h0
    exact h0
  have g11 : DataW.trod enc Tryd.prog w base spare held n 38 [c11] = xs[11]? := by
    have h0 := hf 11 _ rfl
    change DataW.trod enc _ w base spare held n 38 (List.take (Tryd.prog.cellsOf 38) [c11]) = _ at h0
    rw [k6] at h0
    exact h0
  have h12 : xs.length = 12 := hlen
  clear hf hlen hl hsz hv
  match xs, h12 with
  | [y0, y1, y2, y3, y4, y5, y6, y7, y8, y9, y10, y11], _ =>
    obtain ⟨ver, e0, -, w0⟩ := DataW.trod_int Tryd.underlying3 g0
    obtain ⟨com, e1, -, w1⟩ := DataW.trod_string Tryd.underlying9 g1
    obtain ⟨kind, e2, -, w2⟩ := DataW.trod_int Tryd.underlying3 g2
    obtain ⟨id, e3, -, w3⟩ := DataW.trod_int Tryd.underlying36 g3
    obtain ⟨st, e4, -, w4⟩ := DataW.trod_int Tryd.underlying3 g4
    obtain ⟨ix, e5, -, w5⟩ := DataW.trod_int Tryd.underlying3 g5
    obtain ⟨A, c, vs, e6, hC, hB⟩ := open_list (x := y6) g6
    obtain ⟨ent, e7, -, w7⟩ := DataW.trod_string Tryd.underlying9 g7
    obtain ⟨ag, e8, -, w8⟩ := DataW.trod_string Tryd.underlying9 g8
    obtain ⟨gen, e9, -, w9⟩ := DataW.trod_int Tryd.underlying3 g9
    obtain ⟨spc, e10, -, w10⟩ := DataW.trod_int Tryd.underlying3 g10
    obtain ⟨tm, e11, -, w11⟩ := DataW.trod_int Tryd.underlying38 g11
    injection e0 with e0; injection e1 with e1; injection e2 with e2; injection e3 with e3; injection e4 with e4; injection e5 with e5; injection e6 with e6; injection e7 with e7; injection e8 with e8; injection e9 with e9; injection e10 with e10; injection e11 with e11
    subst e0 e1 e2 e3 e4 e5 e6 e7 e8 e9 e10 e11
    have b0 := bounds_i64 w0
    have b2 := bounds_i64 w2
    have b3 := bounds_u32 w3
    have b4 := bounds_i64 w4
    have b5 := bounds_i64 w5
    have b9 := bounds_i64 w9
    have b10 := bounds_i64 w10
    have b11 := bounds_u64 w11
    exact ⟨⟨ver, com, kind, id, st, ix, ent, ag, gen, spc, tm⟩, A, c, vs, rfl, hC, by constructor <;> simp only <;> omega, hB⟩
end Go.Proofs.YtangjgclpipjdaaDoor
set_option linter.unusedVariables false
namespace Go.Proofs.YtangjgclpipjdaaDoor
open Go.RowKit Go.Proofs.YtangjgclpipjdaaDoorW.PrintWords Go.Proofs.YtangjgclpipjdaaDoorW.PrintLast Go.Proofs.YtangjgclpipjdaaDoorW.PrintMore
theorem varOk_of {v : VarT} (h : VarB v) (hf : fits1 v = true) : VarOk v := by
  unfold fits1 at hf
  have := of_decide_eq_true hf
  exact ⟨h.i0, h.i1, h.u0, h.u1, this.1, this.2⟩
theorem fits2_vars {m : MsgT} {vs : List VarT} (h : fits2 m vs = true) : ∀ v ∈ vs, fits1 v = true := by
  unfold fits2 at h
  simp only [Bool.and_eq_true] at h
  exact (of_decide_eq_true h.2.1).2
theorem bytesQ_isB (wide : Nat) (hw : wide ≤ 2) (q : VarT × Ask) (h : okQ q) (u0 : 0 ≤ q.1.u) (u1 : q.1.u ≤ 18446744073709551615) : IsB (bytesQ wide q) := by
  have hl := h.cont.len
  have hn := (sArcs_text _ _ h.name).2.1
  have a := (sealed_len 6 (sName q.2.arcs) wide).2
  have b := (sealed_len q.1.ty q.2.c wide).2
  exact sSealed_isB _ _ _ (isB_append (sSealed_isB _ _ _ (sName_isB q.2.arcs (sArcs_bounds _ _ h.name)) (by omega) (by omega)) (sSealed_isB _ _ _ (h.cont.isB u0 u1) (by omega) (by omega))) (by simp; omega) (by omega)
theorem bytesQ_len (wide : Nat) (hw : wide ≤ 2) (q : VarT × Ask) (h : okQ q) : (bytesQ wide q).length ≤ 660 := by
  have hl := h.cont.len
  have hn := (sArcs_text _ _ h.name).2.1
  have a := (sealed_len 6 (sName q.2.arcs) wide).2
  have b := (sealed_len q.1.ty q.2.c wide).2
  have c := (sealed_len 48 (sSealed 6 (sName q.2.arcs) wide ++ sSealed q.1.ty q.2.c wide) wide).2
  unfold bytesQ sVar
  simp only [List.length_append] at c ⊢
  omega
theorem flat_isB : ∀ (l : List (List Int)), (∀ x ∈ l, IsB x) → IsB l.flatten
  | [], _ => fun x hx => by simp at hx
  | a :: l, h => by
    rw [List.flatten_cons]
    exact isB_append (h a (by simp)) (flat_isB l (fun x hx => h x (by simp [hx])))
theorem bytes_flat (wide : Nat) (hw : wide ≤ 2) (qs : List (VarT × Ask)) (h : ∀ q ∈ qs, okQ q) (hu : ∀ q ∈ qs, 0 ≤ q.1.u ∧ q.1.u ≤ 18446744073709551615) : (qs.map (bytesQ wide)).flatten.length ≤ 660 * qs.length ∧ IsB (qs.map (bytesQ wide)).flatten := by
  refine ⟨?_, flat_isB _ (fun x hx => ?_)⟩
  · induction qs with
    | nil => simp
    | cons q qs ih =>
      have := bytesQ_len wide hw q (h q (by simp))
      have := ih (fun x hx => h x (by simp [hx])) (fun x hx => hu x (by simp [hx]))
      simp only [List.map_cons, List.flatten_cons, List.length_append, List.length_cons]
      omega
  · obtain ⟨q, hq, rfl⟩ := List.mem_map.1 hx
    exact bytesQ_isB wide hw q (h q hq) (hu q hq).1 (hu q hq).2
theorem gMsg_len (ver : Int) (com : List Int) (kind id st ix : Int) (list : List Int) (wide : Nat) (hw : wide ≤ 2) : (gMsg ver com kind id st ix list wide).length ≤ list.length + com.length + 100 := by
  have a := (sealed_len 2 (mInt32 ver) wide).2
  have b := (sealed_len 4 com wide).2
  have c := (sealed_len kind (gBody id st ix list wide) wide).2
  have d := (mInt32_len ver).2
  have e := gBody_len id st ix list wide
  have f := (sealed_len 48 (sSealed 2 (mInt32 ver) wide ++ (sSealed 4 com wide ++ sSealed kind (gBody id st ix list wide) wide)) wide).2
  unfold gMsg
  simp only [List.length_append] at f ⊢
  omega
theorem gMsg_isB (ver : Int) (com : List Int) (kind id st ix : Int) (list : List Int) (wide : Nat) (hw : wide ≤ 2) (hc : IsB com) (hl : IsB list) (h1 : com.length ≤ 1000) (h2 : list.length ≤ 60000) : IsB (gMsg ver com kind id st ix list wide) := by
  have a := (sealed_len 2 (mInt32 ver) wide).2
  have b := (sealed_len 4 com wide).2
  have c := (sealed_len kind (gBody id st ix list wide) wide).2
  have d := (mInt32_len ver).2
  have e := gBody_len id st ix list wide
  have hm : ∀ n : Int, IsB (sSealed 2 (mInt32 n) wide) := fun n => sSealed_isB _ _ _ (mInt32_isB n) (by have := (mInt32_len n).2; omega) (by omega)
  have hb : IsB (gBody id st ix list wide) := isB_append (hm _) (isB_append (hm _) (isB_append (hm _) (sSealed_isB _ _ _ hl (by omega) (by omega))))
  exact sSealed_isB _ _ _ (isB_append (hm _) (isB_append (sSealed_isB _ _ _ hc (by omega) (by omega)) (sSealed_isB _ _ _ hb (by omega) (by omega)))) (by simp only [List.length_append]; omega) (by omega)
/-- The message of bytes that are asked, as it is told. -/
theorem told_msg (m : MsgT) (n : Nat) (hok : MsgOk m n) (qs : List (VarT × Ask)) : msgP ⟨m.ver, bs m.com, m.kind, m.id, m.st, m.ix, qs.map partQ⟩ = m := by
  obtain ⟨ver, com, kind, id, st, ix, ent, ag, gen, spc, tm⟩ := m
  have h1 := hok.ent
  have h2 := hok.ag
  have h3 := hok.gen
  have h4 := hok.spc
  have h5 := hok.tm
  simp only at h1 h2 h3 h4 h5
  subst h1 h2 h3 h4 h5
  unfold msgP
  simp only [strOfNums_bs]
theorem told_vars (qs : List (VarT × Ask)) : (qs.map partQ).map VarP.t = qs.map toldQ := by
  rw [List.map_map]
  rfl
end Go.Proofs.YtangjgclpipjdaaDoor
set_option linter.unusedVariables false
namespace Go.Proofs.YtangjgclpipjdaaDoor
open Go.RowKit Go.Proofs.YtangjgclpipjdaaDoorW.PrintWords Go.Proofs.YtangjgclpipjdaaDoorW.PrintLast Go.Proofs.YtangjgclpipjdaaDoorW.PrintMore
def GotValA (nm tx : ByteArray) (ty i u : Int) (wide : Nat) (w w' : World) (e : Ending) : Prop :=
  Below w.heap.size w w' ∧ ∃ arcs c i' u' tx' v1 v2, Asked nm tx ty i u arcs c i' u' tx' ∧ e = .returned (.tuple #[v1, v2, varV (strOfNums (sDot arcs)) ty i' u' (strOfNums tx'), .bool true]) ∧ NewB w w' v1 (sVar arcs ty c wide) ∧ NewB w w' v2 (sSealed ty c wide)
theorem Asked.one {nm tx : ByteArray} {ty i u : Int} {arcs c arcs' c' : List Int} {i1 u1 i2 u2 : Int} {t1 t2 : List Int} (h : Asked nm tx ty i u arcs c i1 u1 t1) (k : Asked nm tx ty i u arcs' c' i2 u2 t2) : arcs' = arcs ∧ c' = c := by
  have h1 := h.name
  rw [k.name] at h1
  have h2 := h.cont.of
  rw [k.cont.of] at h2
  exact ⟨(Prod.mk.inj h1).1, (Prod.mk.inj h2).1⟩
set_option maxRecDepth 100000 in
set_option maxHeartbeats 4000000 in
theorem specValue_ask {arcs0 c0 tx0 : List Int} {i0' u0' : Int} (nm tx : ByteArray) (ty i u : Int) (i0 : -9223372036854775808 ≤ i) (i1 : i ≤ 9223372036854775807) (u0 : 0 ≤ u) (u1 : u ≤ 18446744073709551615) (hn : nm.size ≤ 2147483647) (hz : tx.size ≤ 2147483647) (wide : Nat) (hw : wide ≤ 2) (ha0 : Asked nm tx ty i u arcs0 c0 i0' u0' tx0) (w : World) :
    Calls Tryd.prog 10 #[varV nm ty i u tx, .int .i64 wide] w fun e w' => GotValA nm tx ty i u wide w w' e := by
  have HA0 := Lib.hid ha0
  clear ha0
  go_enter Tryd.func10, Tryd.ntmps10
  go_wp2_with fail
  refine (specArcs_any nm hn _).mono ?_
  rintro e w1 ⟨v, rfl, ho, hb⟩
  obtain ⟨A, cc, rfl, hcc, hC⟩ := Kd.R_reads ho
  have B1 := (VBase.start w nm ty i u tx).step hb
  have HB1 := Lib.hid (And.intro B1 hC)
  obtain ⟨p0, p1, p2, p3, p4, -, -, -, -, -⟩ := var_cells B1.1
  clear ho hb hC B1
  go_wp2_with fail
  refine (specContent_any nm tx ty i u i0 i1 u0 u1 hz _).mono ?_
  rintro e w2 ⟨v2, rfl, ho2, hb2⟩
  obtain ⟨A2, cc2, rfl, hcc2, hC2⟩ := ho2.reads
  have B2 := HB1.out.1.step hb2
  have HC := Lib.hid (And.intro B2 (And.intro (Kd.C_below HB1.out.2 hb2) (And.intro hC2 hb2)))
  clear p0 p1 p2 p3 p4 HB1 ho2 hb2 hC2
  obtain ⟨p0, p1, p2, p3, p4, -, -, -, -, -⟩ := var_cells B2.1
  obtain ⟨r0, r1, r2, r3, r4, rf0, rf1, rf2, rf3, rf4⟩ := var_cells B2.2.1
  clear B2
  cases h1 : (sArcs (bs nm)).2 with
  | false =>
    exact absurd (congrArg Prod.snd HA0.out.name) (by rw [h1]; simp)
  | true =>
  cases h2 : (sCont ty i u (bs tx)).2 with
  | false =>
    exact absurd (congrArg Prod.snd HA0.out.cont.of) (by rw [h2]; simp)
  | true =>
  by_cases h500 : (500 : Int) < tx.size
  · have := HA0.out.tsize
    omega
  by_cases h1000 : (1000 : Int) < nm.size
  · have := HA0.out.nsize
    omega
  have hA : sArcs (bs nm) = ((sArcs (bs nm)).1, true) := by rw [← h1]
  obtain ⟨i', u', tx', hc⟩ := sCont_ok ty i u (bs tx) (sCont ty i u (bs tx)).1 (by rw [← h2])
  have hask : Asked nm tx ty i u (sArcs (bs nm)).1 (sCont ty i u (bs tx)).1 i' u' tx' := ⟨hA, hc, by omega, by omega⟩
  generalize (sArcs (bs nm)).1 = arcs at *
  generalize (sCont ty i u (bs tx)).1 = c at *
  have hbd := sArcs_bounds _ _ hA
  have hao := (sArcs_text _ _ hA).1
  have hl2 := hao.1
  have hl60 := hao.2.1
  have hcl : c.length ≤ 500 := hc.len
  have HA := Lib.hid (And.intro hask hbd)
  clear hA hc hask hbd hao h1 h2
  go_wp2_with fail
  refine (specSealed_any ty A2 cc2 c wide (by omega) hcc2 (by omega) w2 HC.out.2.2.1).mono ?_
  rintro e w3 ⟨v3, rfl, ho3, hb3⟩
  have B3 := HC.out.1.step hb3
  obtain ⟨p0, p1, p2, p3, p4, -, -, -, -, -⟩ := var_cells B3.1
  obtain ⟨r0, r1, r2, r3, r4, rf0, rf1, rf2, rf3, rf4⟩ := var_cells B3.2.1
  obtain ⟨A3, cc3, rfl, hcc3, hC3⟩ := Kd.R_reads ho3
  have H3 := Lib.hid (And.intro B3 (And.intro ho3 (And.intro (Kd.C_below HC.out.2.1 hb3) hC3)))
  clear ho3 hb3 B3 hC3
  go_wp2_with fail
  have hs3 := H3.out.1.size
  have hv3 : ReadB w3 (fun k => w.heap.size + 2 ≤ k ∧ k < w3.heap.size) (.slice A3 (sSealed ty c wide).length cc3) (sSealed ty c wide) := H3.out.2.1.read.mono (fun k hk => ⟨by have := HC.out.1.size; omega, hk.2⟩)
  have HV3 := Lib.hid hv3
  have n60 := sName_len arcs
  have hsl := sLen_len c.length wide
  have hnl : (sName arcs).length ≤ 300 := by omega
  have hsl2 : (sSealed ty c wide).length ≤ 600 := by simp [sSealed]; omega
  have hnl2 : (sSealed 6 (sName arcs) wide).length ≤ 400 := by have := sLen_len (sName arcs).length wide; simp [sSealed]; omega
  clear hv3 hsl n60
  have BD : VBase w nm ty i u tx w3.drew := H3.out.1.step (below_drew (Below.refl _ _))
  go_region_held3 (fun w' => w'.cell? ⟨w.heap.size, 0, none⟩ = some (.string nm) ∧ w'.cell? ⟨w.heap.size, 1, none⟩ = some (.int .i64 ty) ∧ w'.cell? ⟨w.heap.size, 2, none⟩ = some (.int .i64 i) ∧ w'.cell? ⟨w.heap.size, 3, none⟩ = some (.int .u64 u) ∧ w'.cell? ⟨w.heap.size, 4, none⟩ = some (.string tx))
    (first | with_reducible exact BD.five | with_reducible exact B4.five | with_reducible exact B5.five | with_reducible exact B6.five | with_reducible exact B7.five | with_reducible exact B8.five | with_reducible exact B8.fiveSet _ _ _ _ _)
    (first
      | ((go_at_call 24; (with_reducible refine (specName_any arcs hl2 hl60 HA.out.2 A cc hcc w3.drew (Kd.C_drew H3.out.2.2.1)).mono ?_); rintro e w4 ⟨v4, rfl, ho4, hb4⟩; have B4 := BD.step hb4; obtain ⟨A4, cc4, rfl, hcc4, hC4⟩ := Kd.R_reads ho4))
      | ((go_at_call 23; (with_reducible refine (specSealed_any 6 A4 cc4 (sName arcs) wide (by omega) hcc4 (by omega) w4 hC4).mono ?_); rintro e w5 ⟨v5, rfl, ho5, hb5⟩; have B5 := B4.step hb5))
      | (refine app_bytes_step (by rfl) (.tmp 51) (.tmp 52) 26 rfl Tryd.underlying26 infoB w4.heap.size v5 (sSealed 6 (sName arcs) wide) (sSealed ty c wide) A3 (sSealed ty c wide).length cc3 (by rfl) (by rfl) ho5 (Kd.C_below (Kd.C_below (Kd.C_drew H3.out.2.2.2) hb4) hb5) hb5.size (by omega) ?_; intro v6 w6 ho6 hg6 hat6; have B6 := B5.grown hg6 (fun k hk => by have := OwnB.block ho5 k hk; have := B4.size; omega); obtain ⟨bb, HBB, hbl, ho6'⟩ : ∃ bb, Hid (bb = sSealed 6 (sName arcs) wide ++ sSealed ty c wide) ∧ bb.length ≤ 1000 ∧ OwnB w6 w4.heap.size v6 bb := ⟨_, Lib.hid rfl, by simp; omega, ho6⟩; obtain ⟨A6, cc6, rfl, hcc6, hC6⟩ := Kd.R_reads ho6')
      | ((go_at_call 23; (with_reducible refine (specSealed_any 48 A6 cc6 bb wide (by omega) hcc6 (by omega) w6 hC6).mono ?_); rintro e w7 ⟨v7, rfl, ho7, hb7⟩; have B7 := B6.step hb7))
      | ((go_at_call 25; (with_reducible refine (specPlain_any nm tx ty i u arcs c i' u' tx' hn hz HA.out.1.name HA.out.1.cont w7).mono ?_); rintro e w8 ⟨rfl, hb8⟩; have B8 := B7.step hb8; obtain ⟨r0, r1, r2, r3, r4, rf0, rf1, rf2, rf3, rf4⟩ := var_cells B8.2.1)))
  have hx : w.heap.size ≤ w3.heap.size := by omega
  have hh4 : w3.heap.size ≤ w4.heap.size := hb4.size
  have hh5 := hb5.size
  have hh6 := B6.size
  have N7 : NewB w (setVar w8 (w.heap.size + 1) (strOfNums (sDot arcs)) ty i' u' (strOfNums tx')) v7 (sVar arcs ty c wide) := by
    have h7 := (ho7.read.mono (ok' := fun k => w.heap.size + 2 ≤ k) (fun k hk => by have := hk.1; omega)).below hb8
    have h8 := (h7.setVar (w.heap.size + 1) (by omega) (strOfNums (sDot arcs)) ty i' u' (strOfNums tx')).mono (ok' := fun k => w.heap.size ≤ k) (fun k hk => by omega)
    unfold sVar
    rw [← HBB.out]
    exact h8
  have N3 : NewB w (setVar w8 (w.heap.size + 1) (strOfNums (sDot arcs)) ty i' u' (strOfNums tx')) (.slice A3 (sSealed ty c wide).length cc3) (sSealed ty c wide) := by
    have h4 : ReadB w4 _ _ _ := ReadB.below (w := w3.drew) HV3.out hb4
    have h6 := (h4.below hb5).grown hg6 (fun k hk e => by have := OwnB.block ho5 k e.symm; have := hk.2; omega)
    have h8 := (h6.below hb7).below hb8
    exact (h8.setVar (w.heap.size + 1) (by rintro ⟨h, -⟩; omega) _ _ _ _ _).mono (fun k hk => by have := hk.1; omega)
  have hend : GotValA nm tx ty i u wide w (setVar w8 (w.heap.size + 1) (strOfNums (sDot arcs)) ty i' u' (strOfNums tx')) (.returned (.tuple #[v7, .slice A3 (sSealed ty c wide).length cc3, varV (strOfNums (sDot arcs)) ty i' u' (strOfNums tx'), .bool true])) :=
    ⟨setVar_below B8.2.2 (by omega) _ _ _ _ _, arcs, c, i', u', tx', _, _, HA.out.1, rfl, N7, N3⟩
  have hr8 := B8.2.1
  clear N7 N3 HV3 HA H3 HC BD B4 B5 B6 B7 B8 ho4 ho5 ho6 ho6' ho7 hb4 hb5 hb7 hb8 hg6 hat6 hC4 hC6 r0 r1 r2 r3 r4 rf0 rf1 rf2 rf3 rf4 p0 p1 p2 p3 p4
  go_wp2
  exact val_ret (x := 4) (y := 5) (p := 6) (z := 7) rfl rfl rfl hr8 hend
end Go.Proofs.YtangjgclpipjdaaDoor
