/- The lemmas and walks that FnDecode and FnCut and FnRead rests on, part 15: OfVar OfVar2 SMsg SW. -/
import Derived.Test.YtangjgclpipjdaaDoorQM6
import Derived.Test.YtangjgclpipjdaaDoorQM8
import Derived.Test.YtangjgclpipjdaaDoorQM10
import Derived.Test.YtangjgclpipjdaaDoorQM11
import Derived.Test.YtangjgclpipjdaaDoorQM14
set_option linter.unusedVariables false
namespace Go.Proofs.YtangjgclpipjdaaDoor
open Go.RowKit Go.Proofs.YtangjgclpipjdaaDoorW.PrintWords Go.Proofs.YtangjgclpipjdaaDoorW.PrintLast Go.Proofs.YtangjgclpipjdaaDoorW.PrintMore
/-- What Open gives, in one form. -/
def Opened (A : Option Addr) (xs : List Int) (e : Ending) : Prop := ∃ t x y A1 c1 A2 c2 ok, e = .returned (.tuple #[.int .i64 t, .slice A1 x.length c1, .slice A2 y.length c2, .bool ok]) ∧
  Cut A xs A1 c1 x ∧ Cut A xs A2 c2 y ∧ IsB x ∧ IsB y ∧ 0 ≤ t ∧ t ≤ 255 ∧ x.length + y.length ≤ xs.length ∧ sOpen xs = if ok = true then some (t, x, y) else none
theorem Cut.nil (A : Option Addr) (xs : List Int) : Cut A xs none 0 [] := ⟨Nat.le_refl _, fun W _ => Kd.C_nil _ W⟩
theorem isB_nil : IsB [] := fun x hx => by simp at hx
theorem opened_any (A : Option Addr) (c : Nat) (xs : List Int) (w : World) (hr : Kd.C (Kd.int .u8) w A xs.length xs) (hc : xs.length ≤ c) (hb : IsB xs) :
    Calls Tryd.prog 31 #[.slice A xs.length c] w fun e w' => Below w.heap.size w w' ∧ Opened A xs e := by
  refine (open_any A c xs w hr hc hb).mono ?_
  rintro e w' ⟨hbl, ⟨hn, rfl⟩ | ⟨t, x, y, A1, c1, A2, c2, ho, rfl, k1, k2⟩⟩
  · exact ⟨hbl, 0, [], [], none, 0, none, 0, false, rfl, Cut.nil _ _, Cut.nil _ _, isB_nil, isB_nil, by omega, by omega, by simp, hn⟩
  · obtain ⟨b1, b2, b3, b4⟩ := sOpen_isB hb ho
    have := sOpen_len hb ho
    exact ⟨hbl, t, x, y, A1, c1, A2, c2, true, rfl, k1, k2, b1, b2, b3, b4, by omega, ho⟩
/-- What next gives. -/
def Nexted (A : Option Addr) (xs : List Int) (tag : Int) (e : Ending) : Prop := ∃ x y A1 c1 A2 c2 ok, e = .returned (.tuple #[.slice A1 x.length c1, .slice A2 y.length c2, .bool ok]) ∧
  Cut A xs A1 c1 x ∧ Cut A xs A2 c2 y ∧ IsB x ∧ IsB y ∧ x.length + y.length ≤ xs.length ∧ sNext xs tag = if ok = true then some (x, y) else none
set_option maxRecDepth 100000 in
set_option maxHeartbeats 4000000 in
theorem next_any (A : Option Addr) (c : Nat) (xs : List Int) (tag : Int) (w : World) (hr : Kd.C (Kd.int .u8) w A xs.length xs) (hc : xs.length ≤ c) (hb : IsB xs) :
    Calls Tryd.prog 29 #[.slice A xs.length c, .int .i64 tag] w fun e w' => Below w.heap.size w w' ∧ Nexted A xs tag e := by
  have HR := Lib.hid (And.intro hr hb)
  clear hr hb
  go_enter Tryd.func29, Tryd.ntmps29
  go_wp2_with fail
  refine (opened_any A c xs w HR.out.1 hc HR.out.2).mono ?_
  rintro e w1 ⟨hbl, t, x, y, A1, c1, A2, c2, ok, rfl, k1, k2, b1, b2, t0, t1, hl, ho⟩
  have HO := Lib.hid (And.intro hbl (And.intro k1 (And.intro k2 (And.intro b1 (And.intro b2 (And.intro hl ho))))))
  clear hbl k1 k2 b1 b2 hl ho
  cases ok with
  | false =>
    go_wp2
    go_ret3
    refine ⟨HO.out.1, x, y, A1, c1, A2, c2, false, rfl, HO.out.2.1, HO.out.2.2.1, HO.out.2.2.2.1, HO.out.2.2.2.2.1, HO.out.2.2.2.2.2.1, ?_⟩
    unfold sNext
    rw [HO.out.2.2.2.2.2.2]
    rfl
  | true =>
    go_wp2
    go_ret3
    refine ⟨HO.out.1, x, y, A1, c1, A2, c2, (t == tag), rfl, HO.out.2.1, HO.out.2.2.1, HO.out.2.2.2.1, HO.out.2.2.2.2.1, HO.out.2.2.2.2.2.1, ?_⟩
    unfold sNext
    rw [HO.out.2.2.2.2.2.2]
    simp
end Go.Proofs.YtangjgclpipjdaaDoor
set_option linter.unusedVariables false
namespace Go.Proofs.YtangjgclpipjdaaDoor
open Go.RowKit Go.Proofs.YtangjgclpipjdaaDoorW.PrintWords Go.Proofs.YtangjgclpipjdaaDoorW.PrintLast Go.Proofs.YtangjgclpipjdaaDoorW.PrintMore
def GotOV (A : Option Addr) (xs : List Int) (w w' : World) (e : Ending) : Prop := Below w.heap.size w w' ∧
  ((sOfVar xs = none ∧ ∃ nm ty i u tx v2, e = .returned (.tuple #[varV nm ty i u tx, v2, .bool false])) ∨
   ∃ arcs ty i u tx rest A2 c2, sOfVar xs = some ((arcs, ty, i, u, tx), rest) ∧ e = .returned (.tuple #[varV (strOfNums (sDot arcs)) ty i u (strOfNums tx), .slice A2 rest.length c2, .bool true]) ∧ Cut A xs A2 c2 rest)
theorem Cut.trans {A A1 A2 : Option Addr} {c1 c2 : Nat} {xs x y : List Int} (h : Cut A xs A1 c1 x) (k : Cut A1 x A2 c2 y) : Cut A xs A2 c2 y := ⟨k.1, fun W hW => k.2 W (h.2 W hW)⟩
theorem specOfInt_any (A : Option Addr) (c : Nat) (xs : List Int) (w : World) (hC : Kd.C (Kd.int .u8) w A xs.length xs) (hc : xs.length ≤ c) (hb : IsB xs) :
    Calls Tryd.prog 33 #[.slice A xs.length c] w fun e w' => Below w.heap.size w w' ∧ ∃ n ok, e = .returned (.tuple #[.int .i64 n, .bool ok]) ∧ (if 1 ≤ xs.length ∧ xs.length ≤ 8 then n = sVal xs ∧ ok = true else n = 0 ∧ ok = false) := by
  by_cases h : 1 ≤ xs.length ∧ xs.length ≤ 8
  · refine (PFnValue.spec_OfInt.calls 12 A c xs _ true w hC hc (ofInt_eq xs hb h.1 h.2)).mono ?_
    rintro e w' ⟨rfl, hb'⟩
    exact ⟨hb'.below, _, _, rfl, by rw [if_pos h]; exact ⟨rfl, rfl⟩⟩
  · refine (PFnValue.spec_OfInt.calls 12 A c xs 0 false w hC hc (ofInt_no xs h)).mono ?_
    rintro e w' ⟨rfl, hb'⟩
    exact ⟨hb'.below, _, _, rfl, by rw [if_neg h]; exact ⟨rfl, rfl⟩⟩
theorem specOfUint_any (A : Option Addr) (c : Nat) (xs : List Int) (w : World) (hC : Kd.C (Kd.int .u8) w A xs.length xs) (hc : xs.length ≤ c) (hb : IsB xs) :
    Calls Tryd.prog 35 #[.slice A xs.length c] w fun e w' => Below w.heap.size w w' ∧ ∃ n ok, e = .returned (.tuple #[.int .u64 n, .bool ok]) ∧ (if 1 ≤ (uPart xs).length ∧ (uPart xs).length ≤ 8 then n = beVal (uPart xs) 0 ∧ ok = true else n = 0 ∧ ok = false) := by
  by_cases h : 1 ≤ (uPart xs).length ∧ (uPart xs).length ≤ 8
  · refine (PFnValue.spec_OfUint.calls 14 (fun k => k < w.heap.size) A c xs _ true w (readB_of hc hC) (ofUint_eq xs hb h.1 h.2)).mono ?_
    rintro e w' ⟨rfl, hb'⟩
    exact ⟨hb', _, _, rfl, by rw [if_pos h]; exact ⟨rfl, rfl⟩⟩
  · refine (PFnValue.spec_OfUint.calls 14 (fun k => k < w.heap.size) A c xs 0 false w (readB_of hc hC) (ofUint_no xs h)).mono ?_
    rintro e w' ⟨rfl, hb'⟩
    exact ⟨hb', _, _, rfl, by rw [if_neg h]; exact ⟨rfl, rfl⟩⟩
theorem ofGo_bnd (l : List Int) (hb : IsB l) : ∀ (out : List Int) (n : Int) (op : Bool) (r : List Int) (o : Bool), ofGo l out n op = some (r, o) → 0 ≤ n → (∀ x ∈ out, 0 ≤ x ∧ x ≤ 4294967295) → (∀ x ∈ r, 0 ≤ x ∧ x ≤ 4294967295) ∧ r.length ≤ out.length + l.length := by
  induction l with
  | nil =>
    intro out n op r o h h0 ho
    simp only [ofGo, Option.some.injEq, Prod.mk.injEq] at h
    obtain ⟨rfl, -⟩ := h
    exact ⟨ho, by simp⟩
  | cons x l ih =>
    intro out n op r o h h0 ho
    have hx := hb x (by simp)
    have hbl : IsB l := fun y hy => hb y (by simp [hy])
    simp only [ofGo] at h
    split at h
    · simp at h
    · rename_i hc
      simp only [not_or] at hc
      split at h
      · obtain ⟨a, b⟩ := ih hbl _ _ _ _ _ h (by omega) (by
          intro y hy
          rcases List.mem_append.1 hy with hy | hy
          · exact ho y hy
          · simp at hy; subst hy; omega)
        refine ⟨a, ?_⟩
        simp at b ⊢
        omega
      · obtain ⟨a, b⟩ := ih hbl _ _ _ _ _ h (by omega) ho
        refine ⟨a, ?_⟩
        simp
        omega
theorem sOf_bnd (b : List Int) (hb : IsB b) : (∀ x ∈ (sOf b).1, 0 ≤ x ∧ x ≤ 4294967295) ∧ (sOf b).1.length ≤ 1000 := by
  unfold sOf
  split
  · simp
  · rename_i hc
    simp only [not_or] at hc
    have h0 := hb.rd 0
    split
    · simp
    · rename_i out op e
      obtain ⟨a, c⟩ := ofGo_bnd _ (isB_drop hb 1) _ _ _ _ _ e (Int.le_refl 0) (by
        intro y hy
        simp at hy
        omega)
      refine ⟨a, ?_⟩
      simp at c ⊢
      omega
theorem dots_snoc (l : List Int) (x : Int) : dots (l ++ [x]) = if l = [] then dec x.toNat else dots l ++ (46 :: dec x.toNat) := by
  induction l with
  | nil => rfl
  | cons a l ih =>
    cases l with
    | nil => rfl
    | cons b l =>
      have e : dots (a :: b :: (l ++ [x])) = dec a.toNat ++ 46 :: dots (b :: (l ++ [x])) := rfl
      have e2 : dots (a :: b :: l) = dec a.toNat ++ 46 :: dots (b :: l) := rfl
      simp only [List.cons_append] at ih ⊢
      rw [e, ih, e2]
      simp
theorem dots_len (l : List Int) (h : ∀ x ∈ l, 0 ≤ x ∧ x ≤ 255) : (dots l).length ≤ 21 * l.length := by
  induction l with
  | nil => simp [dots]
  | cons a l ih =>
    have ha := h a (by simp)
    have hd := dec_len a ha.1 (by omega)
    cases l with
    | nil => simp [dots]; omega
    | cons b l =>
      have := ih (fun x hx => h x (by simp [hx]))
      have e2 : dots (a :: b :: l) = dec a.toNat ++ 46 :: dots (b :: l) := rfl
      rw [e2]
      simp at this ⊢
      omega
theorem ov_some {A A2 : Option Addr} {xs arcs x y tx : List Int} {t i u : Int} {c2 : Nat} {dt : ByteArray} {w w' : World} (h : strOfNums (sDot arcs) = dt ∧ sOfVar xs = tellVar arcs t y (sTold t x)) (hT : sTold t x = some (i, u, tx)) (k : Cut A xs A2 c2 y) (b : Below w.heap.size w w') :
    GotOV A xs w w' (.returned (.tuple #[varV dt t i u (strOfNums tx), .slice A2 y.length c2, .bool true])) := by
  obtain ⟨rfl, h⟩ := h
  exact ⟨b, .inr ⟨arcs, t, i, u, tx, y, A2, c2, by rw [h, hT]; rfl, rfl, k⟩⟩
theorem ov_none {A : Option Addr} {xs arcs x y : List Int} {t : Int} {dt : ByteArray} {w w' : World} {nm tx : ByteArray} {ty i u : Int} {v2 : Value} (h : strOfNums (sDot arcs) = dt ∧ sOfVar xs = tellVar arcs t y (sTold t x)) (hT : sTold t x = none) (b : Below w.heap.size w w') :
    GotOV A xs w w' (.returned (.tuple #[varV nm ty i u tx, v2, .bool false])) := ⟨b, .inl ⟨by rw [h.2, hT]; rfl, nm, ty, i, u, tx, v2, rfl⟩⟩
theorem results_ctt {P : Program} {fn : Func} {p u v : Tmp} {ty : TypeId} (h : fn.results = #[.cell p ty, .tmp u, .tmp v]) (tmps : Array Value) (w : World) (g : Nat) (t : TypeId) (cs : Array Value) (fr : Nat × Nat) (d : TypeDesc)
    (hp : tmps.getD p undef = .pointer (some ⟨g, 0, none⟩)) (hg : w.heap[g]? = some (.cells cs t fr))
    (hu : P.underlying ty = some d) (hd : (match d with | .struct _ | .array _ _ => true | _ => false) = true) (hi : (P.info? ty).map (·.size) = some cs.size) :
    (results fn tmps).run P w = .ok (.tuple #[.agg cs, tmps.getD u undef, tmps.getD v undef]) w := by
  have hp' : tmps[p]?.getD undef = .pointer (some ⟨g, 0, none⟩) := by simpa using hp
  simp [results, h, hp', asAddr, run_loadVar_row w g t ty cs fr d hg hu hd hi]
theorem ov_ret {fn : Func} {p y z : Tmp} (h : fn.results = #[.cell p 24, .tmp y, .tmp z]) {R : Ending → World → Prop} {a : Act} {W : World} {g : Nat} {nm tx nm' tx' : ByteArray} {ty i u ty' i' u' : Int} (hp : a.tmps.getD p undef = .pointer (some ⟨g, 0, none⟩)) (hd : a.defers = [])
    (hr : W.heap[g]? = some (varO nm' ty' i' u' tx')) (hR : R (.returned (.tuple #[varV nm ty i u tx, a.tmps.getD y undef, a.tmps.getD z undef])) (setVar W g nm ty i u tx)) :
    bodyPost Tryd.prog fn R .ret a (setVar W g nm ty i u tx) :=
  bodyPost_ret (results_ctt h _ _ g 24 #[.string nm, .int .i64 ty, .int .i64 i, .int .u64 u, .string tx] (0, 0) _ hp (setVar_new hr _ _ _ _ _) Tryd.underlying24 rfl infoVar) hd hR
theorem ov_ret2 {fn : Func} {p y z : Tmp} (h : fn.results = #[.cell p 24, .tmp y, .tmp z]) {R : Ending → World → Prop} {a : Act} {W : World} {g : Nat} {nm tx nm' tx' : ByteArray} {ty i u ty' i' u' : Int} {o : Obj} (hp : a.tmps.getD p undef = .pointer (some ⟨g, 0, none⟩)) (hd : a.defers = [])
    (hr : W.heap[g]? = some (varO nm' ty' i' u' tx')) (hR : R (.returned (.tuple #[varV nm ty i u tx, a.tmps.getD y undef, a.tmps.getD z undef])) ((setVar W g nm ty i u tx).alloc o)) :
    bodyPost Tryd.prog fn R .ret a ((setVar W g nm ty i u tx).alloc o) :=
  bodyPost_ret (results_ctt h _ _ g 24 #[.string nm, .int .i64 ty, .int .i64 i, .int .u64 u, .string tx] (0, 0) _ hp (blk_alloc (setVar_new hr _ _ _ _ _) o) Tryd.underlying24 rfl infoVar) hd hR
set_option maxRecDepth 100000 in
set_option maxHeartbeats 4000000 in
theorem ofVar_any (A : Option Addr) (c : Nat) (xs : List Int) (w : World) (hr : Kd.C (Kd.int .u8) w A xs.length xs) (hc : xs.length ≤ c) (hb : IsB xs) (hl : xs.length ≤ 2147483647) :
    Calls Tryd.prog 12 #[.slice A xs.length c] w fun e w' => GotOV A xs w w' e := by
  have mixed : Tryd.prog.follows Departure.mixedOrders = true := by kernel_rfl
  have HR := Lib.hid (And.intro hr hb)
  clear hr hb
  go_enter Tryd.func12, Tryd.ntmps12
  go_wp2_with fail
  have b0 := (Below.refl w.heap.size w).alloc (Nat.le_refl _) (varO ⟨#[]⟩ 0 0 0 ⟨#[]⟩)
  refine (next_any A c xs 48 _ (Kd.C_below HR.out.1 b0) hc HR.out.2).mono ?_
  rintro e w1 ⟨hb1, x1, y1, A1, c1, A2, c2, ok1, rfl, k1, k2, i1, i2, l1, ho1⟩
  have b1 := below_step b0 hb1
  have hblk1 := blk_below (blk_new w (varO ⟨#[]⟩ 0 0 0 ⟨#[]⟩)) hb1
  have H1 := Lib.hid (And.intro b1 (And.intro hblk1 (And.intro k1 (And.intro k2 (And.intro i1 (And.intro i2 ho1))))))
  clear b0 hb1 b1 hblk1 k1 k2 i1 i2 ho1
  cases ok1 with
  | false =>
    have HN := Lib.hid (show sOfVar xs = none by unfold sOfVar; rw [H1.out.2.2.2.2.2.2]; rfl)
    obtain ⟨r0, r1, r2, r3, r4, rf0, rf1, rf2, rf3, rf4⟩ := var_cells H1.out.2.1
    go_wp2
    exact ov_ret rfl rfl rfl H1.out.2.1 ⟨setVar_below H1.out.1 (Nat.le_refl _) _ _ _ _ _, .inl ⟨HN.out, _, _, _, _, _, _, rfl⟩⟩
  | true =>
    go_wp2_with fail
    have hC1 := H1.out.2.2.1.2 w1 (Kd.C_below HR.out.1 H1.out.1)
    refine (next_any A1 c1 x1 6 w1 hC1 H1.out.2.2.1.1 H1.out.2.2.2.2.1).mono ?_
    rintro e w2 ⟨hb2, x2, y2, B1, d1, B2, d2, ok2, rfl, m1, m2, j1, j2, l2, ho2⟩
    have n1 := H1.out.2.2.1.trans m1
    have n2 := H1.out.2.2.1.trans m2
    have b2 := below_step H1.out.1 hb2
    have hblk2 := blk_below H1.out.2.1 hb2
    have H2 := Lib.hid (And.intro b2 (And.intro hblk2 (And.intro n1 (And.intro n2 (And.intro j1 (And.intro j2 (And.intro ho2 (And.intro H1.out.2.2.2.1 H1.out.2.2.2.2.2.2))))))))
    clear b2 hb2 hblk2 n1 n2 m1 m2 j1 j2 ho2 hC1 H1
    go_wp2_with fail
    refine (specOfName_any B1 d1 x2 H2.out.2.2.1.1 H2.out.2.2.2.2.1 w2 (H2.out.2.2.1.2 w2 (Kd.C_below HR.out.1 H2.out.1))).mono ?_
    rintro e w3 ⟨v3, rfl, ho3, hb3⟩
    obtain ⟨A3, c3, rfl, hc3, hC3⟩ := Kd.R_reads ho3
    have b3 := below_step H2.out.1 hb3
    have H3 := Lib.hid (And.intro b3 (And.intro (blk_below H2.out.2.1 hb3) (And.intro hC3 H2.out)))
    clear b3 hb3 hC3 ho3 H2
    go_wp2_with fail
    refine (opened_any B2 d2 y2 w3 (H3.out.2.2.2.2.2.2.1.2 w3 (Kd.C_below HR.out.1 H3.out.1)) H3.out.2.2.2.2.2.2.1.1 H3.out.2.2.2.2.2.2.2.2.1).mono ?_
    rintro e w4 ⟨hb4, t, x4, y4, E1, e1, E2, e2, ok4, rfl, q1, q2, s1, s2, t0, t1, l4, ho4⟩
    have b4 := below_step H3.out.1 hb4
    have hblk4 := blk_below H3.out.2.1 hb4
    have hq := H3.out.2.2.2.2.2.2.1.trans q1
    have he1 := q1.1
    have HT := Lib.hid (show sOfVar xs = if ok2 = true ∧ (sOf x2).2 = true ∧ ok4 = true ∧ y4.length = 0 then tellVar (sOf x2).1 t y1 (sTold t x4) else none from by
      unfold sOfVar
      rw [H3.out.2.2.2.2.2.2.2.2.2.2.2]
      simp only [if_true]
      rw [H3.out.2.2.2.2.2.2.2.2.2.1]
      cases ok2 with
      | false => simp
      | true =>
        simp only [if_true]
        rw [ho4]
        cases ok4 with
        | false => simp
        | true => simp)
    have H4 := Lib.hid (And.intro b4 (And.intro hblk4 (And.intro (Kd.C_below H3.out.2.2.1 hb4) (And.intro (hq.2 w4 (Kd.C_below HR.out.1 b4)) (And.intro s1 H3.out.2.2.2.2.2.2.2.2.2.2.1)))))
    have HCC := Lib.hid (fun W (hW : Below w.heap.size w W) => hq.2 W (Kd.C_below HR.out.1 hW))
    have HB2 := Lib.hid H3.out.2.2.2.2.2.1
    have HJ := Lib.hid H3.out.2.2.2.2.2.2.2.1
    clear b4 hb4 hblk4 hq q1 q2 s1 s2 ho4 H3
    cases ok2 with
    | false =>
      have HN := Lib.hid (show sOfVar xs = none by rw [HT.out]; simp)
      obtain ⟨r0, r1, r2, r3, r4, rf0, rf1, rf2, rf3, rf4⟩ := var_cells H4.out.2.1
      go_wp2
      exact ov_ret rfl rfl rfl H4.out.2.1 ⟨setVar_below H4.out.1 (Nat.le_refl _) _ _ _ _ _, .inl ⟨HN.out, _, _, _, _, _, _, rfl⟩⟩
    | true =>
    cases h3 : (sOf x2).2 with
    | false =>
      have HN := Lib.hid (show sOfVar xs = none by rw [HT.out]; simp [h3])
      obtain ⟨r0, r1, r2, r3, r4, rf0, rf1, rf2, rf3, rf4⟩ := var_cells H4.out.2.1
      go_wp2
      exact ov_ret rfl rfl rfl H4.out.2.1 ⟨setVar_below H4.out.1 (Nat.le_refl _) _ _ _ _ _, .inl ⟨HN.out, _, _, _, _, _, _, rfl⟩⟩
    | true =>
    cases ok4 with
    | false =>
      have HN := Lib.hid (show sOfVar xs = none by rw [HT.out]; simp)
      obtain ⟨r0, r1, r2, r3, r4, rf0, rf1, rf2, rf3, rf4⟩ := var_cells H4.out.2.1
      go_wp2
      exact ov_ret rfl rfl rfl H4.out.2.1 ⟨setVar_below H4.out.1 (Nat.le_refl _) _ _ _ _ _, .inl ⟨HN.out, _, _, _, _, _, _, rfl⟩⟩
    | true =>
    by_cases hy4 : y4.length = 0
    case neg =>
      have hyp : 0 < (y4.length : Int) := by omega
      have HN := Lib.hid (show sOfVar xs = none by rw [HT.out, if_neg (by rintro ⟨-, -, -, h⟩; exact hy4 h)])
      obtain ⟨r0, r1, r2, r3, r4, rf0, rf1, rf2, rf3, rf4⟩ := var_cells H4.out.2.1
      go_wp2
      exact ov_ret rfl rfl rfl H4.out.2.1 ⟨setVar_below H4.out.1 (Nat.le_refl _) _ _ _ _ _, .inl ⟨HN.out, _, _, _, _, _, _, rfl⟩⟩
    case pos =>
      rw [hy4]
      have HT2 := Lib.hid (show sOfVar xs = tellVar (sOf x2).1 t y1 (sTold t x4) by rw [HT.out, if_pos ⟨rfl, h3, rfl, hy4⟩])
      obtain ⟨xa, ya, ra, hae, -, hx0, hx2, hyb, hyb2, hbnd, hal⟩ := sOf_text x2 HJ.out (sOf x2).1 (by rw [← h3])
      have hbd : ∀ x ∈ (sOf x2).1, 0 ≤ x ∧ x ≤ 4294967295 := by
        rw [hae]
        intro x hx
        rcases List.mem_cons.1 hx with rfl | hx
        · omega
        rcases List.mem_cons.1 hx with rfl | hx
        · omega
        · exact hbnd x hx
      clear hae hbnd hx0 hx2 hyb hyb2 HT h3 HJ HB2
      generalize (sOf x2).1 = arcs at *
      have H4b := Lib.hid hbd
      clear hbd
      go_wp2_with fail
      refine (dotted_any arcs H4b.out (by omega) A3 c3 w4 H4.out.2.2.1).mono ?_
      rintro e w5 ⟨rfl, hb5⟩
      have b5 := below_step H4.out.1 hb5
      have hblk5 := blk_below H4.out.2.1 hb5
      generalize hdt : strOfNums (sDot arcs) = dt at *
      have hout := blk_new w5 (varO dt t 0 0 ⟨#[]⟩)
      have hblk6 := fun o => blk_alloc hblk5 o
      have b6 := fun o => b5.alloc b5.size o
      have hs5 := blk_lt hblk5
      have hC6 := Kd.C_alloc (Kd.C_below H4.out.2.2.2.1 hb5) (varO dt t 0 0 ⟨#[]⟩)
      have H6 := Lib.hid (And.intro b6 (And.intro hblk6 (And.intro hout (And.intro hC6 (And.intro H4.out.2.2.2.2.1 (And.intro H4.out.2.2.2.2.2 (And.intro hblk5 b5)))))))
      clear hb5 b5 hblk5 H4 hout hblk6 b6 hC6
      have HE := Lib.hid (And.intro hdt HT2.out)
      clear hdt HT2 H4b HR
      by_cases c2 : t = 2
      · subst c2
        go_wp2_with fail
        refine (specOfInt_any E1 e1 x4 _ H6.out.2.2.2.1 (by omega) H6.out.2.2.2.2.1).mono ?_
        rintro e w7 ⟨hb7, n, ok, rfl, hn⟩
        have hout7 := blk_below H6.out.2.2.1 hb7
        have hr7 := blk_below (H6.out.2.1 _) hb7
        obtain ⟨o0, o1, o2, o3, o4, of0, of1, of2, of3, of4⟩ := var_cells hout7
        obtain ⟨r0, r1, r2, r3, r4, rf0, rf1, rf2, rf3, rf4⟩ := var_cells hr7
        have H7 := Lib.hid (And.intro hr7 (And.intro (below_step (H6.out.1 _) hb7) hn))
        clear hout7 hr7 hb7 hn
        go_wp2
        have hr8 : (w7.setCell ⟨w5.heap.size, 2, none⟩ (.int .i64 n)).heap[w.heap.size]? = some (varO ⟨#[]⟩ 0 0 0 ⟨#[]⟩) := (Below.heap_setCell _ _ _ _ (by show w.heap.size ≠ w5.heap.size; omega)).trans H7.out.1
        have hb8 := setVar_below (below_set (j := 2) (v := .int .i64 n) H7.out.2.1 (Nat.le_of_lt hs5)) (Nat.le_refl _) dt 2 n 0 ⟨#[]⟩
        have hn := H7.out.2.2
        by_cases h : 1 ≤ x4.length ∧ x4.length ≤ 8
        · rw [if_pos h] at hn
          obtain ⟨rfl, rfl⟩ := hn
          (refine ov_ret rfl rfl rfl hr8 ?_; exact ov_some HE.out (by unfold sTold; rw [if_pos rfl, if_pos h]) H6.out.2.2.2.2.2.1 hb8)
        · rw [if_neg h] at hn
          obtain ⟨rfl, rfl⟩ := hn
          (refine ov_ret rfl rfl rfl hr8 ?_; exact ov_none HE.out (by unfold sTold; rw [if_pos rfl, if_neg h]) hb8)
      have H5 := H6.out.2.2.2.2.2.2
      obtain ⟨r0, r1, r2, r3, r4, rf0, rf1, rf2, rf3, rf4⟩ := var_cells H5.1
      have HV := Lib.hid H5
      have hsv : ∀ nm ty i u tx o, Below w.heap.size w ((setVar w5 w.heap.size nm ty i u tx).alloc o) := fun nm ty i u tx o => by
        have := setVar_below HV.out.2 (Nat.le_refl w.heap.size) nm ty i u tx
        exact this.alloc this.size o
      have HSV := Lib.hid hsv
      clear H5 hsv
      by_cases c4 : t = 4
      · subst c4
        have hcv := Kd.C_string (P := Tryd.prog) Tryd.underlying26 Tryd.underlying5 Tryd.underlying9 H6.out.2.2.2.1 (c := e1)
        go_wp2
        (refine ov_ret2 rfl rfl rfl HV.out.1 ?_; exact ov_some HE.out (by unfold sTold; rw [if_neg (by omega), if_pos rfl]) H6.out.2.2.2.2.2.1 (HSV.out _ _ _ _ _ _))
      by_cases c5 : t = 5 ∨ t = 128 ∨ t = 129 ∨ t = 130
      · have hT : sTold t x4 = if x4.length = 0 then some (0, 0, []) else none := by unfold sTold; rw [if_neg c2, if_neg c4, if_pos c5]
        rcases c5 with rfl | rfl | rfl | rfl
        all_goals
          by_cases h0 : x4.length = 0
          · rw [if_pos h0] at hT
            have HT := Lib.hid hT
            rw [h0]
            clear hT
            go_wp2
            (refine ov_ret2 rfl rfl rfl HV.out.1 ?_; exact ov_some HE.out HT.out H6.out.2.2.2.2.2.1 (HSV.out _ _ _ _ _ _))
          · have hd0 : ((x4.length : Int) == 0) = false := beq_eq_false_iff_ne.2 (by omega)
            rw [if_neg h0] at hT
            have HT := Lib.hid hT
            clear hT
            go_wp2
            (refine ov_ret2 rfl rfl rfl HV.out.1 ?_; exact ov_none HE.out HT.out (HSV.out _ _ _ _ _ _))
      by_cases c6 : t = 6
      · have hT : sTold t x4 = if (sOf x4).2 = true then some (0, 0, sDot (sOf x4).1) else none := by unfold sTold; rw [if_neg c2, if_neg c4, if_neg c5, if_pos c6]
        subst c6
        obtain ⟨hbx, hlx⟩ := sOf_bnd x4 H6.out.2.2.2.2.1
        have HX := Lib.hid (And.intro hbx hT)
        clear hbx hT
        go_wp2_with fail
        refine (specOfName_any E1 e1 x4 he1 H6.out.2.2.2.2.1 _ H6.out.2.2.2.1).mono ?_
        rintro e w7 ⟨v7, rfl, ho7, hb7⟩
        obtain ⟨A7, c7, rfl, hc7, hC7⟩ := Kd.R_reads ho7
        have H7 := Lib.hid (And.intro (blk_below (H6.out.2.1 _) hb7) (And.intro (below_step (H6.out.1 _) hb7) (blk_below H6.out.2.2.1 hb7)))
        clear ho7 hb7 r0 r1 r2 r3 r4 rf0 rf1 rf2 rf3 rf4
        cases hf : (sOf x4).2
        all_goals
          have HF := Lib.hid hf
          clear hf
          go_wp2_with fail
          refine (dotted_any (sOf x4).1 HX.out.1 hlx A7 c7 w7 hC7).mono ?_
          rintro e w8 ⟨rfl, hb8⟩
          have H8 := Lib.hid (And.intro (blk_below H7.out.1 hb8) (below_step H7.out.2.1 hb8))
          obtain ⟨o0, o1, o2, o3, o4, of0, of1, of2, of3, of4⟩ := var_cells (blk_below H7.out.2.2 hb8)
          obtain ⟨r0, r1, r2, r3, r4, rf0, rf1, rf2, rf3, rf4⟩ := var_cells H8.out.1
          clear hb8
          go_wp2
          have hr9 : (w8.setCell ⟨w5.heap.size, 4, none⟩ (.string (strOfNums (sDot (sOf x4).1)))).heap[w.heap.size]? = some (varO ⟨#[]⟩ 0 0 0 ⟨#[]⟩) := (Below.heap_setCell _ _ _ _ (by show w.heap.size ≠ w5.heap.size; omega)).trans H8.out.1
          have hb9 := setVar_below (below_set (j := 4) (v := .string (strOfNums (sDot (sOf x4).1))) H8.out.2 (Nat.le_of_lt hs5)) (Nat.le_refl _) dt 6 0 0 (strOfNums (sDot (sOf x4).1))
          refine ov_ret rfl rfl rfl hr9 ?_
          first
            | exact ov_some HE.out (HX.out.2.trans (if_pos HF.out)) H6.out.2.2.2.2.2.1 hb9
            | exact ov_none HE.out (HX.out.2.trans (if_neg (by rw [HF.out]; simp))) hb9
      by_cases c65 : t = 65 ∨ t = 66 ∨ t = 67 ∨ t = 70
      · have hT : sTold t x4 = if 1 ≤ (uPart x4).length ∧ (uPart x4).length ≤ 8 then some (0, beVal (uPart x4) 0, []) else none := by unfold sTold; rw [if_neg c2, if_neg c4, if_neg c5, if_neg c6, if_neg (by omega), if_pos c65]
        have HT := Lib.hid hT
        clear hT
        rcases c65 with rfl | rfl | rfl | rfl
        all_goals
          go_wp2_with fail
          refine (specOfUint_any E1 e1 x4 _ H6.out.2.2.2.1 he1 H6.out.2.2.2.2.1).mono ?_
          rintro e w7 ⟨hb7, n, ok, rfl, hn⟩
          have hout7 := blk_below H6.out.2.2.1 hb7
          have hr7 := blk_below (H6.out.2.1 _) hb7
          clear r0 r1 r2 r3 r4 rf0 rf1 rf2 rf3 rf4
          obtain ⟨o0, o1, o2, o3, o4, of0, of1, of2, of3, of4⟩ := var_cells hout7
          obtain ⟨r0, r1, r2, r3, r4, rf0, rf1, rf2, rf3, rf4⟩ := var_cells hr7
          have H7 := Lib.hid (And.intro hr7 (And.intro (below_step (H6.out.1 _) hb7) hn))
          clear hout7 hr7 hb7 hn
          go_wp2
          have hr8 : (w7.setCell ⟨w5.heap.size, 3, none⟩ (.int .u64 n)).heap[w.heap.size]? = some (varO ⟨#[]⟩ 0 0 0 ⟨#[]⟩) := (Below.heap_setCell _ _ _ _ (by show w.heap.size ≠ w5.heap.size; omega)).trans H7.out.1
          have hb8 := fun ty => setVar_below (below_set (j := 3) (v := .int .u64 n) H7.out.2.1 (Nat.le_of_lt hs5)) (Nat.le_refl _) dt ty 0 n ⟨#[]⟩
          have hn := H7.out.2.2
          by_cases h : 1 ≤ (uPart x4).length ∧ (uPart x4).length ≤ 8
          · rw [if_pos h] at hn
            obtain ⟨rfl, rfl⟩ := hn
            refine ov_ret rfl rfl rfl hr8 ?_
            exact ov_some HE.out (HT.out.trans (if_pos h)) H6.out.2.2.2.2.2.1 (hb8 _)
          · rw [if_neg h] at hn
            obtain ⟨rfl, rfl⟩ := hn
            refine ov_ret rfl rfl rfl hr8 ?_
            exact ov_none HE.out (HT.out.trans (if_neg h)) (hb8 _)
      by_cases c64 : t = 64
      · have hT : sTold t x4 = if x4.length = 4 then some (0, 0, dots x4) else none := by unfold sTold; rw [if_neg c2, if_neg c4, if_neg c5, if_neg c6, if_pos c64]
        have HT := Lib.hid hT
        subst c64
        clear hT
        go_wp2
        go_loopg [20, 21, 109] x4.length (fun k v20 v21 v109 wr => ∃ i : Nat, v109 = .int .i64 i ∧ Hid (i ≤ x4.length ∧ k = x4.length - i ∧ wr.heap[w5.heap.size]? = some (varO dt 64 0 0 (strOfNums (dots (x4.take i)))) ∧ wr.heap[w.heap.size]? = some (varO ⟨#[]⟩ 0 0 0 ⟨#[]⟩) ∧ Below w.heap.size w wr))
        case atStart => exact ⟨0, rfl, Lib.hid ⟨Nat.zero_le _, rfl, H6.out.2.2.1, H6.out.2.1 _, H6.out.1 _⟩⟩
        case round =>
          obtain ⟨i, rfl, HI⟩ := hrel
          obtain ⟨hi, hk, hout, hres, hbw⟩ := HI.out
          clear HI r0 r1 r2 r3 r4 rf0 rf1 rf2 rf3 rf4
          obtain ⟨r0, r1, r2, r3, r4, rf0, rf1, rf2, rf3, rf4⟩ := var_cells hres
          obtain ⟨o0, o1, o2, o3, o4, of0, of1, of2, of3, of4⟩ := var_cells hout
          have HW := Lib.hid (And.intro hout (And.intro hres (And.intro hbw hk)))
          clear hk hout hres
          by_cases hil : i < x4.length
          · have hx := H6.out.2.2.2.2.1 x4[i] (List.getElem_mem hil)
            obtain ⟨ad, rfl, gx⟩ := cell_at (HCC.out wr hbw) i hil
            have hrd : rd x4 i = x4[i] := by
              unfold Go.Proofs.YtangjgclpipjdaaDoorW.PrintWords.rd
              rw [Int.toNat_natCast, List.getD_eq_getElem?_getD, List.getElem?_eq_getElem hil]
              rfl
            rw [hrd] at gx
            have hst := dots_snoc (x4.take i) x4[i]
            rw [← List.take_succ_eq_append_getElem hil] at hst
            have hsl := dots_len (x4.take i) (fun y hy => H6.out.2.2.2.2.1 y (List.mem_of_mem_take hy))
            have hdl := dec_len x4[i] hx.1 (by omega)
            rw [List.length_take] at hsl
            have hsl2 : (dots (x4.take i)).length ≤ 46000000000 := by omega
            have hx0 := hx.1
            have hx1 := hx.2
            clear hrd hsl hx hbw
            generalize x4[i] = x at *
            by_cases i0 : i = 0
            · subst i0
              have hst0 : dots (x4.take (0 + 1)) = dec x.toNat := by rw [hst]; rfl
              have HST := Lib.hid hst0
              rw [Addr.add_zero'] at gx
              clear hst0 hst hsl2
              go_wp2_with fail
              have hout2 : wr.heap[w5.heap.size]? = some (varO dt 64 0 0 (strOfNums [])) := HW.out.1
              have hres2 := HW.out.2.1
              have hb2 := HW.out.2.2.1
              clear o0 o1 o2 o3 o4 of0 of1 of2 of3 of4
              obtain ⟨o0, o1, o2, o3, o4, of0, of1, of2, of3, of4⟩ := var_cells hout2
              have hgs := blk_lt hout2
              have hwx : IntKind.u64.wrap x = x := wraps_u64 _ hx0 (by omega)
              have p2 := str_app ([] : List Int) (dec x.toNat)
              have q2 : (strOfNums ([])).size + (strOfNums (dec x.toNat)).size ≤ 9223372036854775807 := by simp [strOfNums, ByteArray.size]; omega
              have HW2 := Lib.hid (And.intro hout2 (And.intro hres2 hb2))
              clear hres2 hb2
              go_region_with_o (go_at_call 34; refine (figures_any x hx0 (by omega) _).mono ?_; rintro e w8 ⟨rfl, hb8⟩; have hout8 : w8.heap[w5.heap.size]? = some (varO dt 64 0 0 (strOfNums ([]))) := blk_below (w := wr.drew) hout2 hb8; have z4 : w8.cell? ⟨w5.heap.size, 4, none⟩ = some (.string (strOfNums ([]))) := (var_cells hout8).2.2.2.2.1; have zf4 : w8.frozen? ⟨w5.heap.size, 4, none⟩ = false := blk_frozen hout8 4)
              all_goals
                have H8 := Lib.hid (And.intro (show (w8.setCell ⟨w5.heap.size, 4, none⟩ (.string (strOfNums ([] ++ dec x.toNat)))).heap[w5.heap.size]? = some (varO dt 64 0 0 (strOfNums ([] ++ dec x.toNat))) from by
                  rw [Lib.heap_setCell_same (i := 4) hout8 _]; rfl) (And.intro (show (w8.setCell ⟨w5.heap.size, 4, none⟩ (.string (strOfNums ([] ++ dec x.toNat)))).heap[w.heap.size]? = some (varO ⟨#[]⟩ 0 0 0 ⟨#[]⟩) from (Below.heap_setCell _ _ _ _ (by show w.heap.size ≠ w5.heap.size; omega)).trans (blk_below (w := wr.drew) HW2.out.2.1 hb8)) (below_set (j := 4) (v := .string (strOfNums ([] ++ dec x.toNat))) (below_step (below_drew HW2.out.2.2) hb8) (Nat.le_of_lt hs5))))
                clear hout8 hb8
                go_wp2
                go_roundg (x4.length - (0 + 1))
                case measure =>
                  have := HW.out.2.2.2
                  omega
                case rel => exact ⟨0 + 1, by go_num, Lib.hid ⟨by omega, rfl, by rw [HST.out]; exact H8.out.1, H8.out.2.1, H8.out.2.2⟩⟩
            · have hne : x4.take i ≠ [] := by
                intro e
                have := congrArg List.length e
                rw [List.length_take, List.length_nil] at this
                omega
              rw [if_neg hne] at hst
              generalize hs : dots (x4.take i) = s at *
              have p1 : strOfNums s ++ ByteArray.mk #[46] = strOfNums (s ++ [46]) := str_app s [46]
              have q1 : (strOfNums s).size + (ByteArray.mk #[46]).size ≤ 9223372036854775807 := by simp [strOfNums, ByteArray.size]; omega
              have hsl3 : s.length ≤ 46000000000 := by omega
              have HST := Lib.hid hst
              clear hst hs
              go_wp2_with fail
              have hout2 : (wr.setCell ⟨w5.heap.size, 4, none⟩ (.string (strOfNums (s ++ [46])))).heap[w5.heap.size]? = some (varO dt 64 0 0 (strOfNums (s ++ [46]))) := by
                rw [Lib.heap_setCell_same (i := 4) HW.out.1 _]
                rfl
              have hres2 : (wr.setCell ⟨w5.heap.size, 4, none⟩ (.string (strOfNums (s ++ [46])))).heap[w.heap.size]? = some (varO ⟨#[]⟩ 0 0 0 ⟨#[]⟩) := (Below.heap_setCell _ _ _ _ (by show w.heap.size ≠ w5.heap.size; omega)).trans HW.out.2.1
              have hb2 := below_set (j := 4) (v := .string (strOfNums (s ++ [46]))) HW.out.2.2.1 (Nat.le_of_lt hs5)
              clear o0 o1 o2 o3 o4 of0 of1 of2 of3 of4 p1 q1
              generalize (wr.setCell ⟨w5.heap.size, 4, none⟩ (.string (strOfNums (s ++ [46])))) = W2 at *
              have hs2l : (s ++ [46]).length ≤ 46000000001 := by simp; omega
              generalize hs2 : s ++ [46] = s2 at *
              obtain ⟨o0, o1, o2, o3, o4, of0, of1, of2, of3, of4⟩ := var_cells hout2
              have hgs := blk_lt hout2
              have hwx : IntKind.u64.wrap x = x := wraps_u64 _ hx0 (by omega)
              have p2 := str_app s2 (dec x.toNat)
              generalize hs3 : s2 ++ dec x.toNat = s3 at *
              have q2 : (strOfNums (s2)).size + (strOfNums (dec x.toNat)).size ≤ 9223372036854775807 := by simp [strOfNums, ByteArray.size]; omega
              have HS3 := Lib.hid (And.intro hs2 hs3)
              clear hs2 hs3
              have HW2 := Lib.hid (And.intro hout2 (And.intro hres2 hb2))
              clear hres2 hb2
              go_region_with_o (go_at_call 34; refine (figures_any x hx0 (by omega) _).mono ?_; rintro e w8 ⟨rfl, hb8⟩; have hout8 : w8.heap[w5.heap.size]? = some (varO dt 64 0 0 (strOfNums (s2))) := blk_below (w := W2.drew) hout2 hb8; have z4 : w8.cell? ⟨w5.heap.size, 4, none⟩ = some (.string (strOfNums (s2))) := (var_cells hout8).2.2.2.2.1; have zf4 : w8.frozen? ⟨w5.heap.size, 4, none⟩ = false := blk_frozen hout8 4)
              all_goals
                have H8 := Lib.hid (And.intro (show (w8.setCell ⟨w5.heap.size, 4, none⟩ (.string (strOfNums (s3)))).heap[w5.heap.size]? = some (varO dt 64 0 0 (strOfNums (s3))) from by
                  rw [Lib.heap_setCell_same (i := 4) hout8 _]; rfl) (And.intro (show (w8.setCell ⟨w5.heap.size, 4, none⟩ (.string (strOfNums (s3)))).heap[w.heap.size]? = some (varO ⟨#[]⟩ 0 0 0 ⟨#[]⟩) from (Below.heap_setCell _ _ _ _ (by show w.heap.size ≠ w5.heap.size; omega)).trans (blk_below (w := W2.drew) HW2.out.2.1 hb8)) (below_set (j := 4) (v := .string (strOfNums (s3))) (below_step (below_drew HW2.out.2.2) hb8) (Nat.le_of_lt hs5))))
                clear hout8 hb8
                go_wp2
                go_roundg (x4.length - (i + 1))
                case measure =>
                  have := HW.out.2.2.2
                  omega
                case rel => exact ⟨i + 1, by go_num, Lib.hid ⟨by omega, rfl, by rw [show dots (x4.take (i + 1)) = s3 by rw [HST.out, ← HS3.out.2, ← HS3.out.1]; simp]; exact H8.out.1, H8.out.2.1, H8.out.2.2⟩⟩
          · obtain rfl : i = x4.length := by omega
            rw [List.take_length] at o4
            by_cases h4 : x4.length = 4
            · have e4 : ((x4.length : Int) == 4) = true := beq_iff_eq.2 (by omega)
              rw [e4]
              go_wp2
              refine ov_ret rfl rfl rfl HW.out.2.1 ?_
              exact ov_some HE.out (HT.out.trans (if_pos h4)) H6.out.2.2.2.2.2.1 (setVar_below HW.out.2.2.1 (Nat.le_refl _) _ _ _ _ _)
            · have e4 : ((x4.length : Int) == 4) = false := beq_eq_false_iff_ne.2 (by omega)
              rw [e4]
              go_wp2
              refine ov_ret rfl rfl rfl HW.out.2.1 ?_
              exact ov_none HE.out (HT.out.trans (if_neg h4)) (setVar_below HW.out.2.2.1 (Nat.le_refl _) _ _ _ _ _)
      · have hT : sTold t x4 = none := by unfold sTold; rw [if_neg c2, if_neg c4, if_neg c5, if_neg c6, if_neg c64, if_neg c65]
        have HT := Lib.hid hT
        have z2 : (t == 2) = false := beq_eq_false_iff_ne.2 c2
        have z4 : (t == 4) = false := beq_eq_false_iff_ne.2 c4
        have z5 : (t == 5) = false := beq_eq_false_iff_ne.2 (by omega)
        have z128 : (t == 128) = false := beq_eq_false_iff_ne.2 (by omega)
        have z129 : (t == 129) = false := beq_eq_false_iff_ne.2 (by omega)
        have z130 : (t == 130) = false := beq_eq_false_iff_ne.2 (by omega)
        have z6 : (t == 6) = false := beq_eq_false_iff_ne.2 c6
        have z64 : (t == 64) = false := beq_eq_false_iff_ne.2 c64
        have z65 : (t == 65) = false := beq_eq_false_iff_ne.2 (by omega)
        have z66 : (t == 66) = false := beq_eq_false_iff_ne.2 (by omega)
        have z67 : (t == 67) = false := beq_eq_false_iff_ne.2 (by omega)
        have z70 : (t == 70) = false := beq_eq_false_iff_ne.2 (by omega)
        clear hT c2 c4 c5 c6 c64 c65
        go_wp2
        refine ov_ret2 rfl rfl rfl HV.out.1 ?_
        exact ov_none HE.out HT.out (HSV.out _ _ _ _ _ _)
end Go.Proofs.YtangjgclpipjdaaDoor
set_option linter.unusedVariables false
namespace Go.Proofs.YtangjgclpipjdaaDoor
open Go.RowKit Go.Proofs.YtangjgclpipjdaaDoorW.PrintWords Go.Proofs.YtangjgclpipjdaaDoorW.PrintLast Go.Proofs.YtangjgclpipjdaaDoorW.PrintMore
/-- A variable that is read: arcs, type, number, number without a sign, text. -/
abbrev VarP := List Int × Int × Int × Int × List Int
def VarP.t (v : VarP) : VarT := ⟨strOfNums (sDot v.1), v.2.1, v.2.2.1, v.2.2.2.1, strOfNums v.2.2.2.2⟩
def sVars : Nat → List Int → Option (List VarP)
  | _, [] => some []
  | 0, _ :: _ => none
  | n + 1, x :: l => match sOfVar (x :: l) with
    | none => none
    | some (v, rest) => (sVars n rest).map (fun vs => v :: vs)
def sNum (b : List Int) : Option (Int × List Int) := match sNext b 2 with
  | none => none
  | some (c, rest) => if 1 ≤ c.length ∧ c.length ≤ 8 then some (sVal c, rest) else none
structure MsgP where
  ver : Int
  com : List Int
  kind : Int
  id : Int
  st : Int
  ix : Int
  vars : List VarP
/-- What stands behind the list's tag and length. -/
def sMsg8 (ver : Int) (com : List Int) (kind id st ix : Int) : Option (List Int × List Int) → Option MsgP
  | none => none
  | some (list, left) => if left.length = 0 then (sVars list.length list).map (fun vs => ⟨ver, com, kind, id, st, ix, vs⟩) else none
def sMsg7 (ver : Int) (com : List Int) (kind id st : Int) : Option (Int × List Int) → Option MsgP
  | none => none
  | some (ix, b) => sMsg8 ver com kind id st ix (sNext b 48)
def sMsg6 (ver : Int) (com : List Int) (kind id : Int) : Option (Int × List Int) → Option MsgP
  | none => none
  | some (st, b) => sMsg7 ver com kind id st (sNum b)
def sMsg5 (ver : Int) (com : List Int) (kind : Int) : Option (Int × List Int) → Option MsgP
  | none => none
  | some (id, b) => if 0 ≤ id ∧ id < 2147483648 then sMsg6 ver com kind id (sNum b) else none
def sMsg4 (ver : Int) (com : List Int) : Option (Int × List Int × List Int) → Option MsgP
  | none => none
  | some (kind, body, left) => if left.length = 0 then sMsg5 ver com kind (sNum body) else none
def sMsg3 (ver : Int) : Option (List Int × List Int) → Option MsgP
  | none => none
  | some (com, b) => sMsg4 ver com (sOpen b)
def sMsg2 : Option (Int × List Int) → Option MsgP
  | none => none
  | some (ver, b) => sMsg3 ver (sNext b 4)
def sMsg1 : Option (List Int × List Int) → Option MsgP
  | none => none
  | some (b, left) => if left.length = 0 then sMsg2 (sNum b) else none
/-- The reference's OfMessage. -/
def sMsg (b : List Int) : Option MsgP := sMsg1 (sNext b 48)
/-- The parts of bytes that are a message. -/
structure Parts (b : List Int) (p : MsgP) (inn cv in1 in2 body ci b1 cs b2 cx b3 list : List Int) : Prop where
  n1 : sNext b 48 = some (inn, [])
  n2 : sNext inn 2 = some (cv, in1)
  l2 : 1 ≤ cv.length ∧ cv.length ≤ 8
  v2 : p.ver = sVal cv
  n3 : sNext in1 4 = some (p.com, in2)
  n4 : sOpen in2 = some (p.kind, body, [])
  n5 : sNext body 2 = some (ci, b1)
  l5 : 1 ≤ ci.length ∧ ci.length ≤ 8
  v5 : p.id = sVal ci
  i0 : 0 ≤ p.id
  i1 : p.id < 2147483648
  n6 : sNext b1 2 = some (cs, b2)
  l6 : 1 ≤ cs.length ∧ cs.length ≤ 8
  v6 : p.st = sVal cs
  n7 : sNext b2 2 = some (cx, b3)
  l7 : 1 ≤ cx.length ∧ cx.length ≤ 8
  v7 : p.ix = sVal cx
  n8 : sNext b3 48 = some (list, [])
  vs : sVars list.length list = some p.vars
theorem sNum_some {b rest : List Int} {n : Int} (h : sNum b = some (n, rest)) : ∃ c, sNext b 2 = some (c, rest) ∧ (1 ≤ c.length ∧ c.length ≤ 8) ∧ n = sVal c := by
  unfold sNum at h
  split at h
  · simp at h
  · rename_i c r hc
    split at h
    · rename_i hl
      simp only [Option.some.injEq, Prod.mk.injEq] at h
      exact ⟨c, by rw [hc, h.2], hl, h.1.symm⟩
    · simp at h
theorem sMsg_parts {b : List Int} {p : MsgP} (h : sMsg b = some p) : ∃ inn cv in1 in2 body ci b1 cs b2 cx b3 list, Parts b p inn cv in1 in2 body ci b1 cs b2 cx b3 list := by
  unfold sMsg at h
  rcases h1 : sNext b 48 with _ | ⟨inn, left⟩
  · rw [h1] at h; simp [sMsg1] at h
  rw [h1] at h
  simp only [sMsg1] at h
  split at h
  case isFalse => simp at h
  rename_i hl
  obtain rfl := List.eq_nil_of_length_eq_zero hl
  rcases h2 : sNum inn with _ | ⟨ver, in1⟩
  · rw [h2] at h; simp [sMsg2] at h
  rw [h2] at h
  simp only [sMsg2] at h
  rcases h3 : sNext in1 4 with _ | ⟨com, in2⟩
  · rw [h3] at h; simp [sMsg3] at h
  rw [h3] at h
  simp only [sMsg3] at h
  rcases h4 : sOpen in2 with _ | ⟨kind, body, left4⟩
  · rw [h4] at h; simp [sMsg4] at h
  rw [h4] at h
  simp only [sMsg4] at h
  split at h
  case isFalse => simp at h
  rename_i hl4
  obtain rfl := List.eq_nil_of_length_eq_zero hl4
  rcases h5 : sNum body with _ | ⟨id, b1⟩
  · rw [h5] at h; simp [sMsg5] at h
  rw [h5] at h
  simp only [sMsg5] at h
  split at h
  case isFalse => simp at h
  rename_i hid
  rcases h6 : sNum b1 with _ | ⟨st, b2⟩
  · rw [h6] at h; simp [sMsg6] at h
  rw [h6] at h
  simp only [sMsg6] at h
  rcases h7 : sNum b2 with _ | ⟨ix, b3⟩
  · rw [h7] at h; simp [sMsg7] at h
  rw [h7] at h
  simp only [sMsg7] at h
  rcases h8 : sNext b3 48 with _ | ⟨list, left8⟩
  · rw [h8] at h; simp [sMsg8] at h
  rw [h8] at h
  simp only [sMsg8] at h
  split at h
  case isFalse => simp at h
  rename_i hl8
  obtain rfl := List.eq_nil_of_length_eq_zero hl8
  obtain ⟨vs, hvs, rfl⟩ := Option.map_eq_some_iff.1 h
  obtain ⟨cv, a1, a2, a3⟩ := sNum_some h2
  obtain ⟨ci, c1, c2, c3⟩ := sNum_some h5
  obtain ⟨cs, d1, d2, d3⟩ := sNum_some h6
  obtain ⟨cx, e1, e2, e3⟩ := sNum_some h7
  exact ⟨inn, cv, in1, in2, body, ci, b1, cs, b2, cx, b3, list, h1, a1, a2, a3, h3, h4, c1, c2, c3, hid.1, hid.2, d1, d2, d3, e1, e2, e3, h8, hvs⟩
/-- A message's bytes, of its parts. -/
def gBody (id st ix : Int) (list : List Int) (wide : Nat) : List Int := sSealed 2 (mInt32 id) wide ++ (sSealed 2 (mInt32 st) wide ++ (sSealed 2 (mInt32 ix) wide ++ sSealed 48 list wide))
def gMsg (ver : Int) (com : List Int) (kind id st ix : Int) (list : List Int) (wide : Nat) : List Int := sSealed 48 (sSealed 2 (mInt32 ver) wide ++ (sSealed 4 com wide ++ sSealed kind (gBody id st ix list wide) wide)) wide
theorem lenBytes_two (n : Nat) (h : n ≤ 65535) : (lenBytes n).length ≤ 2 := by
  unfold lenBytes
  split <;> (try split) <;> (try split) <;> (try split) <;> simp <;> omega
theorem sNum_sealed (n : Int) (rest : List Int) (wide : Nat) (hw : wide ≤ 2) (h0 : -2147483648 ≤ n) (h1 : n ≤ 2147483647) : sNum (sSealed 2 (mInt32 n) wide ++ rest) = some (n, rest) := by
  have hl := mInt32_len n
  unfold sNum
  rw [sNext_sealed 2 _ rest wide (by omega) (by omega) (by omega) (by omega) (by have := lenBytes_two (mInt32 n).length (by omega); omega)]
  simp only
  rw [if_pos (by omega), sVal_mInt32 n h0 h1]
theorem gBody_len (id st ix : Int) (list : List Int) (wide : Nat) : (gBody id st ix list wide).length ≤ list.length + 4 * wide + 36 := by
  have a := (sealed_len 2 (mInt32 id) wide).2
  have b := (sealed_len 2 (mInt32 st) wide).2
  have c := (sealed_len 2 (mInt32 ix) wide).2
  have d := (sealed_len 48 list wide).2
  have := (mInt32_len id).2
  have := (mInt32_len st).2
  have := (mInt32_len ix).2
  unfold gBody
  simp only [List.length_append]
  omega
theorem sMsg_gMsg (ver : Int) (com : List Int) (kind id st ix : Int) (list : List Int) (wide : Nat) (hw : wide ≤ 2) (v0 : 0 ≤ ver) (v1 : ver ≤ 127) (hcom : com.length ≤ 127) (k0 : 0 ≤ kind) (k1 : kind ≤ 255) (i0 : 0 ≤ id) (i1 : id ≤ 2147483647) (s0 : 0 ≤ st) (s1 : st ≤ 127) (x0 : 0 ≤ ix) (x1 : ix ≤ 127) (hl : list.length ≤ 60000)
    (vs : List VarP) (hv : sVars list.length list = some vs) : sMsg (gMsg ver com kind id st ix list wide) = some ⟨ver, com, kind, id, st, ix, vs⟩ := by
  have hb := gBody_len id st ix list wide
  have a := (sealed_len 2 (mInt32 ver) wide).2
  have b := (sealed_len 4 com wide).2
  have c := (sealed_len kind (gBody id st ix list wide) wide).2
  have := (mInt32_len ver).2
  have e1 := sNext_sealed 48 (sSealed 2 (mInt32 ver) wide ++ (sSealed 4 com wide ++ sSealed kind (gBody id st ix list wide) wide)) [] wide (by omega) (by omega) (by simp only [List.length_append]; omega) (by omega) (by have := lenBytes_two (sSealed 2 (mInt32 ver) wide ++ (sSealed 4 com wide ++ sSealed kind (gBody id st ix list wide) wide)).length (by simp only [List.length_append]; omega); omega)
  have e4 := sOpen_sealed kind (gBody id st ix list wide) [] wide k0 k1 (by omega) (by omega) (by have := lenBytes_two (gBody id st ix list wide).length (by omega); omega)
  have e8 := sNext_sealed 48 list [] wide (by omega) (by omega) (by omega) (by omega) (by have := lenBytes_two list.length (by omega); omega)
  rw [List.append_nil] at e1 e4 e8
  unfold sMsg gMsg
  rw [e1]
  simp only [sMsg1, List.length_nil, if_true]
  rw [sNum_sealed ver _ wide hw (by omega) (by omega)]
  simp only [sMsg2]
  rw [sNext_sealed 4 com _ wide (by omega) (by omega) (by omega) (by omega) (by have := lenBytes_two com.length (by omega); omega)]
  simp only [sMsg3]
  rw [e4]
  simp only [sMsg4, List.length_nil, if_true]
  unfold gBody
  rw [sNum_sealed id _ wide hw (by omega) (by omega)]
  simp only [sMsg5]
  rw [if_pos (by omega), sNum_sealed st _ wide hw (by omega) (by omega)]
  simp only [sMsg6]
  rw [sNum_sealed ix _ wide hw (by omega) (by omega)]
  simp only [sMsg7]
  rw [e8]
  simp only [sMsg8, List.length_nil, if_true]
  rw [hv]
  rfl
theorem ty_byteQ {ty i u : Int} {tx c : List Int} {i' u' : Int} {tx' : List Int} (h : Cont ty i u tx c i' u' tx') : 0 ≤ ty ∧ ty ≤ 255 := by
  cases h <;> omega
theorem sOfVar_askedW {nm tx : ByteArray} {ty i u : Int} {arcs c : List Int} {i' u' : Int} {tx' : List Int} (h : Asked nm tx ty i u arcs c i' u' tx') (u0 : 0 ≤ u) (u1 : u ≤ 18446744073709551615) (wide : Nat) (hw : wide ≤ 2) (rest : List Int) : sOfVar (sVar arcs ty c wide ++ rest) = some ((arcs, ty, i', u', tx'), rest) := by
  obtain ⟨t0, t1⟩ := ty_byteQ h.cont
  have hl := h.cont.len
  have hn := (sArcs_text _ _ h.name).2.1
  have a := (sealed_len 6 (sName arcs) wide).2
  have b := (sealed_len ty c wide).2
  have o := sOpen_sealed ty c [] wide t0 t1 (by omega) (by omega) (by have := lenBytes_two c.length (by omega); omega)
  rw [List.append_nil] at o
  unfold sOfVar sVar
  rw [sNext_sealed 48 _ rest wide (by omega) (by omega) (by simp; omega) (by omega) (by have := lenBytes_two (sSealed 6 (sName arcs) wide ++ sSealed ty c wide).length (by simp; omega); omega)]
  simp only
  rw [sNext_sealed 6 _ _ wide (by omega) (by omega) (by omega) (by omega) (by have := lenBytes_two (sName arcs).length (by omega); omega)]
  simp only
  rw [o]
  simp only
  rw [sOf_asked h.name, h.cont.sTold u0 u1]
  simp [tellVar]
def partQ (q : VarT × Ask) : VarP := (q.2.arcs, q.1.ty, q.2.i, q.2.u, q.2.tx)
def bytesQ (wide : Nat) (q : VarT × Ask) : List Int := sVar q.2.arcs q.1.ty q.2.c wide
theorem bytesQ_cons (wide : Nat) (q : VarT × Ask) : ∃ x l, bytesQ wide q = x :: l := ⟨_, _, rfl⟩
theorem sVars_bytes (wide : Nat) (hw : wide ≤ 2) : ∀ (qs : List (VarT × Ask)) (n : Nat), (∀ q ∈ qs, okQ q) → (∀ q ∈ qs, 0 ≤ q.1.u ∧ q.1.u ≤ 18446744073709551615) → (qs.map (bytesQ wide)).flatten.length ≤ n → sVars n (qs.map (bytesQ wide)).flatten = some (qs.map partQ)
  | [], n, _, _, _ => by cases n <;> rfl
  | q :: qs, n, h, hu, hn => by
    have hv := sOfVar_askedW (h q (by simp)) (hu q (by simp)).1 (hu q (by simp)).2 wide hw (qs.map (bytesQ wide)).flatten
    have e : ((q :: qs).map (bytesQ wide)).flatten = bytesQ wide q ++ (qs.map (bytesQ wide)).flatten := by simp
    rw [e] at hn ⊢
    obtain ⟨x, l, hx⟩ := bytesQ_cons wide q
    change sOfVar (bytesQ wide q ++ _) = _ at hv
    rw [hx] at hv hn ⊢
    rw [List.cons_append] at hv hn ⊢
    cases n with
    | zero => simp at hn
    | succ n =>
      simp only [sVars]
      rw [hv]
      simp only
      rw [sVars_bytes wide hw qs n (fun y hy => h y (by simp [hy])) (fun y hy => hu y (by simp [hy])) (by simp only [List.length_cons, List.length_append] at hn; omega)]
      rfl
theorem sOfVar_rest {b rest : List Int} {v : VarP} (ho : sOfVar b = some (v, rest)) (hb : IsB b) : rest.length + 2 ≤ b.length ∧ IsB rest := by
  unfold sOfVar at ho
  rcases h1 : sNext b 48 with _ | ⟨inn, r⟩
  · rw [h1] at ho; simp at ho
  rw [h1] at ho
  simp only at ho
  have hr : r = rest := by
    rcases h2 : sNext inn 6 with _ | ⟨nm, in2⟩
    · rw [h2] at ho; simp at ho
    rw [h2] at ho
    simp only at ho
    rcases h3 : sOpen in2 with _ | ⟨tag, c, left⟩
    · rw [h3] at ho; simp at ho
    rw [h3] at ho
    simp only at ho
    split at ho
    · rcases h4 : sTold tag c with _ | ⟨i, u, tx⟩
      · rw [h4] at ho; simp [tellVar] at ho
      · rw [h4] at ho
        simp only [tellVar, Option.some.injEq, Prod.mk.injEq] at ho
        exact ho.2
    · simp at ho
  subst hr
  unfold sNext at h1
  rcases h2 : sOpen b with _ | ⟨t, c, r'⟩
  · rw [h2] at h1; simp at h1
  rw [h2] at h1
  simp only at h1
  split at h1
  · simp only [Option.some.injEq, Prod.mk.injEq] at h1
    obtain ⟨rfl, rfl⟩ := h1
    exact ⟨by have := sOpen_len hb h2; omega, (sOpen_isB hb h2).2.1⟩
  · simp at h1
theorem sVars_more (n : Nat) : ∀ (b : List Int) (m : Nat), b.length ≤ n → b.length ≤ m → IsB b → sVars n b = sVars m b := by
  induction n with
  | zero =>
    intro b m h _ _
    obtain rfl := List.eq_nil_of_length_eq_zero (Nat.le_zero.1 h)
    cases m <;> rfl
  | succ n ih =>
    intro b m h hm hb
    rcases b with _ | ⟨x, l⟩
    · cases m <;> rfl
    rcases m with _ | m
    · simp at hm
    simp only [sVars]
    rcases ho : sOfVar (x :: l) with _ | ⟨v, rest⟩
    · rfl
    · simp only
      obtain ⟨h1, h2⟩ := sOfVar_rest ho hb
      simp only [List.length_cons] at h h1 hm
      rw [ih rest m (by omega) (by omega) h2]
theorem sVars_none {z : List Int} (h0 : z.length ≠ 0) (h : sOfVar z = none) : sVars z.length z = none := by
  cases z with
  | nil => simp at h0
  | cons x l =>
    simp only [List.length_cons, sVars]
    rw [h]
theorem sVars_step {z rest : List Int} {v : VarP} (hb : IsB z) (h : sOfVar z = some (v, rest)) : sVars z.length z = (sVars rest.length rest).map (fun r => v :: r) ∧ rest.length + 2 ≤ z.length ∧ IsB rest := by
  obtain ⟨h1, h2⟩ := sOfVar_rest h hb
  refine ⟨?_, h1, h2⟩
  cases z with
  | nil => simp at h1
  | cons x l =>
    simp only [List.length_cons, sVars] at *
    rw [h]
    simp only
    rw [sVars_more l.length rest rest.length (by omega) (Nat.le_refl _) h2]
end Go.Proofs.YtangjgclpipjdaaDoor
set_option linter.unusedVariables false
namespace Go.Proofs.YtangjgclpipjdaaDoor
open Go.RowKit Go.Proofs.YtangjgclpipjdaaDoorW.PrintWords Go.Proofs.YtangjgclpipjdaaDoorW.PrintLast Go.Proofs.YtangjgclpipjdaaDoorW.PrintMore
/-- Tags of lists and messages. -/
def special (t : Int) : Prop := t = 48 ∨ (160 ≤ t ∧ t ≤ 168)
inductive SW : Nat → List Int → Prop
  | nil (d : Nat) : SW d []
  | cons (d : Nat) (b c rest : List Int) (t : Int) : sOpen b = some (t, c, rest) → (special t → SW d c) → SW (d + 1) rest → SW (d + 1) b
/-- What OfVar opens. -/
structure VParts (b : List Int) (v : VarP) (rest inn nm in2 c : List Int) : Prop where
  n1 : sNext b 48 = some (inn, rest)
  n2 : sNext inn 6 = some (nm, in2)
  n3 : sOpen in2 = some (v.2.1, c, [])
  nm : sOf nm = (v.1, true)
  told : sTold v.2.1 c = some (v.2.2.1, v.2.2.2.1, v.2.2.2.2)
theorem sOfVar_parts {b rest : List Int} {v : VarP} (ho : sOfVar b = some (v, rest)) : ∃ inn nm in2 c, VParts b v rest inn nm in2 c := by
  unfold sOfVar at ho
  rcases h1 : sNext b 48 with _ | ⟨inn, r⟩
  · rw [h1] at ho; simp at ho
  rw [h1] at ho
  simp only at ho
  rcases h2 : sNext inn 6 with _ | ⟨nm, in2⟩
  · rw [h2] at ho; simp at ho
  rw [h2] at ho
  simp only at ho
  rcases h3 : sOpen in2 with _ | ⟨tag, c, left⟩
  · rw [h3] at ho; simp at ho
  rw [h3] at ho
  simp only at ho
  split at ho
  case isFalse => simp at ho
  rename_i hc
  obtain rfl := List.eq_nil_of_length_eq_zero hc.2
  rcases h4 : sTold tag c with _ | ⟨i, u, tx⟩
  · rw [h4] at ho; simp [tellVar] at ho
  rw [h4] at ho
  simp only [tellVar, Option.some.injEq, Prod.mk.injEq] at ho
  obtain ⟨rfl, rfl⟩ := ho
  exact ⟨inn, nm, in2, c, h1, h2, h3, Prod.ext rfl hc.1, h4⟩
theorem sTold_tag {tag : Int} {c : List Int} {r : Int × Int × List Int} (h : sTold tag c = some r) : ¬ special tag := by
  unfold special
  unfold sTold at h
  split at h
  · omega
  split at h
  · omega
  split at h
  · omega
  split at h
  · omega
  split at h
  · omega
  split at h
  · omega
  · simp at h
theorem notSpecial {t : Int} (h : ¬ special t) {p : Prop} : special t → p := fun k => absurd k h
theorem spec2 : ¬ special 2 := by unfold special; omega
theorem spec4 : ¬ special 4 := by unfold special; omega
theorem spec6 : ¬ special 6 := by unfold special; omega
theorem sVars_sw (d : Nat) : ∀ (n : Nat) (b : List Int) (vs : List VarP), sVars n b = some vs → SW (d + 2) b
  | n, [], _, _ => .nil _
  | 0, _ :: _, _, h => by simp [sVars] at h
  | n + 1, x :: l, vs, h => by
    simp only [sVars] at h
    rcases ho : sOfVar (x :: l) with _ | ⟨v, rest⟩
    · rw [ho] at h; simp at h
    rw [ho] at h
    simp only at h
    obtain ⟨vs', hv, -⟩ := Option.map_eq_some_iff.1 h
    obtain ⟨inn, nm, in2, c, hp⟩ := sOfVar_parts ho
    exact .cons (d + 1) _ inn rest 48 (sNext_open hp.n1) (fun _ => .cons d _ nm in2 6 (sNext_open hp.n2) (notSpecial spec6) (.cons d _ c [] _ hp.n3 (notSpecial (sTold_tag hp.told)) (.nil _))) (sVars_sw d n rest vs' hv)
theorem sMsg_sw (d : Nat) {b : List Int} {p : MsgP} (h : sMsg b = some p) : SW (d + 5) b := by
  obtain ⟨inn, cv, in1, in2, body, ci, b1, cs, b2, cx, b3, list, hp⟩ := sMsg_parts h
  refine .cons (d + 4) _ inn [] 48 (sNext_open hp.n1) (fun _ => ?_) (.nil _)
  refine .cons (d + 3) _ cv in1 2 (sNext_open hp.n2) (notSpecial spec2) ?_
  refine .cons (d + 3) _ p.com in2 4 (sNext_open hp.n3) (notSpecial spec4) ?_
  refine .cons (d + 3) _ body [] _ hp.n4 (fun _ => ?_) (.nil _)
  refine .cons (d + 2) _ ci b1 2 (sNext_open hp.n5) (notSpecial spec2) ?_
  refine .cons (d + 2) _ cs b2 2 (sNext_open hp.n6) (notSpecial spec2) ?_
  refine .cons (d + 2) _ cx b3 2 (sNext_open hp.n7) (notSpecial spec2) ?_
  exact .cons (d + 2) _ list [] 48 (sNext_open hp.n8) (fun _ => sVars_sw d _ _ _ hp.vs) (.nil _)
theorem rd_take (b : List Int) (k i : Nat) (h : i < k) : rd (b.take k) i = rd b i := by
  unfold Go.Proofs.YtangjgclpipjdaaDoorW.PrintWords.rd
  simp [List.getD_eq_getElem?_getD, h]
/-- Bytes that are one element, cut. -/
theorem sOpen_cut {b c : List Int} {t : Int} (h : sOpen b = some (t, c, [])) (hb : IsB b) (k : Nat) (hk : k < b.length) : sOpen (b.take k) = none := by
  unfold sOpen at h
  split at h
  case isFalse => simp at h
  rename_i hok
  simp only [Option.some.injEq, Prod.mk.injEq] at h
  obtain ⟨-, -, hr⟩ := h
  obtain ⟨g1, g2, g3⟩ := pLen_ge b hb hok
  have hlen : b.length ≤ (pLen b).1.toNat := by
    have := congrArg List.length hr
    simp at this
    omega
  refine if_neg (fun hc => ?_)
  obtain ⟨c1, c2, c3, c4, c5⟩ := hc
  have hkl : (b.take k).length = k := by rw [List.length_take]; omega
  rw [hkl] at c1 c4 c5
  have r1 : rd (b.take k) 1 = rd b 1 := rd_take b k 1 (by omega)
  rw [r1] at c4
  have hp : pLen (b.take k) = pLen b := by
    unfold pLen
    rw [r1]
    split
    · rfl
    · have e : ((b.take k).drop 2).take (rd b 1 - 128).toNat = (b.drop 2).take (rd b 1 - 128).toNat := by
        rw [List.drop_take, List.take_take, Nat.min_eq_left (by omega)]
      rw [e]
  rw [hp] at c5
  omega
end Go.Proofs.YtangjgclpipjdaaDoor
