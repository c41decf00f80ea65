/- The lemmas and walks that FnDecode and FnCut and FnRead rests on, part 17: Payl DecP Whole. -/
import Derived.Test.YtangjgclpipjdaaDoorQM14
import Derived.Test.YtangjgclpipjdaaDoorQM15
import Derived.Test.YtangjgclpipjdaaDoorQM16
set_option linter.unusedVariables false
namespace Go.Proofs.YtangjgclpipjdaaDoor
open Go.RowKit Go.Proofs.YtangjgclpipjdaaDoorW.PrintWords Go.Proofs.YtangjgclpipjdaaDoorW.PrintLast Go.Proofs.YtangjgclpipjdaaDoorW.PrintMore
/-- The package's message as it is told: its kind, request id, status and index. -/
def pkOf (pk : PktT) (kind id st ix : Int) : PktT := if kind = 165 then ⟨pk.ver, pk.com, kind, id, pk.er, pk.ei, st, ix⟩ else ⟨pk.ver, pk.com, kind, id, st, ix, pk.nr, pk.mr⟩
/-- .. in its block, the mark of an InformRequest beside it. -/
abbrev pktO2 (p : PktT) (v : Value) (b : Bool) : Obj := .cells #[.int .u8 p.ver, .string p.com, .int .u8 p.kind, .int .u32 0, .int .u32 p.id, .int .u32 0, .int .u8 p.er, .int .u8 p.ei, .int .u8 p.nr, .int .u32 p.mr, v, .slice none 0 0, .bool b, .string ⟨#[]⟩, .string ⟨#[]⟩, .int .i64 0, .int .i64 0, .int .u64 0] 92 (0, 0)
def GotPayl (w0 : World) (g : Nat) (pk : PktT) (A : Option Addr) (xs : List Int) (vs : List VarP) (w' : World) (e : Ending) : Prop :=
  e = .returned .nilIface ∧ ∃ V' ps b, w'.heap[g]? = some (pktO2 pk V' b) ∧ OwnP w' (g + 1) V' ps ∧ PdusAre A xs vs ps ∧ Below w0.heap.size w0 w'
/-- What unmarshalResponse answers, whatever the kind. -/
structure RespIn (xs body ci b1 cs b2 cx b3 list : List Int) (kind : Int) (vs : List VarP) : Prop where
  ho : sOpen xs = some (kind, body, [])
  h5 : sOpen body = some (2, ci, b1)
  h6 : sOpen b1 = some (2, cs, b2)
  h7 : sOpen b2 = some (2, cx, b3)
  h8 : sOpen b3 = some (48, list, [])
  l5 : 1 ≤ ci.length ∧ ci.length ≤ 8
  l6 : 1 ≤ cs.length ∧ cs.length ≤ 8
  l7 : 1 ≤ cx.length ∧ cx.length ≤ 8
  i0 : 0 ≤ sVal ci
  i1 : sVal ci ≤ 2147483647
  s0 : 0 ≤ sVal cs
  s1 : sVal cs ≤ 127
  x0 : 0 ≤ sVal cx
  x1 : sVal cx ≤ 127
  hvs : sVars list.length list = some vs
  h67 : ∀ v ∈ vs, v.2.1 = 67 → v.2.2.2.1 ≤ 4294967295
theorem uresp_both {xs body ci b1 cs b2 cx b3 list : List Int} {kind : Int} {vs : List VarP} (hI : RespIn xs body ci b1 cs b2 cx b3 list kind vs) (A : Option Addr) (cc : Nat) (hcc : xs.length ≤ cc) (hB : IsB xs) (hx : xs.length ≤ 20000)
    (w0 w : World) (hr : Kd.C (Kd.int .u8) w0 A xs.length xs) (z : Addr) (hT : Tabs z w0) (gx g : Nat) (pk : PktT) (V : Value) (hk : pk.kind = kind) (hgx : w0.heap[gx]? = some (.cells #[] 103 (0, 0))) (hgB : w0.heap.size ≤ g) (hS : St w0 g pk V w) :
    Calls Tryd.prog 88 #[.pointer (some ⟨gx, 0, none⟩), .slice A xs.length cc, .pointer (some ⟨g, 0, none⟩)] w fun e w' => GotResp w0 g (pkOf pk kind (sVal ci) (sVal cs) (sVal cx)) A xs vs w' e := by
  unfold pkOf
  split
  · rename_i h
    have := uresp_bulk xs body ci b1 cs b2 cx b3 list kind A cc hcc hB hI.ho hI.h5 hI.h6 hI.h7 hI.h8 hI.l5 hI.l6 hI.l7 hI.i0 hI.i1 hI.s0 hI.s1 hI.x0 hI.x1 vs hI.hvs hI.h67 hx w0 w hr z hT gx g pk V (hk.trans h) hgx hgB hS
    rw [hk] at this
    exact this
  · rename_i h
    have := uresp_any xs body ci b1 cs b2 cx b3 list kind A cc hcc hB hI.ho hI.h5 hI.h6 hI.h7 hI.h8 hI.l5 hI.l6 hI.l7 hI.i0 hI.i1 hI.s0 hI.s1 hI.x0 hI.x1 vs hI.hvs hI.h67 hx w0 w hr z hT gx g pk V (by rw [hk]; exact h) hgx hgB hS
    rw [hk] at this
    exact this
set_option maxRecDepth 100000 in
set_option maxHeartbeats 4000000 in
theorem payl_160 (xs ys body ci b1 cs b2 cx b3 list : List Int) (vs : List VarP) (hI : RespIn ys body ci b1 cs b2 cx b3 list 160 vs) (A : Option Addr) (cc : Nat) (hcc : xs.length ≤ cc) (hB : IsB xs) (hBy : IsB ys) (hx : xs.length ≤ 20000) (hle : ys.length ≤ xs.length) (hd : xs.drop (xs.length - ys.length) = ys)
    (w0 w : World) (hr : Kd.C (Kd.int .u8) w0 A xs.length xs) (z : Addr) (hT : Tabs z w0) (gx g : Nat) (pk : PktT) (V : Value) (hgx : w0.heap[gx]? = some (.cells #[] 103 (0, 0))) (hgB : w0.heap.size ≤ g) (hS : St w0 g pk V w) :
    Calls Tryd.prog 55 #[.pointer (some ⟨gx, 0, none⟩), .slice A xs.length cc, .int .i64 ((xs.length : Int) - ys.length), .pointer (some ⟨g, 0, none⟩)] w fun e w' => GotPayl w0 g (pkOf pk 160 (sVal ci) (sVal cs) (sVal cx)) A xs vs w' e := by
  obtain ⟨A1, A2, c2, hcut, hC1, hE1, -, l1, -, -⟩ := tail_open xs ys body [] 160 A cc hcc hBy hle hd hI.ho
  obtain ⟨p, hp⟩ : ∃ p : Nat, p + ys.length = xs.length := ⟨xs.length - ys.length, by omega⟩
  have hpe : (xs.length : Int) - ys.length = p := by omega
  rw [hpe] at hcut ⊢
  have hrw := Kd.C_below hr hS.2.2
  obtain ⟨ad, rfl, kp⟩ := cell_at hrw p (by omega)
  have hk0 : rd xs p = 160 := by
    have h1 := sOpen_head hI.ho
    rw [← hd, show xs.length - ys.length = p by omega] at h1
    rw [← h1]
    unfold Go.Proofs.YtangjgclpipjdaaDoorW.PrintWords.rd
    simp [List.getD_eq_getElem?_getD, List.getElem?_drop]
  rw [hk0] at kp
  have d0 : ((xs.length : Int) == 0) = false := beq_eq_false_iff_ne.2 (by omega)
  have hplt : (p : Int) < xs.length := by omega
  have hgx1 := blk_below hgx hS.2.2
  have hpart := fun W => part_zero W gx
  have mixed : Tryd.prog.follows Departure.mixedOrders = true := by kernel_rfl
  have HH := Lib.hid (And.intro hS (And.intro hr (And.intro hT (And.intro hgx (And.intro hgB (And.intro hC1 hI))))))
  clear hS hr hT hgx hgB hC1 hE1 hI hd hk0 hrw
  go_enter Tryd.func55, Tryd.ntmps55
  go_wp2_with fail
  have bp := (Below.refl w.heap.size w).alloc (Nat.le_refl _) (.cells #[.iface 84 (.int .u8 160), .iface 3 (.int .i64 p)] 20)
  refine (printf_any _ _ _).mono ?_
  rintro e w2 ⟨rfl, hb2⟩
  have b2' := below_step bp hb2
  have H2 := Lib.hid (HH.out.1.step b2')
  have a2 : w2.cell? ⟨g, 2, none⟩ = some (.int .u8 pk.kind) := (blk_cell H2.out.1 2).trans rfl
  have fa2 := blk_frozen H2.out.1 2
  have H3 := Lib.hid (H2.out.set HH.out.2.2.2.2.1 2 (.int .u8 160) ⟨pk.ver, pk.com, 160, pk.id, pk.er, pk.ei, pk.nr, pk.mr⟩ rfl)
  clear bp hb2 b2' kp hgx1
  go_wp2_with fail
  generalize w2.setCell ⟨g, 2, none⟩ (.int .u8 160) = w3 at *
  clear a2 fa2
  refine (uresp_both HH.out.2.2.2.2.2.2 A1 (cc - (xs.length - ys.length)) HH.out.2.2.2.2.2.1.1 hBy (by omega) w0 w3 (HH.out.2.2.2.2.2.1.2 w0 HH.out.2.1) z HH.out.2.2.1 gx g _ V rfl HH.out.2.2.2.1 HH.out.2.2.2.2.1 H3.out).mono ?_
  rintro e w4 ⟨rfl, V', ps, r1, r2, r3, r4⟩
  have a12 : w4.cell? ⟨g, 12, none⟩ = some (.bool false) := (blk_cell r1 12).trans rfl
  have fa12 := blk_frozen r1 12
  have HR := Lib.hid (And.intro r1 (And.intro r2 (And.intro (PdusAre.cut HH.out.2.2.2.2.2.1 r3) r4)))
  clear r1 r2 r3 r4
  go_wp2
  go_ret
  have q1 := blk_put (cs' := #[.int .u8 pk.ver, .string pk.com, .int .u8 160, .int .u32 0, .int .u32 (pkOf pk 160 (sVal ci) (sVal cs) (sVal cx)).id, .int .u32 0, .int .u8 (pkOf pk 160 (sVal ci) (sVal cs) (sVal cx)).er, .int .u8 (pkOf pk 160 (sVal ci) (sVal cs) (sVal cx)).ei, .int .u8 (pkOf pk 160 (sVal ci) (sVal cs) (sVal cx)).nr, .int .u32 (pkOf pk 160 (sVal ci) (sVal cs) (sVal cx)).mr, V', .slice none 0 0, .bool false, .string ⟨#[]⟩, .string ⟨#[]⟩, .int .i64 0, .int .i64 0, .int .u64 0]) HR.out.1 12 (.bool false) rfl
  exact ⟨rfl, V', ps, false, q1, HR.out.2.1.move (fun k hk => Below.heap_setCell _ _ _ _ (by have := HR.out.2.1.block k hk; show k ≠ g; omega)), HR.out.2.2.1, below_set (j := 12) (v := .bool false) HR.out.2.2.2 HH.out.2.2.2.2.1⟩
set_option maxRecDepth 100000 in
set_option maxHeartbeats 4000000 in
theorem payl_161 (xs ys body ci b1 cs b2 cx b3 list : List Int) (vs : List VarP) (hI : RespIn ys body ci b1 cs b2 cx b3 list 161 vs) (A : Option Addr) (cc : Nat) (hcc : xs.length ≤ cc) (hB : IsB xs) (hBy : IsB ys) (hx : xs.length ≤ 20000) (hle : ys.length ≤ xs.length) (hd : xs.drop (xs.length - ys.length) = ys)
    (w0 w : World) (hr : Kd.C (Kd.int .u8) w0 A xs.length xs) (z : Addr) (hT : Tabs z w0) (gx g : Nat) (pk : PktT) (V : Value) (hgx : w0.heap[gx]? = some (.cells #[] 103 (0, 0))) (hgB : w0.heap.size ≤ g) (hS : St w0 g pk V w) :
    Calls Tryd.prog 55 #[.pointer (some ⟨gx, 0, none⟩), .slice A xs.length cc, .int .i64 ((xs.length : Int) - ys.length), .pointer (some ⟨g, 0, none⟩)] w fun e w' => GotPayl w0 g (pkOf pk 161 (sVal ci) (sVal cs) (sVal cx)) A xs vs w' e := by
  obtain ⟨A1, A2, c2, hcut, hC1, hE1, -, l1, -, -⟩ := tail_open xs ys body [] 161 A cc hcc hBy hle hd hI.ho
  obtain ⟨p, hp⟩ : ∃ p : Nat, p + ys.length = xs.length := ⟨xs.length - ys.length, by omega⟩
  have hpe : (xs.length : Int) - ys.length = p := by omega
  rw [hpe] at hcut ⊢
  have hrw := Kd.C_below hr hS.2.2
  obtain ⟨ad, rfl, kp⟩ := cell_at hrw p (by omega)
  have hk0 : rd xs p = 161 := by
    have h1 := sOpen_head hI.ho
    rw [← hd, show xs.length - ys.length = p by omega] at h1
    rw [← h1]
    unfold Go.Proofs.YtangjgclpipjdaaDoorW.PrintWords.rd
    simp [List.getD_eq_getElem?_getD, List.getElem?_drop]
  rw [hk0] at kp
  have d0 : ((xs.length : Int) == 0) = false := beq_eq_false_iff_ne.2 (by omega)
  have hplt : (p : Int) < xs.length := by omega
  have hgx1 := blk_below hgx hS.2.2
  have hpart := fun W => part_zero W gx
  have mixed : Tryd.prog.follows Departure.mixedOrders = true := by kernel_rfl
  have HH := Lib.hid (And.intro hS (And.intro hr (And.intro hT (And.intro hgx (And.intro hgB (And.intro hC1 hI))))))
  clear hS hr hT hgx hgB hC1 hE1 hI hd hk0 hrw
  go_enter Tryd.func55, Tryd.ntmps55
  go_wp2_with fail
  have bp := (Below.refl w.heap.size w).alloc (Nat.le_refl _) (.cells #[.iface 84 (.int .u8 161), .iface 3 (.int .i64 p)] 20)
  refine (printf_any _ _ _).mono ?_
  rintro e w2 ⟨rfl, hb2⟩
  have b2' := below_step bp hb2
  have H2 := Lib.hid (HH.out.1.step b2')
  have a2 : w2.cell? ⟨g, 2, none⟩ = some (.int .u8 pk.kind) := (blk_cell H2.out.1 2).trans rfl
  have fa2 := blk_frozen H2.out.1 2
  have H3 := Lib.hid (H2.out.set HH.out.2.2.2.2.1 2 (.int .u8 161) ⟨pk.ver, pk.com, 161, pk.id, pk.er, pk.ei, pk.nr, pk.mr⟩ rfl)
  clear bp hb2 b2' kp hgx1
  go_wp2_with fail
  generalize w2.setCell ⟨g, 2, none⟩ (.int .u8 161) = w3 at *
  clear a2 fa2
  refine (uresp_both HH.out.2.2.2.2.2.2 A1 (cc - (xs.length - ys.length)) HH.out.2.2.2.2.2.1.1 hBy (by omega) w0 w3 (HH.out.2.2.2.2.2.1.2 w0 HH.out.2.1) z HH.out.2.2.1 gx g _ V rfl HH.out.2.2.2.1 HH.out.2.2.2.2.1 H3.out).mono ?_
  rintro e w4 ⟨rfl, V', ps, r1, r2, r3, r4⟩
  have a12 : w4.cell? ⟨g, 12, none⟩ = some (.bool false) := (blk_cell r1 12).trans rfl
  have fa12 := blk_frozen r1 12
  have HR := Lib.hid (And.intro r1 (And.intro r2 (And.intro (PdusAre.cut HH.out.2.2.2.2.2.1 r3) r4)))
  clear r1 r2 r3 r4
  go_wp2
  go_ret
  have q1 := blk_put (cs' := #[.int .u8 pk.ver, .string pk.com, .int .u8 161, .int .u32 0, .int .u32 (pkOf pk 161 (sVal ci) (sVal cs) (sVal cx)).id, .int .u32 0, .int .u8 (pkOf pk 161 (sVal ci) (sVal cs) (sVal cx)).er, .int .u8 (pkOf pk 161 (sVal ci) (sVal cs) (sVal cx)).ei, .int .u8 (pkOf pk 161 (sVal ci) (sVal cs) (sVal cx)).nr, .int .u32 (pkOf pk 161 (sVal ci) (sVal cs) (sVal cx)).mr, V', .slice none 0 0, .bool false, .string ⟨#[]⟩, .string ⟨#[]⟩, .int .i64 0, .int .i64 0, .int .u64 0]) HR.out.1 12 (.bool false) rfl
  exact ⟨rfl, V', ps, false, q1, HR.out.2.1.move (fun k hk => Below.heap_setCell _ _ _ _ (by have := HR.out.2.1.block k hk; show k ≠ g; omega)), HR.out.2.2.1, below_set (j := 12) (v := .bool false) HR.out.2.2.2 HH.out.2.2.2.2.1⟩
set_option maxRecDepth 100000 in
set_option maxHeartbeats 4000000 in
theorem payl_162 (xs ys body ci b1 cs b2 cx b3 list : List Int) (vs : List VarP) (hI : RespIn ys body ci b1 cs b2 cx b3 list 162 vs) (A : Option Addr) (cc : Nat) (hcc : xs.length ≤ cc) (hB : IsB xs) (hBy : IsB ys) (hx : xs.length ≤ 20000) (hle : ys.length ≤ xs.length) (hd : xs.drop (xs.length - ys.length) = ys)
    (w0 w : World) (hr : Kd.C (Kd.int .u8) w0 A xs.length xs) (z : Addr) (hT : Tabs z w0) (gx g : Nat) (pk : PktT) (V : Value) (hgx : w0.heap[gx]? = some (.cells #[] 103 (0, 0))) (hgB : w0.heap.size ≤ g) (hS : St w0 g pk V w) :
    Calls Tryd.prog 55 #[.pointer (some ⟨gx, 0, none⟩), .slice A xs.length cc, .int .i64 ((xs.length : Int) - ys.length), .pointer (some ⟨g, 0, none⟩)] w fun e w' => GotPayl w0 g (pkOf pk 162 (sVal ci) (sVal cs) (sVal cx)) A xs vs w' e := by
  obtain ⟨A1, A2, c2, hcut, hC1, hE1, -, l1, -, -⟩ := tail_open xs ys body [] 162 A cc hcc hBy hle hd hI.ho
  obtain ⟨p, hp⟩ : ∃ p : Nat, p + ys.length = xs.length := ⟨xs.length - ys.length, by omega⟩
  have hpe : (xs.length : Int) - ys.length = p := by omega
  rw [hpe] at hcut ⊢
  have hrw := Kd.C_below hr hS.2.2
  obtain ⟨ad, rfl, kp⟩ := cell_at hrw p (by omega)
  have hk0 : rd xs p = 162 := by
    have h1 := sOpen_head hI.ho
    rw [← hd, show xs.length - ys.length = p by omega] at h1
    rw [← h1]
    unfold Go.Proofs.YtangjgclpipjdaaDoorW.PrintWords.rd
    simp [List.getD_eq_getElem?_getD, List.getElem?_drop]
  rw [hk0] at kp
  have d0 : ((xs.length : Int) == 0) = false := beq_eq_false_iff_ne.2 (by omega)
  have hplt : (p : Int) < xs.length := by omega
  have hgx1 := blk_below hgx hS.2.2
  have hpart := fun W => part_zero W gx
  have mixed : Tryd.prog.follows Departure.mixedOrders = true := by kernel_rfl
  have HH := Lib.hid (And.intro hS (And.intro hr (And.intro hT (And.intro hgx (And.intro hgB (And.intro hC1 hI))))))
  clear hS hr hT hgx hgB hC1 hE1 hI hd hk0 hrw
  go_enter Tryd.func55, Tryd.ntmps55
  go_wp2_with fail
  have bp := (Below.refl w.heap.size w).alloc (Nat.le_refl _) (.cells #[.iface 84 (.int .u8 162), .iface 3 (.int .i64 p)] 20)
  refine (printf_any _ _ _).mono ?_
  rintro e w2 ⟨rfl, hb2⟩
  have b2' := below_step bp hb2
  have H2 := Lib.hid (HH.out.1.step b2')
  have a2 : w2.cell? ⟨g, 2, none⟩ = some (.int .u8 pk.kind) := (blk_cell H2.out.1 2).trans rfl
  have fa2 := blk_frozen H2.out.1 2
  have H3 := Lib.hid (H2.out.set HH.out.2.2.2.2.1 2 (.int .u8 162) ⟨pk.ver, pk.com, 162, pk.id, pk.er, pk.ei, pk.nr, pk.mr⟩ rfl)
  clear bp hb2 b2' kp hgx1
  go_wp2_with fail
  generalize w2.setCell ⟨g, 2, none⟩ (.int .u8 162) = w3 at *
  clear a2 fa2
  refine (uresp_both HH.out.2.2.2.2.2.2 A1 (cc - (xs.length - ys.length)) HH.out.2.2.2.2.2.1.1 hBy (by omega) w0 w3 (HH.out.2.2.2.2.2.1.2 w0 HH.out.2.1) z HH.out.2.2.1 gx g _ V rfl HH.out.2.2.2.1 HH.out.2.2.2.2.1 H3.out).mono ?_
  rintro e w4 ⟨rfl, V', ps, r1, r2, r3, r4⟩
  have a12 : w4.cell? ⟨g, 12, none⟩ = some (.bool false) := (blk_cell r1 12).trans rfl
  have fa12 := blk_frozen r1 12
  have HR := Lib.hid (And.intro r1 (And.intro r2 (And.intro (PdusAre.cut HH.out.2.2.2.2.2.1 r3) r4)))
  clear r1 r2 r3 r4
  go_wp2
  go_ret
  have q1 := blk_put (cs' := #[.int .u8 pk.ver, .string pk.com, .int .u8 162, .int .u32 0, .int .u32 (pkOf pk 162 (sVal ci) (sVal cs) (sVal cx)).id, .int .u32 0, .int .u8 (pkOf pk 162 (sVal ci) (sVal cs) (sVal cx)).er, .int .u8 (pkOf pk 162 (sVal ci) (sVal cs) (sVal cx)).ei, .int .u8 (pkOf pk 162 (sVal ci) (sVal cs) (sVal cx)).nr, .int .u32 (pkOf pk 162 (sVal ci) (sVal cs) (sVal cx)).mr, V', .slice none 0 0, .bool false, .string ⟨#[]⟩, .string ⟨#[]⟩, .int .i64 0, .int .i64 0, .int .u64 0]) HR.out.1 12 (.bool false) rfl
  exact ⟨rfl, V', ps, false, q1, HR.out.2.1.move (fun k hk => Below.heap_setCell _ _ _ _ (by have := HR.out.2.1.block k hk; show k ≠ g; omega)), HR.out.2.2.1, below_set (j := 12) (v := .bool false) HR.out.2.2.2 HH.out.2.2.2.2.1⟩
set_option maxRecDepth 100000 in
set_option maxHeartbeats 4000000 in
theorem payl_163 (xs ys body ci b1 cs b2 cx b3 list : List Int) (vs : List VarP) (hI : RespIn ys body ci b1 cs b2 cx b3 list 163 vs) (A : Option Addr) (cc : Nat) (hcc : xs.length ≤ cc) (hB : IsB xs) (hBy : IsB ys) (hx : xs.length ≤ 20000) (hle : ys.length ≤ xs.length) (hd : xs.drop (xs.length - ys.length) = ys)
    (w0 w : World) (hr : Kd.C (Kd.int .u8) w0 A xs.length xs) (z : Addr) (hT : Tabs z w0) (gx g : Nat) (pk : PktT) (V : Value) (hgx : w0.heap[gx]? = some (.cells #[] 103 (0, 0))) (hgB : w0.heap.size ≤ g) (hS : St w0 g pk V w) :
    Calls Tryd.prog 55 #[.pointer (some ⟨gx, 0, none⟩), .slice A xs.length cc, .int .i64 ((xs.length : Int) - ys.length), .pointer (some ⟨g, 0, none⟩)] w fun e w' => GotPayl w0 g (pkOf pk 163 (sVal ci) (sVal cs) (sVal cx)) A xs vs w' e := by
  obtain ⟨A1, A2, c2, hcut, hC1, hE1, -, l1, -, -⟩ := tail_open xs ys body [] 163 A cc hcc hBy hle hd hI.ho
  obtain ⟨p, hp⟩ : ∃ p : Nat, p + ys.length = xs.length := ⟨xs.length - ys.length, by omega⟩
  have hpe : (xs.length : Int) - ys.length = p := by omega
  rw [hpe] at hcut ⊢
  have hrw := Kd.C_below hr hS.2.2
  obtain ⟨ad, rfl, kp⟩ := cell_at hrw p (by omega)
  have hk0 : rd xs p = 163 := by
    have h1 := sOpen_head hI.ho
    rw [← hd, show xs.length - ys.length = p by omega] at h1
    rw [← h1]
    unfold Go.Proofs.YtangjgclpipjdaaDoorW.PrintWords.rd
    simp [List.getD_eq_getElem?_getD, List.getElem?_drop]
  rw [hk0] at kp
  have d0 : ((xs.length : Int) == 0) = false := beq_eq_false_iff_ne.2 (by omega)
  have hplt : (p : Int) < xs.length := by omega
  have hgx1 := blk_below hgx hS.2.2
  have hpart := fun W => part_zero W gx
  have mixed : Tryd.prog.follows Departure.mixedOrders = true := by kernel_rfl
  have HH := Lib.hid (And.intro hS (And.intro hr (And.intro hT (And.intro hgx (And.intro hgB (And.intro hC1 hI))))))
  clear hS hr hT hgx hgB hC1 hE1 hI hd hk0 hrw
  go_enter Tryd.func55, Tryd.ntmps55
  go_wp2_with fail
  have bp := (Below.refl w.heap.size w).alloc (Nat.le_refl _) (.cells #[.iface 84 (.int .u8 163), .iface 3 (.int .i64 p)] 20)
  refine (printf_any _ _ _).mono ?_
  rintro e w2 ⟨rfl, hb2⟩
  have b2' := below_step bp hb2
  have H2 := Lib.hid (HH.out.1.step b2')
  have a2 : w2.cell? ⟨g, 2, none⟩ = some (.int .u8 pk.kind) := (blk_cell H2.out.1 2).trans rfl
  have fa2 := blk_frozen H2.out.1 2
  have H3 := Lib.hid (H2.out.set HH.out.2.2.2.2.1 2 (.int .u8 163) ⟨pk.ver, pk.com, 163, pk.id, pk.er, pk.ei, pk.nr, pk.mr⟩ rfl)
  clear bp hb2 b2' kp hgx1
  go_wp2_with fail
  generalize w2.setCell ⟨g, 2, none⟩ (.int .u8 163) = w3 at *
  clear a2 fa2
  refine (uresp_both HH.out.2.2.2.2.2.2 A1 (cc - (xs.length - ys.length)) HH.out.2.2.2.2.2.1.1 hBy (by omega) w0 w3 (HH.out.2.2.2.2.2.1.2 w0 HH.out.2.1) z HH.out.2.2.1 gx g _ V rfl HH.out.2.2.2.1 HH.out.2.2.2.2.1 H3.out).mono ?_
  rintro e w4 ⟨rfl, V', ps, r1, r2, r3, r4⟩
  have a12 : w4.cell? ⟨g, 12, none⟩ = some (.bool false) := (blk_cell r1 12).trans rfl
  have fa12 := blk_frozen r1 12
  have HR := Lib.hid (And.intro r1 (And.intro r2 (And.intro (PdusAre.cut HH.out.2.2.2.2.2.1 r3) r4)))
  clear r1 r2 r3 r4
  go_wp2
  go_ret
  have q1 := blk_put (cs' := #[.int .u8 pk.ver, .string pk.com, .int .u8 163, .int .u32 0, .int .u32 (pkOf pk 163 (sVal ci) (sVal cs) (sVal cx)).id, .int .u32 0, .int .u8 (pkOf pk 163 (sVal ci) (sVal cs) (sVal cx)).er, .int .u8 (pkOf pk 163 (sVal ci) (sVal cs) (sVal cx)).ei, .int .u8 (pkOf pk 163 (sVal ci) (sVal cs) (sVal cx)).nr, .int .u32 (pkOf pk 163 (sVal ci) (sVal cs) (sVal cx)).mr, V', .slice none 0 0, .bool false, .string ⟨#[]⟩, .string ⟨#[]⟩, .int .i64 0, .int .i64 0, .int .u64 0]) HR.out.1 12 (.bool false) rfl
  exact ⟨rfl, V', ps, false, q1, HR.out.2.1.move (fun k hk => Below.heap_setCell _ _ _ _ (by have := HR.out.2.1.block k hk; show k ≠ g; omega)), HR.out.2.2.1, below_set (j := 12) (v := .bool false) HR.out.2.2.2 HH.out.2.2.2.2.1⟩
set_option maxRecDepth 100000 in
set_option maxHeartbeats 4000000 in
theorem payl_165 (xs ys body ci b1 cs b2 cx b3 list : List Int) (vs : List VarP) (hI : RespIn ys body ci b1 cs b2 cx b3 list 165 vs) (A : Option Addr) (cc : Nat) (hcc : xs.length ≤ cc) (hB : IsB xs) (hBy : IsB ys) (hx : xs.length ≤ 20000) (hle : ys.length ≤ xs.length) (hd : xs.drop (xs.length - ys.length) = ys)
    (w0 w : World) (hr : Kd.C (Kd.int .u8) w0 A xs.length xs) (z : Addr) (hT : Tabs z w0) (gx g : Nat) (pk : PktT) (V : Value) (hgx : w0.heap[gx]? = some (.cells #[] 103 (0, 0))) (hgB : w0.heap.size ≤ g) (hS : St w0 g pk V w) :
    Calls Tryd.prog 55 #[.pointer (some ⟨gx, 0, none⟩), .slice A xs.length cc, .int .i64 ((xs.length : Int) - ys.length), .pointer (some ⟨g, 0, none⟩)] w fun e w' => GotPayl w0 g (pkOf pk 165 (sVal ci) (sVal cs) (sVal cx)) A xs vs w' e := by
  obtain ⟨A1, A2, c2, hcut, hC1, hE1, -, l1, -, -⟩ := tail_open xs ys body [] 165 A cc hcc hBy hle hd hI.ho
  obtain ⟨p, hp⟩ : ∃ p : Nat, p + ys.length = xs.length := ⟨xs.length - ys.length, by omega⟩
  have hpe : (xs.length : Int) - ys.length = p := by omega
  rw [hpe] at hcut ⊢
  have hrw := Kd.C_below hr hS.2.2
  obtain ⟨ad, rfl, kp⟩ := cell_at hrw p (by omega)
  have hk0 : rd xs p = 165 := by
    have h1 := sOpen_head hI.ho
    rw [← hd, show xs.length - ys.length = p by omega] at h1
    rw [← h1]
    unfold Go.Proofs.YtangjgclpipjdaaDoorW.PrintWords.rd
    simp [List.getD_eq_getElem?_getD, List.getElem?_drop]
  rw [hk0] at kp
  have d0 : ((xs.length : Int) == 0) = false := beq_eq_false_iff_ne.2 (by omega)
  have hplt : (p : Int) < xs.length := by omega
  have hgx1 := blk_below hgx hS.2.2
  have hpart := fun W => part_zero W gx
  have mixed : Tryd.prog.follows Departure.mixedOrders = true := by kernel_rfl
  have HH := Lib.hid (And.intro hS (And.intro hr (And.intro hT (And.intro hgx (And.intro hgB (And.intro hC1 hI))))))
  clear hS hr hT hgx hgB hC1 hE1 hI hd hk0 hrw
  go_enter Tryd.func55, Tryd.ntmps55
  go_wp2_with fail
  have bp := (Below.refl w.heap.size w).alloc (Nat.le_refl _) (.cells #[.iface 84 (.int .u8 165), .iface 3 (.int .i64 p)] 20)
  refine (printf_any _ _ _).mono ?_
  rintro e w2 ⟨rfl, hb2⟩
  have b2' := below_step bp hb2
  have H2 := Lib.hid (HH.out.1.step b2')
  have a2 : w2.cell? ⟨g, 2, none⟩ = some (.int .u8 pk.kind) := (blk_cell H2.out.1 2).trans rfl
  have fa2 := blk_frozen H2.out.1 2
  have H3 := Lib.hid (H2.out.set HH.out.2.2.2.2.1 2 (.int .u8 165) ⟨pk.ver, pk.com, 165, pk.id, pk.er, pk.ei, pk.nr, pk.mr⟩ rfl)
  clear bp hb2 b2' kp hgx1
  go_wp2_with fail
  generalize w2.setCell ⟨g, 2, none⟩ (.int .u8 165) = w3 at *
  clear a2 fa2
  refine (uresp_both HH.out.2.2.2.2.2.2 A1 (cc - (xs.length - ys.length)) HH.out.2.2.2.2.2.1.1 hBy (by omega) w0 w3 (HH.out.2.2.2.2.2.1.2 w0 HH.out.2.1) z HH.out.2.2.1 gx g _ V rfl HH.out.2.2.2.1 HH.out.2.2.2.2.1 H3.out).mono ?_
  rintro e w4 ⟨rfl, V', ps, r1, r2, r3, r4⟩
  have a12 : w4.cell? ⟨g, 12, none⟩ = some (.bool false) := (blk_cell r1 12).trans rfl
  have fa12 := blk_frozen r1 12
  have HR := Lib.hid (And.intro r1 (And.intro r2 (And.intro (PdusAre.cut HH.out.2.2.2.2.2.1 r3) r4)))
  clear r1 r2 r3 r4
  go_wp2
  go_ret
  have q1 := blk_put (cs' := #[.int .u8 pk.ver, .string pk.com, .int .u8 165, .int .u32 0, .int .u32 (pkOf pk 165 (sVal ci) (sVal cs) (sVal cx)).id, .int .u32 0, .int .u8 (pkOf pk 165 (sVal ci) (sVal cs) (sVal cx)).er, .int .u8 (pkOf pk 165 (sVal ci) (sVal cs) (sVal cx)).ei, .int .u8 (pkOf pk 165 (sVal ci) (sVal cs) (sVal cx)).nr, .int .u32 (pkOf pk 165 (sVal ci) (sVal cs) (sVal cx)).mr, V', .slice none 0 0, .bool false, .string ⟨#[]⟩, .string ⟨#[]⟩, .int .i64 0, .int .i64 0, .int .u64 0]) HR.out.1 12 (.bool false) rfl
  exact ⟨rfl, V', ps, false, q1, HR.out.2.1.move (fun k hk => Below.heap_setCell _ _ _ _ (by have := HR.out.2.1.block k hk; show k ≠ g; omega)), HR.out.2.2.1, below_set (j := 12) (v := .bool false) HR.out.2.2.2 HH.out.2.2.2.2.1⟩
set_option maxRecDepth 100000 in
set_option maxHeartbeats 4000000 in
theorem payl_166 (xs ys body ci b1 cs b2 cx b3 list : List Int) (vs : List VarP) (hI : RespIn ys body ci b1 cs b2 cx b3 list 166 vs) (A : Option Addr) (cc : Nat) (hcc : xs.length ≤ cc) (hB : IsB xs) (hBy : IsB ys) (hx : xs.length ≤ 20000) (hle : ys.length ≤ xs.length) (hd : xs.drop (xs.length - ys.length) = ys)
    (w0 w : World) (hr : Kd.C (Kd.int .u8) w0 A xs.length xs) (z : Addr) (hT : Tabs z w0) (gx g : Nat) (pk : PktT) (V : Value) (hgx : w0.heap[gx]? = some (.cells #[] 103 (0, 0))) (hgB : w0.heap.size ≤ g) (hS : St w0 g pk V w) :
    Calls Tryd.prog 55 #[.pointer (some ⟨gx, 0, none⟩), .slice A xs.length cc, .int .i64 ((xs.length : Int) - ys.length), .pointer (some ⟨g, 0, none⟩)] w fun e w' => GotPayl w0 g (pkOf pk 166 (sVal ci) (sVal cs) (sVal cx)) A xs vs w' e := by
  obtain ⟨A1, A2, c2, hcut, hC1, hE1, -, l1, -, -⟩ := tail_open xs ys body [] 166 A cc hcc hBy hle hd hI.ho
  obtain ⟨p, hp⟩ : ∃ p : Nat, p + ys.length = xs.length := ⟨xs.length - ys.length, by omega⟩
  have hpe : (xs.length : Int) - ys.length = p := by omega
  rw [hpe] at hcut ⊢
  have hrw := Kd.C_below hr hS.2.2
  obtain ⟨ad, rfl, kp⟩ := cell_at hrw p (by omega)
  have hk0 : rd xs p = 166 := by
    have h1 := sOpen_head hI.ho
    rw [← hd, show xs.length - ys.length = p by omega] at h1
    rw [← h1]
    unfold Go.Proofs.YtangjgclpipjdaaDoorW.PrintWords.rd
    simp [List.getD_eq_getElem?_getD, List.getElem?_drop]
  rw [hk0] at kp
  have d0 : ((xs.length : Int) == 0) = false := beq_eq_false_iff_ne.2 (by omega)
  have hplt : (p : Int) < xs.length := by omega
  have hgx1 := blk_below hgx hS.2.2
  have hpart := fun W => part_zero W gx
  have mixed : Tryd.prog.follows Departure.mixedOrders = true := by kernel_rfl
  have HH := Lib.hid (And.intro hS (And.intro hr (And.intro hT (And.intro hgx (And.intro hgB (And.intro hC1 hI))))))
  clear hS hr hT hgx hgB hC1 hE1 hI hd hk0 hrw
  go_enter Tryd.func55, Tryd.ntmps55
  go_wp2_with fail
  have bp := (Below.refl w.heap.size w).alloc (Nat.le_refl _) (.cells #[.iface 84 (.int .u8 166), .iface 3 (.int .i64 p)] 20)
  refine (printf_any _ _ _).mono ?_
  rintro e w2 ⟨rfl, hb2⟩
  have b2' := below_step bp hb2
  have H2 := Lib.hid (HH.out.1.step b2')
  have a2 : w2.cell? ⟨g, 2, none⟩ = some (.int .u8 pk.kind) := (blk_cell H2.out.1 2).trans rfl
  have fa2 := blk_frozen H2.out.1 2
  have H3 := Lib.hid (H2.out.set HH.out.2.2.2.2.1 2 (.int .u8 166) ⟨pk.ver, pk.com, 166, pk.id, pk.er, pk.ei, pk.nr, pk.mr⟩ rfl)
  clear bp hb2 b2' kp hgx1
  go_wp2_with fail
  generalize w2.setCell ⟨g, 2, none⟩ (.int .u8 166) = w3 at *
  clear a2 fa2
  refine (uresp_both HH.out.2.2.2.2.2.2 A1 (cc - (xs.length - ys.length)) HH.out.2.2.2.2.2.1.1 hBy (by omega) w0 w3 (HH.out.2.2.2.2.2.1.2 w0 HH.out.2.1) z HH.out.2.2.1 gx g _ V rfl HH.out.2.2.2.1 HH.out.2.2.2.2.1 H3.out).mono ?_
  rintro e w4 ⟨rfl, V', ps, r1, r2, r3, r4⟩
  have a12 : w4.cell? ⟨g, 12, none⟩ = some (.bool false) := (blk_cell r1 12).trans rfl
  have fa12 := blk_frozen r1 12
  have HR := Lib.hid (And.intro r1 (And.intro r2 (And.intro (PdusAre.cut HH.out.2.2.2.2.2.1 r3) r4)))
  clear r1 r2 r3 r4
  go_wp2
  go_ret
  have q1 := blk_put (cs' := #[.int .u8 pk.ver, .string pk.com, .int .u8 166, .int .u32 0, .int .u32 (pkOf pk 166 (sVal ci) (sVal cs) (sVal cx)).id, .int .u32 0, .int .u8 (pkOf pk 166 (sVal ci) (sVal cs) (sVal cx)).er, .int .u8 (pkOf pk 166 (sVal ci) (sVal cs) (sVal cx)).ei, .int .u8 (pkOf pk 166 (sVal ci) (sVal cs) (sVal cx)).nr, .int .u32 (pkOf pk 166 (sVal ci) (sVal cs) (sVal cx)).mr, V', .slice none 0 0, .bool true, .string ⟨#[]⟩, .string ⟨#[]⟩, .int .i64 0, .int .i64 0, .int .u64 0]) HR.out.1 12 (.bool true) rfl
  exact ⟨rfl, V', ps, true, q1, HR.out.2.1.move (fun k hk => Below.heap_setCell _ _ _ _ (by have := HR.out.2.1.block k hk; show k ≠ g; omega)), HR.out.2.2.1, below_set (j := 12) (v := .bool true) HR.out.2.2.2 HH.out.2.2.2.2.1⟩
set_option maxRecDepth 100000 in
set_option maxHeartbeats 4000000 in
theorem payl_167 (xs ys body ci b1 cs b2 cx b3 list : List Int) (vs : List VarP) (hI : RespIn ys body ci b1 cs b2 cx b3 list 167 vs) (A : Option Addr) (cc : Nat) (hcc : xs.length ≤ cc) (hB : IsB xs) (hBy : IsB ys) (hx : xs.length ≤ 20000) (hle : ys.length ≤ xs.length) (hd : xs.drop (xs.length - ys.length) = ys)
    (w0 w : World) (hr : Kd.C (Kd.int .u8) w0 A xs.length xs) (z : Addr) (hT : Tabs z w0) (gx g : Nat) (pk : PktT) (V : Value) (hgx : w0.heap[gx]? = some (.cells #[] 103 (0, 0))) (hgB : w0.heap.size ≤ g) (hS : St w0 g pk V w) :
    Calls Tryd.prog 55 #[.pointer (some ⟨gx, 0, none⟩), .slice A xs.length cc, .int .i64 ((xs.length : Int) - ys.length), .pointer (some ⟨g, 0, none⟩)] w fun e w' => GotPayl w0 g (pkOf pk 167 (sVal ci) (sVal cs) (sVal cx)) A xs vs w' e := by
  obtain ⟨A1, A2, c2, hcut, hC1, hE1, -, l1, -, -⟩ := tail_open xs ys body [] 167 A cc hcc hBy hle hd hI.ho
  obtain ⟨p, hp⟩ : ∃ p : Nat, p + ys.length = xs.length := ⟨xs.length - ys.length, by omega⟩
  have hpe : (xs.length : Int) - ys.length = p := by omega
  rw [hpe] at hcut ⊢
  have hrw := Kd.C_below hr hS.2.2
  obtain ⟨ad, rfl, kp⟩ := cell_at hrw p (by omega)
  have hk0 : rd xs p = 167 := by
    have h1 := sOpen_head hI.ho
    rw [← hd, show xs.length - ys.length = p by omega] at h1
    rw [← h1]
    unfold Go.Proofs.YtangjgclpipjdaaDoorW.PrintWords.rd
    simp [List.getD_eq_getElem?_getD, List.getElem?_drop]
  rw [hk0] at kp
  have d0 : ((xs.length : Int) == 0) = false := beq_eq_false_iff_ne.2 (by omega)
  have hplt : (p : Int) < xs.length := by omega
  have hgx1 := blk_below hgx hS.2.2
  have hpart := fun W => part_zero W gx
  have mixed : Tryd.prog.follows Departure.mixedOrders = true := by kernel_rfl
  have HH := Lib.hid (And.intro hS (And.intro hr (And.intro hT (And.intro hgx (And.intro hgB (And.intro hC1 hI))))))
  clear hS hr hT hgx hgB hC1 hE1 hI hd hk0 hrw
  go_enter Tryd.func55, Tryd.ntmps55
  go_wp2_with fail
  have bp := (Below.refl w.heap.size w).alloc (Nat.le_refl _) (.cells #[.iface 84 (.int .u8 167), .iface 3 (.int .i64 p)] 20)
  refine (printf_any _ _ _).mono ?_
  rintro e w2 ⟨rfl, hb2⟩
  have b2' := below_step bp hb2
  have H2 := Lib.hid (HH.out.1.step b2')
  have a2 : w2.cell? ⟨g, 2, none⟩ = some (.int .u8 pk.kind) := (blk_cell H2.out.1 2).trans rfl
  have fa2 := blk_frozen H2.out.1 2
  have H3 := Lib.hid (H2.out.set HH.out.2.2.2.2.1 2 (.int .u8 167) ⟨pk.ver, pk.com, 167, pk.id, pk.er, pk.ei, pk.nr, pk.mr⟩ rfl)
  clear bp hb2 b2' kp hgx1
  go_wp2_with fail
  generalize w2.setCell ⟨g, 2, none⟩ (.int .u8 167) = w3 at *
  clear a2 fa2
  refine (uresp_both HH.out.2.2.2.2.2.2 A1 (cc - (xs.length - ys.length)) HH.out.2.2.2.2.2.1.1 hBy (by omega) w0 w3 (HH.out.2.2.2.2.2.1.2 w0 HH.out.2.1) z HH.out.2.2.1 gx g _ V rfl HH.out.2.2.2.1 HH.out.2.2.2.2.1 H3.out).mono ?_
  rintro e w4 ⟨rfl, V', ps, r1, r2, r3, r4⟩
  have a12 : w4.cell? ⟨g, 12, none⟩ = some (.bool false) := (blk_cell r1 12).trans rfl
  have fa12 := blk_frozen r1 12
  have HR := Lib.hid (And.intro r1 (And.intro r2 (And.intro (PdusAre.cut HH.out.2.2.2.2.2.1 r3) r4)))
  clear r1 r2 r3 r4
  go_wp2
  go_ret
  have q1 := blk_put (cs' := #[.int .u8 pk.ver, .string pk.com, .int .u8 167, .int .u32 0, .int .u32 (pkOf pk 167 (sVal ci) (sVal cs) (sVal cx)).id, .int .u32 0, .int .u8 (pkOf pk 167 (sVal ci) (sVal cs) (sVal cx)).er, .int .u8 (pkOf pk 167 (sVal ci) (sVal cs) (sVal cx)).ei, .int .u8 (pkOf pk 167 (sVal ci) (sVal cs) (sVal cx)).nr, .int .u32 (pkOf pk 167 (sVal ci) (sVal cs) (sVal cx)).mr, V', .slice none 0 0, .bool false, .string ⟨#[]⟩, .string ⟨#[]⟩, .int .i64 0, .int .i64 0, .int .u64 0]) HR.out.1 12 (.bool false) rfl
  exact ⟨rfl, V', ps, false, q1, HR.out.2.1.move (fun k hk => Below.heap_setCell _ _ _ _ (by have := HR.out.2.1.block k hk; show k ≠ g; omega)), HR.out.2.2.1, below_set (j := 12) (v := .bool false) HR.out.2.2.2 HH.out.2.2.2.2.1⟩
set_option maxRecDepth 100000 in
set_option maxHeartbeats 4000000 in
theorem payl_168 (xs ys body ci b1 cs b2 cx b3 list : List Int) (vs : List VarP) (hI : RespIn ys body ci b1 cs b2 cx b3 list 168 vs) (A : Option Addr) (cc : Nat) (hcc : xs.length ≤ cc) (hB : IsB xs) (hBy : IsB ys) (hx : xs.length ≤ 20000) (hle : ys.length ≤ xs.length) (hd : xs.drop (xs.length - ys.length) = ys)
    (w0 w : World) (hr : Kd.C (Kd.int .u8) w0 A xs.length xs) (z : Addr) (hT : Tabs z w0) (gx g : Nat) (pk : PktT) (V : Value) (hgx : w0.heap[gx]? = some (.cells #[] 103 (0, 0))) (hgB : w0.heap.size ≤ g) (hS : St w0 g pk V w) :
    Calls Tryd.prog 55 #[.pointer (some ⟨gx, 0, none⟩), .slice A xs.length cc, .int .i64 ((xs.length : Int) - ys.length), .pointer (some ⟨g, 0, none⟩)] w fun e w' => GotPayl w0 g (pkOf pk 168 (sVal ci) (sVal cs) (sVal cx)) A xs vs w' e := by
  obtain ⟨A1, A2, c2, hcut, hC1, hE1, -, l1, -, -⟩ := tail_open xs ys body [] 168 A cc hcc hBy hle hd hI.ho
  obtain ⟨p, hp⟩ : ∃ p : Nat, p + ys.length = xs.length := ⟨xs.length - ys.length, by omega⟩
  have hpe : (xs.length : Int) - ys.length = p := by omega
  rw [hpe] at hcut ⊢
  have hrw := Kd.C_below hr hS.2.2
  obtain ⟨ad, rfl, kp⟩ := cell_at hrw p (by omega)
  have hk0 : rd xs p = 168 := by
    have h1 := sOpen_head hI.ho
    rw [← hd, show xs.length - ys.length = p by omega] at h1
    rw [← h1]
    unfold Go.Proofs.YtangjgclpipjdaaDoorW.PrintWords.rd
    simp [List.getD_eq_getElem?_getD, List.getElem?_drop]
  rw [hk0] at kp
  have d0 : ((xs.length : Int) == 0) = false := beq_eq_false_iff_ne.2 (by omega)
  have hplt : (p : Int) < xs.length := by omega
  have hgx1 := blk_below hgx hS.2.2
  have hpart := fun W => part_zero W gx
  have mixed : Tryd.prog.follows Departure.mixedOrders = true := by kernel_rfl
  have HH := Lib.hid (And.intro hS (And.intro hr (And.intro hT (And.intro hgx (And.intro hgB (And.intro hC1 hI))))))
  clear hS hr hT hgx hgB hC1 hE1 hI hd hk0 hrw
  go_enter Tryd.func55, Tryd.ntmps55
  go_wp2_with fail
  have bp := (Below.refl w.heap.size w).alloc (Nat.le_refl _) (.cells #[.iface 84 (.int .u8 168), .iface 3 (.int .i64 p)] 20)
  refine (printf_any _ _ _).mono ?_
  rintro e w2 ⟨rfl, hb2⟩
  have b2' := below_step bp hb2
  have H2 := Lib.hid (HH.out.1.step b2')
  have a2 : w2.cell? ⟨g, 2, none⟩ = some (.int .u8 pk.kind) := (blk_cell H2.out.1 2).trans rfl
  have fa2 := blk_frozen H2.out.1 2
  have H3 := Lib.hid (H2.out.set HH.out.2.2.2.2.1 2 (.int .u8 168) ⟨pk.ver, pk.com, 168, pk.id, pk.er, pk.ei, pk.nr, pk.mr⟩ rfl)
  clear bp hb2 b2' kp hgx1
  go_wp2_with fail
  generalize w2.setCell ⟨g, 2, none⟩ (.int .u8 168) = w3 at *
  clear a2 fa2
  refine (uresp_both HH.out.2.2.2.2.2.2 A1 (cc - (xs.length - ys.length)) HH.out.2.2.2.2.2.1.1 hBy (by omega) w0 w3 (HH.out.2.2.2.2.2.1.2 w0 HH.out.2.1) z HH.out.2.2.1 gx g _ V rfl HH.out.2.2.2.1 HH.out.2.2.2.2.1 H3.out).mono ?_
  rintro e w4 ⟨rfl, V', ps, r1, r2, r3, r4⟩
  have a12 : w4.cell? ⟨g, 12, none⟩ = some (.bool false) := (blk_cell r1 12).trans rfl
  have fa12 := blk_frozen r1 12
  have HR := Lib.hid (And.intro r1 (And.intro r2 (And.intro (PdusAre.cut HH.out.2.2.2.2.2.1 r3) r4)))
  clear r1 r2 r3 r4
  go_wp2
  go_ret
  have q1 := blk_put (cs' := #[.int .u8 pk.ver, .string pk.com, .int .u8 168, .int .u32 0, .int .u32 (pkOf pk 168 (sVal ci) (sVal cs) (sVal cx)).id, .int .u32 0, .int .u8 (pkOf pk 168 (sVal ci) (sVal cs) (sVal cx)).er, .int .u8 (pkOf pk 168 (sVal ci) (sVal cs) (sVal cx)).ei, .int .u8 (pkOf pk 168 (sVal ci) (sVal cs) (sVal cx)).nr, .int .u32 (pkOf pk 168 (sVal ci) (sVal cs) (sVal cx)).mr, V', .slice none 0 0, .bool false, .string ⟨#[]⟩, .string ⟨#[]⟩, .int .i64 0, .int .i64 0, .int .u64 0]) HR.out.1 12 (.bool false) rfl
  exact ⟨rfl, V', ps, false, q1, HR.out.2.1.move (fun k hk => Below.heap_setCell _ _ _ _ (by have := HR.out.2.1.block k hk; show k ≠ g; omega)), HR.out.2.2.1, below_set (j := 12) (v := .bool false) HR.out.2.2.2 HH.out.2.2.2.2.1⟩
end Go.Proofs.YtangjgclpipjdaaDoor
set_option linter.unusedVariables false
namespace Go.Proofs.YtangjgclpipjdaaDoor
open Go.RowKit Go.Proofs.YtangjgclpipjdaaDoorW.PrintWords Go.Proofs.YtangjgclpipjdaaDoorW.PrintLast Go.Proofs.YtangjgclpipjdaaDoorW.PrintMore
abbrev zeroPk : PktT := ⟨0, ⟨#[]⟩, 0, 0, 0, 0, 0, 0⟩
/-- The package's message that is told. -/
def pkP (p : MsgP) : PktT := pkOf (zeroPk.hdr p.ver (strOfNums p.com)) p.kind p.id p.st p.ix
theorem payl_any (xs ys body ci b1 cs b2 cx b3 list : List Int) (kind : Int) (hk : kind = 160 ∨ kind = 161 ∨ kind = 162 ∨ kind = 163 ∨ kind = 165 ∨ kind = 166 ∨ kind = 167 ∨ kind = 168) (vs : List VarP) (hI : RespIn ys body ci b1 cs b2 cx b3 list kind vs) (A : Option Addr) (cc : Nat) (hcc : xs.length ≤ cc) (hB : IsB xs) (hBy : IsB ys) (hx : xs.length ≤ 20000) (hle : ys.length ≤ xs.length) (hd : xs.drop (xs.length - ys.length) = ys)
    (w0 w : World) (hr : Kd.C (Kd.int .u8) w0 A xs.length xs) (z : Addr) (hT : Tabs z w0) (gx g : Nat) (pk : PktT) (V : Value) (hgx : w0.heap[gx]? = some (.cells #[] 103 (0, 0))) (hgB : w0.heap.size ≤ g) (hS : St w0 g pk V w) :
    Calls Tryd.prog 55 #[.pointer (some ⟨gx, 0, none⟩), .slice A xs.length cc, .int .i64 ((xs.length : Int) - ys.length), .pointer (some ⟨g, 0, none⟩)] w fun e w' => GotPayl w0 g (pkOf pk kind (sVal ci) (sVal cs) (sVal cx)) A xs vs w' e := by
  rcases hk with rfl | rfl | rfl | rfl | rfl | rfl | rfl | rfl
  · exact payl_160 xs ys body ci b1 cs b2 cx b3 list vs hI A cc hcc hB hBy hx hle hd w0 w hr z hT gx g pk V hgx hgB hS
  · exact payl_161 xs ys body ci b1 cs b2 cx b3 list vs hI A cc hcc hB hBy hx hle hd w0 w hr z hT gx g pk V hgx hgB hS
  · exact payl_162 xs ys body ci b1 cs b2 cx b3 list vs hI A cc hcc hB hBy hx hle hd w0 w hr z hT gx g pk V hgx hgB hS
  · exact payl_163 xs ys body ci b1 cs b2 cx b3 list vs hI A cc hcc hB hBy hx hle hd w0 w hr z hT gx g pk V hgx hgB hS
  · exact payl_165 xs ys body ci b1 cs b2 cx b3 list vs hI A cc hcc hB hBy hx hle hd w0 w hr z hT gx g pk V hgx hgB hS
  · exact payl_166 xs ys body ci b1 cs b2 cx b3 list vs hI A cc hcc hB hBy hx hle hd w0 w hr z hT gx g pk V hgx hgB hS
  · exact payl_167 xs ys body ci b1 cs b2 cx b3 list vs hI A cc hcc hB hBy hx hle hd w0 w hr z hT gx g pk V hgx hgB hS
  · exact payl_168 xs ys body ci b1 cs b2 cx b3 list vs hI A cc hcc hB hBy hx hle hd w0 w hr z hT gx g pk V hgx hgB hS
/-- What is asked of a message that is decoded. -/
structure DecIn (p : MsgP) : Prop where
  v0 : 0 ≤ p.ver
  v1 : p.ver ≤ 1
  k0 : 160 ≤ p.kind
  k1 : p.kind ≤ 168
  k4 : p.kind ≠ 164
  s0 : 0 ≤ p.st
  s1 : p.st ≤ 127
  x0 : 0 ≤ p.ix
  x1 : p.ix ≤ 127
  h67 : ∀ v ∈ p.vars, v.2.1 = 67 → v.2.2.2.1 ≤ 4294967295
def GotPkt (w : World) (p : MsgP) (A : Option Addr) (xs : List Int) (w' : World) (e : Ending) : Prop :=
  e = .returned (.tuple #[.pointer (some ⟨w.heap.size, 0, none⟩), .nilIface]) ∧ ∃ V' ps b, w'.heap[w.heap.size]? = some (pktO2 (pkP p) V' b) ∧ OwnP w' (w.heap.size + 1) V' ps ∧ PdusAre A xs p.vars ps ∧ Below w.heap.size w w'
set_option maxRecDepth 100000 in
theorem part_pkt (W : World) (g : Nat) (pk : PktT) (V : Value) (h : W.heap[g]? = some (pktO pk V)) : (partAt ⟨g, 0, none⟩ 11 72).run Tryd.prog W = .ok ⟨g, 11, none⟩ W := by
  have hc : Tryd.prog.cellsOf 92 = 18 := by kernel_rfl
  have h0 : byteOfCell Tryd.prog Tryd.prog.depth 92 0 = some 0 := by kernel_rfl
  have h1 : byteOfCell Tryd.prog Tryd.prog.depth 92 11 = some 72 := by kernel_rfl
  simp [partAt, byteOf, noView, viewAt, World.shape?, h, hc, h0, h1, Result.andThen]
set_option maxRecDepth 100000 in
set_option maxHeartbeats 4000000 in
theorem packet_any (xs : List Int) (p : MsgP) (hm : sMsg xs = some p) (hI : DecIn p) (A : Option Addr) (cc : Nat) (hcc : xs.length ≤ cc) (hB : IsB xs) (hx : xs.length ≤ 20000) (w : World) (hr : Kd.C (Kd.int .u8) w A xs.length xs) (z : Addr) (hT : Tabs z w) (gx : Nat) (hgx : w.heap[gx]? = some (.cells #[] 103 (0, 0))) :
    Calls Tryd.prog 44 #[.pointer (some ⟨gx, 0, none⟩), .slice A xs.length cc] w fun e w' => GotPkt w p A xs w' e := by
  obtain ⟨inn, cv, in1, in2, body, ci, b1, cs, b2, cx, b3, list, hp⟩ := sMsg_parts hm
  have ho := sNext_open hp.n1
  have hv := sNext_open hp.n2
  have hcm := sNext_open hp.n3
  have hBi := sOpen_isB hB ho
  have hBv := sOpen_isB hBi.1 hv
  have hBc := sOpen_isB hBv.2.1 hcm
  have l1 := (sOpen_ends hB ho).2.2
  have l2 := (sOpen_ends hBi.1 hv).2.2
  have l3 := (sOpen_ends hBv.2.1 hcm).2.2
  have hD2 : xs.drop (xs.length - in2.length) = in2 := by
    have e1 := sOpen_all hB ho
    have e2 := (sOpen_ends hBi.1 hv).1
    have e3 := (sOpen_ends hBv.2.1 hcm).1
    rw [← e3, ← e2, ← e1, List.drop_drop, List.drop_drop]
    congr 1
    simp
    omega
  have hRI : RespIn in2 body ci b1 cs b2 cx b3 list p.kind p.vars := ⟨hp.n4, sNext_open hp.n5, sNext_open hp.n6, sNext_open hp.n7, sNext_open hp.n8, hp.l5, hp.l6, hp.l7, by rw [← hp.v5]; exact hp.i0, by rw [← hp.v5]; have := hp.i1; omega, by rw [← hp.v6]; exact hI.s0, by rw [← hp.v6]; exact hI.s1, by rw [← hp.v7]; exact hI.x0, by rw [← hp.v7]; exact hI.x1, hp.vs, hI.h67⟩
  have hkk : p.kind = 160 ∨ p.kind = 161 ∨ p.kind = 162 ∨ p.kind = 163 ∨ p.kind = 165 ∨ p.kind = 166 ∨ p.kind = 167 ∨ p.kind = 168 := by
    have := hI.k0
    have := hI.k1
    have := hI.k4
    omega
  have HA := Lib.hid (And.intro hr (And.intro hT (And.intro hgx (And.intro hRI (And.intro hp hkk)))))
  have b0 := (Below.refl w.heap.size w).alloc (Nat.le_refl _) (pktO zeroPk (.slice none 0 0))
  have hg0 := blk_new w (pktO zeroPk (.slice none 0 0))
  have hgx1 := blk_alloc hgx (pktO zeroPk (.slice none 0 0))
  have hpart := fun W => part_zero W gx
  have hpp := part_pkt _ _ _ _ hg0
  clear hr hT hgx hRI hkk hp
  go_enter Tryd.func44, Tryd.ntmps44
  go_wp2_with fail
  have HG := Lib.hid (And.intro hg0 b0)
  clear hpp
  refine (header_any xs inn cv in1 p.com in2 A cc hcc hB ho hv HA.out.2.2.2.2.1.l2.1 HA.out.2.2.2.2.1.l2.2 (by rw [← HA.out.2.2.2.2.1.v2]; exact hI.v0) (by rw [← HA.out.2.2.2.2.1.v2]; exact hI.v1) hcm (by omega) _ (Kd.C_below HA.out.1 b0) gx w.heap.size zeroPk _ hgx1 hg0 (fun ad e => by
    subst e
    obtain ⟨ad', e', hk⟩ := cell_at HA.out.1 0 (by omega)
    obtain rfl : ad = ad' := by injection e'
    have := World.block_lt_of_cell? _ _ hk
    rw [Addr.add_zero'] at this
    omega)).mono ?_
  rintro e w2 ⟨rfl, V2, hg2, hown2, hk2⟩
  have hS2 : St w w.heap.size (zeroPk.hdr (sVal cv) (strOfNums p.com)) V2 w2 := ⟨hg2, Kd.R_lower hown2 (by simp), b0.grown hk2 (by simp) (fun k hk => by injection hk with hk; omega)⟩
  have H2 := Lib.hid hS2
  clear hg0 hgx1 b0 hg2 hown2 hk2 hS2
  go_wp2_with fail
  refine (payl_any xs in2 body ci b1 cs b2 cx b3 list p.kind HA.out.2.2.2.2.2 p.vars HA.out.2.2.2.1 A cc hcc hB hBc.2.1 hx (by omega) hD2 w w2 HA.out.1 z HA.out.2.1 gx w.heap.size _ V2 HA.out.2.2.1 (Nat.le_refl _) H2.out).mono ?_
  rintro e w3 ⟨rfl, V', ps, b, r1, r2, r3, r4⟩
  have hpk : pkOf (zeroPk.hdr (sVal cv) (strOfNums p.com)) p.kind (sVal ci) (sVal cs) (sVal cx) = pkP p := by
    unfold pkP
    rw [HA.out.2.2.2.2.1.v2, HA.out.2.2.2.2.1.v5, HA.out.2.2.2.2.1.v6, HA.out.2.2.2.2.1.v7]
  rw [hpk] at r1
  have HR := Lib.hid (And.intro r1 (And.intro r2 (And.intro r3 r4)))
  clear r1 r2 r3 r4 hpk
  go_wp2
  go_ret2
  exact ⟨rfl, V', ps, b, HR.out.1, HR.out.2.1, HR.out.2.2.1, HR.out.2.2.2⟩
end Go.Proofs.YtangjgclpipjdaaDoor
set_option linter.unusedVariables false
namespace Go.Proofs.YtangjgclpipjdaaDoor
open Go.RowKit Go.Proofs.YtangjgclpipjdaaDoorW.PrintWords Go.Proofs.YtangjgclpipjdaaDoorW.PrintLast Go.Proofs.YtangjgclpipjdaaDoorW.PrintMore
theorem SW.inv {d : Nat} {y : List Int} (h : SW d y) (h0 : y.length ≠ 0) : ∃ d' c rest t, d = d' + 1 ∧ sOpen y = some (t, c, rest) ∧ (special t → SW d' c) ∧ SW (d' + 1) rest := by
  cases h with
  | nil => simp at h0
  | cons d' _ c rest t ho hs hr => exact ⟨d', c, rest, t, rfl, ho, hs, hr⟩
/-- What stands in the bytes of a short element. -/
theorem sOpen_short {y c rest : List Int} {t : Int} (hB : IsB y) (ho : sOpen y = some (t, c, rest)) (h : rd y 1 ≤ 127) : ∃ n : Nat, rd y 1 = n ∧ n + 2 ≤ y.length ∧ c = (y.take (n + 2)).drop 2 ∧ rest = y.drop (n + 2) ∧ 2 ≤ y.length ∧ rd y 0 = t := by
  have h1 := hB.rd 1
  have hp : pLen y = (rd y 1 + 2, 2) := if_pos h
  obtain ⟨n, hn⟩ : ∃ n : Nat, rd y 1 = n := ⟨(rd y 1).toNat, by omega⟩
  have hh := sOpen_head ho
  unfold sOpen at ho
  split at ho
  case isFalse => simp at ho
  rename_i hok
  simp only [Option.some.injEq, Prod.mk.injEq] at ho
  obtain ⟨-, h2, h3⟩ := ho
  have h5 := hok.2.2.2.2
  rw [hp] at h2 h3 h5
  simp only at h2 h3 h5
  rw [hn] at h2 h3 h5
  rw [show ((n : Int) + 2).toNat = n + 2 by omega] at h2 h3
  exact ⟨n, hn, by omega, h2.symm, h3.symm, hok.1, hh⟩
theorem sOpen_long {y c rest : List Int} {t : Int} (hB : IsB y) (ho : sOpen y = some (t, c, rest)) (h : 128 ≤ rd y 1) : ∃ k n : Nat, rd y 1 = 128 + k ∧ 1 ≤ k ∧ k ≤ 4 ∧ 2 + k ≤ y.length ∧ beVal ((y.drop 2).take k) 0 = n ∧ n + 2 + k ≤ y.length ∧ c = (y.take (n + 2 + k)).drop (2 + k) ∧ rest = y.drop (n + 2 + k) ∧ rd y 0 = t := by
  have h1 := hB.rd 1
  obtain ⟨k, hk⟩ : ∃ k : Nat, rd y 1 = 128 + k := ⟨(rd y 1 - 128).toNat, by omega⟩
  have hp : pLen y = (beVal ((y.drop 2).take (rd y 1 - 128).toNat) 0 + 2 + (rd y 1 - 128), 2 + (rd y 1 - 128)) := if_neg (by omega)
  rw [show (rd y 1 - 128) = (k : Int) by omega, Int.toNat_natCast] at hp
  have hh := sOpen_head ho
  unfold sOpen at ho
  split at ho
  case isFalse => simp at ho
  rename_i hok
  simp only [Option.some.injEq, Prod.mk.injEq] at ho
  obtain ⟨-, h2, h3⟩ := ho
  obtain ⟨a1, a2, a3, a4, a5⟩ := hok
  have a4' := a4 (by omega)
  have hb := (beVal_bound ((y.drop 2).take k) (isB_take (isB_drop hB 2) _) 0 (Int.le_refl 0)).1
  obtain ⟨n, hn⟩ : ∃ n : Nat, beVal ((y.drop 2).take k) 0 = n := ⟨(beVal ((y.drop 2).take k) 0).toNat, by omega⟩
  rw [hp] at h2 h3 a5
  simp only at h2 h3 a5
  rw [hn] at h2 h3 a5
  rw [show ((n : Int) + 2 + k).toNat = n + 2 + k by omega] at h2 h3
  rw [show (2 + (k : Int)).toNat = 2 + k by omega] at h2
  exact ⟨k, n, hk, by omega, by omega, by omega, hn, by omega, h2.symm, h3.symm, hh⟩
/-- impl.whole at bytes that are elements, at most so deep. -/
def WholeAt (d : Nat) : Prop := ∀ (xs : List Int), SW d xs → ∀ (A : Option Addr) (cc : Nat), xs.length ≤ cc → IsB xs → xs.length ≤ 20000 → ∀ (w : World), Kd.C (Kd.int .u8) w A xs.length xs →
    Calls Tryd.prog 43 #[.slice A xs.length cc, .int .i64 d] w fun e w' => e = .returned (.bool true) ∧ Below w.heap.size w w'
set_option maxRecDepth 100000 in
set_option maxHeartbeats 8000000 in
theorem whole_step (d : Nat) (hd : d ≤ 100) (hI : ∀ d', d = d' + 1 → WholeAt d') : WholeAt d := by
  intro xs hS A cc hcc hB hx w hr
  have HI := Lib.hid hI
  have HH := Lib.hid (And.intro hr hB)
  clear hI hr hB
  go_enter Tryd.func43, Tryd.ntmps43
  go_wp2_with fail
  go_loopg [0] xs.length (fun kk v0 wr => ∃ (y : List Int) (Ay : Option Addr) (cy : Nat), v0 = .slice Ay y.length cy ∧ Hid (kk = y.length ∧ Cut A xs Ay cy y ∧ IsB y ∧ y.length ≤ xs.length ∧ SW d y ∧ Below w.heap.size w wr))
  case atStart => exact ⟨xs, A, cc, rfl, Lib.hid ⟨rfl, ⟨hcc, fun _ h => h⟩, HH.out.2, Nat.le_refl _, hS, Below.refl _ _⟩⟩
  case round =>
    obtain ⟨y, Ay, cy, rfl, HJ⟩ := hrel
    by_cases hy0 : y.length = 0
    · rw [hy0]
      have hb := HJ.out.2.2.2.2.2
      go_wp2
      go_ret
      exact ⟨rfl, hb⟩
    · obtain ⟨d', c, rest, t, rfl, ho, hsp, hrest⟩ := SW.inv HJ.out.2.2.2.2.1 hy0
      have hBy := HJ.out.2.2.1
      have hyl := HJ.out.2.2.2.1
      have hcy := HJ.out.2.1.1
      have hBo := sOpen_isB hBy ho
      have hCr := HJ.out.2.1.2 wr (Kd.C_below HH.out.1 HJ.out.2.2.2.2.2)
      have hmax := Kd.C_max hCr
      have hypos : 0 < (y.length : Int) := by omega
      have hd0 : (((d' : Int) + 1) == 0) = false := beq_eq_false_iff_ne.2 (by omega)
      have hd1 : ((d' : Int) + 1 - 1) = d' := by omega
      by_cases h127 : rd y 1 ≤ 127
      · obtain ⟨n, hn, hnl, hc, hr2, h2, ht⟩ := sOpen_short hBy ho h127
        obtain ⟨ad, rfl, hx1⟩ := cell_at hCr 1 (by omega)
        obtain ⟨ad0, e0, hx0⟩ := cell_at hCr 0 (by omega)
        obtain rfl : ad = ad0 := by injection e0
        have hx1 : wr.cell? (ad.add 1) = some (.int .u8 (rd y 1)) := hx1
        have hx0 : wr.cell? (ad.add 0) = some (.int .u8 (rd y 0)) := hx0
        rw [hn] at hx1 h127
        rw [ht] at hx0
        simp [Addr.add] at hx0 hx1
        obtain ⟨C1, R1, hc1, hc2, k1, k2⟩ := open_cuts (some ad) cy y hcy 2 (n + 2) (by omega) (by omega) 2 (2 + n) rfl (by omega)
        rw [← hc] at hc1 k1
        rw [← hr2] at hc2 k2
        have hw : wrap64 ((y.length : Int) - 2) = (y.length : Int) - 2 := by unfold wrap64; omega
        have hnI : (n : Int) ≤ (y.length : Int) - 2 := by omega
        have hrl : rest.length ≤ y.length := by rw [hr2]; simp
        have hcl2 : c.length ≤ y.length := by rw [hc]; simp; omega
        have hrl2 : rest.length < y.length := by rw [hr2]; simp; omega
        have HK := Lib.hid (And.intro hsp (And.intro hrest (And.intro hBo (And.intro k1 (And.intro k2 hCr)))))
        clear hsp hrest k1 k2 hCr hn ht hc hr2 ho hBo e0
        have t0 := HK.out.2.2.1.2.2.1
        have t1 := HK.out.2.2.1.2.2.2
        by_cases q48 : t = 48
        · subst q48
          go_wp2_with fail
          refine (HI.out d' rfl c (HK.out.1 (.inl rfl)) C1 (cy - 2) HK.out.2.2.2.1.1 HK.out.2.2.1.1 (by omega) wr (HK.out.2.2.2.1.2 wr HK.out.2.2.2.2.2)).mono ?_
          rintro e w5 ⟨rfl, hb5⟩
          have HB5 := Lib.hid (below_step HJ.out.2.2.2.2.2 hb5)
          clear hb5
          go_wp2
          go_roundg rest.length
          case measure =>
            have := HJ.out.1
            omega
          case rel => exact ⟨rest, R1, cy - (n + 2), rfl, Lib.hid ⟨rfl, HJ.out.2.1.trans HK.out.2.2.2.2.1, HK.out.2.2.1.2.1, by omega, HK.out.2.1, HB5.out⟩⟩
        · have q48b : (t == 48) = false := beq_eq_false_iff_ne.2 q48
          by_cases q160 : 160 ≤ t
          · by_cases q168 : t ≤ 168
            · skip
              go_wp2_with fail
              refine (HI.out d' rfl c (HK.out.1 (.inr ⟨q160, q168⟩)) C1 (cy - 2) HK.out.2.2.2.1.1 HK.out.2.2.1.1 (by omega) wr (HK.out.2.2.2.1.2 wr HK.out.2.2.2.2.2)).mono ?_
              rintro e w5 ⟨rfl, hb5⟩
              have HB5 := Lib.hid (below_step HJ.out.2.2.2.2.2 hb5)
              clear hb5
              go_wp2
              go_roundg rest.length
              case measure =>
                have := HJ.out.1
                omega
              case rel => exact ⟨rest, R1, cy - (n + 2), rfl, Lib.hid ⟨rfl, HJ.out.2.1.trans HK.out.2.2.2.2.1, HK.out.2.2.1.2.1, by omega, HK.out.2.1, HB5.out⟩⟩
            · skip
              go_wp2
              go_roundg rest.length
              case measure =>
                have := HJ.out.1
                omega
              case rel => exact ⟨rest, R1, cy - (n + 2), rfl, Lib.hid ⟨rfl, HJ.out.2.1.trans HK.out.2.2.2.2.1, HK.out.2.2.1.2.1, by omega, HK.out.2.1, HJ.out.2.2.2.2.2⟩⟩
          · skip
            go_wp2
            go_roundg rest.length
            case measure =>
              have := HJ.out.1
              omega
            case rel => exact ⟨rest, R1, cy - (n + 2), rfl, Lib.hid ⟨rfl, HJ.out.2.1.trans HK.out.2.2.2.2.1, HK.out.2.2.1.2.1, by omega, HK.out.2.1, HJ.out.2.2.2.2.2⟩⟩
      · obtain ⟨k, n, hk, hk1, hk4, hkl, hbe, hnl, hc, hr2, ht⟩ := sOpen_long hBy ho (by omega)
        obtain ⟨ad, rfl, hx1⟩ := cell_at hCr 1 (by omega)
        obtain ⟨ad0, e0, hx0⟩ := cell_at hCr 0 (by omega)
        obtain rfl : ad = ad0 := by injection e0
        have hx1 : wr.cell? (ad.add 1) = some (.int .u8 (rd y 1)) := hx1
        have hx0 : wr.cell? (ad.add 0) = some (.int .u8 (rd y 0)) := hx0
        rw [hk] at hx1 h127
        rw [ht] at hx0
        simp [Addr.add] at hx0 hx1
        obtain ⟨C1, R1, hc1, hc2, k1, k2⟩ := open_cuts (some ad) cy y hcy (2 + k) (n + 2 + k) (by omega) (by omega) (2 + k) (2 + k + n) (by omega) (by omega)
        rw [← hc] at hc1 k1
        rw [← hr2] at hc2 k2
        obtain ⟨Z1, Z2, hz1, -, kz, -⟩ := open_cuts (some ad) cy y hcy 2 (2 + k) (by omega) (by omega) 2 (2 + k) rfl (by omega)
        have hyl2 : ((y.take (2 + k)).drop 2).length = k := by simp; omega
        have hye : (y.take (2 + k)).drop 2 = (y.drop 2).take k := by rw [List.drop_take]; congr 1; omega
        rw [hyl2] at hz1
        rw [hye] at kz hyl2
        obtain ⟨ys, hys⟩ : ∃ ys, ys = (y.drop 2).take k := ⟨_, rfl⟩
        rw [← hys] at hyl2 kz hbe
        have hyb : IsB ys := by rw [hys]; exact isB_take (isB_drop hBy 2) k
        have hkC := kz.2 wr hCr
        rw [hyl2] at hkC
        have hw : ∀ m : Int, 0 ≤ m → m ≤ 255 → wrap64 ((y.length : Int) - (2 + m)) = (y.length : Int) - (2 + m) := fun m _ _ => by unfold wrap64; omega
        have hwk := hw k (by omega) (by omega)
        have hnI : (n : Int) ≤ (y.length : Int) - (2 + k) := by omega
        have hn4 : (n : Int) ≤ 20000 := by omega
        have hrl : rest.length ≤ y.length := by rw [hr2]; simp
        have hcl2 : c.length ≤ y.length := by rw [hc]; simp; omega
        have hrl2 : rest.length < y.length := by rw [hr2]; simp; omega
        have e1 : (128 : Int) + k - 128 = k := by omega
        have HK := Lib.hid (And.intro hsp (And.intro hrest (And.intro hBo (And.intro k1 (And.intro k2 hCr)))))
        have HY := Lib.hid (And.intro hkC hyb)
        have HBE := Lib.hid hbe
        clear hsp hrest k1 k2 hCr hk ht hc hr2 ho hBo e0 kz hkC hyb hys hye hbe
        have t0 := HK.out.2.2.1.2.2.1
        have t1 := HK.out.2.2.1.2.2.2
        go_wp2_with fail
        go_loop [5, 9, 46] (fun v _ j => ∃ i : Nat, i ≤ k ∧ j = .int .i64 i ∧ v = .int .i64 (beVal (ys.take i) 0)) (fun _ _ j => k - (intOf j).toNat)
        case atStart => exact ⟨0, Nat.zero_le _, rfl, rfl⟩
        case round =>
          obtain ⟨i, hi, rfl, rfl⟩ := hrel
          by_cases hlt : i < k
          · have hkC := HY.out.1
            rw [← hyl2] at hkC
            obtain ⟨ad1, rfl, hcl⟩ := cell_at hkC i (by omega)
            have hst := beVal_takeO ys i (by omega)
            have hbd := beVal_bound (ys.take i) (isB_take HY.out.2 i) 0 (Int.le_refl 0)
            have hp := pow_le4O i (by omega)
            have hr2 := HY.out.2.rd i
            have hlen : (ys.take i).length = i := by simp; omega
            rw [hlen] at hbd
            have HS := Lib.hid hst
            have b0 := hbd.1
            have b1 : beVal (ys.take i) 0 < 281474976710656 := by omega
            have r0 := hr2.1
            have r1 := hr2.2
            clear hst hbd hp hlen hr2 hkC
            generalize beVal (ys.take i) 0 = v at *
            generalize rd ys i = x at *
            have hor := i64_join8 v x b0 b1 r0 r1
            go_wp2
            go_round
            case rel => exact ⟨i + 1, by omega, by go_num, by rw [HS.out]⟩
            case measure => simp [intOf]; omega
          · obtain rfl : i = k := by omega
            rw [List.take_of_length_le (by omega), HBE.out]
            by_cases q48 : t = 48
            · subst q48
              go_wp2_with fail
              refine (HI.out d' rfl c (HK.out.1 (.inl rfl)) C1 (cy - (2 + i)) HK.out.2.2.2.1.1 HK.out.2.2.1.1 (by omega) wr (HK.out.2.2.2.1.2 wr HK.out.2.2.2.2.2)).mono ?_
              rintro e w5 ⟨rfl, hb5⟩
              have HB5 := Lib.hid (below_step HJ.out.2.2.2.2.2 hb5)
              clear hb5
              go_wp2
              go_roundg rest.length
              case measure =>
                have := HJ.out.1
                omega
              case rel => exact ⟨rest, R1, cy - (n + 2 + i), rfl, Lib.hid ⟨rfl, HJ.out.2.1.trans HK.out.2.2.2.2.1, HK.out.2.2.1.2.1, by omega, HK.out.2.1, HB5.out⟩⟩
            · have q48b : (t == 48) = false := beq_eq_false_iff_ne.2 q48
              by_cases q160 : 160 ≤ t
              · by_cases q168 : t ≤ 168
                · skip
                  go_wp2_with fail
                  refine (HI.out d' rfl c (HK.out.1 (.inr ⟨q160, q168⟩)) C1 (cy - (2 + i)) HK.out.2.2.2.1.1 HK.out.2.2.1.1 (by omega) wr (HK.out.2.2.2.1.2 wr HK.out.2.2.2.2.2)).mono ?_
                  rintro e w5 ⟨rfl, hb5⟩
                  have HB5 := Lib.hid (below_step HJ.out.2.2.2.2.2 hb5)
                  clear hb5
                  go_wp2
                  go_roundg rest.length
                  case measure =>
                    have := HJ.out.1
                    omega
                  case rel => exact ⟨rest, R1, cy - (n + 2 + i), rfl, Lib.hid ⟨rfl, HJ.out.2.1.trans HK.out.2.2.2.2.1, HK.out.2.2.1.2.1, by omega, HK.out.2.1, HB5.out⟩⟩
                · skip
                  go_wp2
                  go_roundg rest.length
                  case measure =>
                    have := HJ.out.1
                    omega
                  case rel => exact ⟨rest, R1, cy - (n + 2 + i), rfl, Lib.hid ⟨rfl, HJ.out.2.1.trans HK.out.2.2.2.2.1, HK.out.2.2.1.2.1, by omega, HK.out.2.1, HJ.out.2.2.2.2.2⟩⟩
              · skip
                go_wp2
                go_roundg rest.length
                case measure =>
                  have := HJ.out.1
                  omega
                case rel => exact ⟨rest, R1, cy - (n + 2 + i), rfl, Lib.hid ⟨rfl, HJ.out.2.1.trans HK.out.2.2.2.2.1, HK.out.2.2.1.2.1, by omega, HK.out.2.1, HJ.out.2.2.2.2.2⟩⟩
theorem whole_ok : ∀ (d : Nat), d ≤ 100 → WholeAt d
  | 0, h => whole_step 0 h (fun d' e => by omega)
  | d + 1, h => whole_step (d + 1) h (fun d' e => by
    have e2 : d = d' := by omega
    exact e2 ▸ whole_ok d (by omega))
end Go.Proofs.YtangjgclpipjdaaDoor
