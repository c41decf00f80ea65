/- marshalVarbind: the walks. marshalVarbind: the walks of the other types (printed by genVb.py). -/
import Derived.Test.YtangjgclpipjdaaDoorVI
import Derived.Test.YtangjgclpipjdaaDoorVJ
import Derived.Test.YtangjgclpipjdaaDoorVC
import Derived.Test.YtangjgclpipjdaaDoorVF
import Derived.Lib.ConvBytes
import Derived.Laws.AppendOwn
set_option linter.unusedVariables false
namespace Go.Proofs.YtangjgclpipjdaaDoor
open Go.RowKit Go.Proofs.YtangjgclpipjdaaDoorW.PrintWords Go.Proofs.YtangjgclpipjdaaDoorW.PrintLast Go.Proofs.YtangjgclpipjdaaDoorW.PrintMore

/-- A variable of the package: value, name, type. -/
abbrev pduO (nm : ByteArray) (ty : Int) (v : Value) : Obj := .cells #[v, .string nm, .int .u8 ty] 60 (0, 0)
theorem pdu_cells {W : World} {g : Nat} {nm : ByteArray} {ty : Int} {v : Value} (h : W.heap[g]? = some (pduO nm ty v)) : W.cell? ⟨g, 0, none⟩ = some v ∧ W.cell? ⟨g, 1, none⟩ = some (.string nm) ∧ W.cell? ⟨g, 2, none⟩ = some (.int .u8 ty) :=
  ⟨by rw [Lib.cell_of_heap h]; rfl, by rw [Lib.cell_of_heap h]; rfl, by rw [Lib.cell_of_heap h]; rfl⟩
/-- Two buffers, the first one empty, the second one with bs; the variable stands. -/
structure VS (w : World) (p : Nat) (po : Obj) (b1 b2 g2 : Nat) (bs : List Int) (W : World) : Prop where
  one : Buf W b1 b1 []
  two : Buf W b2 g2 bs
  obj : W.heap[p]? = some po
  below : Below w.heap.size w W
  h1 : w.heap.size ≤ b1
  h2 : w.heap.size ≤ b2
  h3 : w.heap.size ≤ g2
  ne : b1 ≠ b2
  ne2 : b1 ≠ g2
  hp : p < w.heap.size
theorem VS.call {w W W' : World} {p b1 b2 g2 : Nat} {po : Obj} {bs : List Int} (h : VS w p po b1 b2 g2 bs W) (hb : Below W.heap.size W W') : VS w p po b1 b2 g2 bs W' :=
  ⟨h.one.below hb, h.two.below hb, blk_below h.obj hb, below_step h.below hb, h.h1, h.h2, h.h3, h.ne, h.ne2, h.hp⟩
theorem KB.keep {w W W' : World} {b g : Nat} (hb : Below w.heap.size w W) (h : KB W W' b g) (h1 : w.heap.size ≤ b) (h2 : w.heap.size ≤ g) : Below w.heap.size w W' := hb.trans (h.below h1 h2 hb.size)
theorem VS.wrote {w W W' : World} {p b1 b2 g2 : Nat} {po : Obj} {bs xs : List Int} (h : VS w p po b1 b2 g2 bs W) (hw : Wrote W W' b2 g2 xs) : ∃ g', VS w p po b1 b2 g' xs W' ∧ KB W W' b2 g2 ∧ (g' = g2 ∨ W.heap.size ≤ g') := by
  obtain ⟨K, g', B, hg⟩ := hw
  have := h.below.size
  have := h.one.lt
  have hp := h.hp
  have a1 := h.h1
  have a2 := h.h2
  have a3 := h.h3
  have a4 := h.ne
  have a5 := h.ne2
  exact ⟨g', ⟨h.one.kept K a4 a5 a4 a5, B, K.blk h.obj (by omega) (by omega), K.keep h.below a2 a3, a1, a2, by omega, a4, by omega, hp⟩, K, hg⟩
theorem VS.start {w W : World} {p : Nat} {po : Obj} (hb : Below w.heap.size w W) (ho : w.heap[p]? = some po) (lr1 lr2 : Int) :
    VS w p po W.heap.size (W.heap.size + 1) (W.heap.size + 1) [] ((W.alloc (.cells #[.slice none 0 0, .int .i64 0, .int .i8 lr1] 127)).alloc (.cells #[.slice none 0 0, .int .i64 0, .int .i8 lr2] 127)) := by
  have hs := hb.size
  have hp := blk_lt ho
  have h2 := Buf.new (W.alloc (.cells #[.slice none 0 0, .int .i64 0, .int .i8 lr1] 127)) lr2
  rw [show (W.alloc (.cells #[.slice none 0 0, .int .i64 0, .int .i8 lr1] 127)).heap.size = W.heap.size + 1 by simp] at h2
  refine ⟨(Buf.new W lr1).below ((Below.refl _ _).alloc (Nat.le_refl _) _), h2, ?_, ?_, hs, by omega, by omega, by omega, by omega, hp⟩
  · exact blk_alloc (blk_alloc ((hb.block p hp).trans ho) _) _
  · exact (hb.alloc hs _).alloc (by simp; omega) _

theorem sSealed_len (t : Int) (xs : List Int) : 2 ≤ (sSealed t xs 0).length ∧ (sSealed t xs 0).length ≤ xs.length + 6 := by
  have h := sLen_len xs.length 0
  have h1 : 1 ≤ (sLen xs.length 0).length := by unfold sLen; split <;> simp
  unfold sSealed
  simp
  omega
theorem vb_end {w W W' : World} {p b1 b2 g2 g' : Nat} {po : Obj} {bs xs : List Int} {v : Value} (S : VS w p po b1 b2 g2 bs W) (K : KB W W' b1 b1) (hg : g' = b1 ∨ W.heap.size ≤ g') (hR : ReadB W' (fun k => k = g') v xs) (k : Nat) :
    NewB w (W'.drewN k) v xs ∧ Below w.heap.size w (W'.drewN k) := by
  have h1 := S.h1
  have h2 := S.below.size
  exact ⟨ReadB.below (hR.mono (fun i hi => by omega)) (pw_below_drewN (Below.refl _ _) k), pw_below_drewN (K.keep S.below h1 h1) k⟩
theorem below_two (w : World) (o1 o2 : Obj) : Below w.heap.size w ((w.alloc o1).alloc o2) := ((Below.refl _ _).alloc (Nat.le_refl _) _).alloc (by simp) _
set_option maxRecDepth 100000 in
set_option maxHeartbeats 4000000 in
theorem vb_null (p : Nat) (nm : ByteArray) (arcs : List Int) (v : Value) (w : World) (hs : nm.size ≤ 1000) (ha : sArcs (bs nm) = (arcs, true)) (hp : w.heap[p]? = some (pduO nm 5 v)) :
    Calls Tryd.prog 48 #[.pointer (some ⟨p, 0, none⟩)] w fun e w' => GotV w w' (sVar arcs 5 [] 0) e := by
  obtain ⟨p0, p1, p2⟩ := pdu_cells hp
  have hlen : (sName arcs).length ≤ 100 := (sArcs_text _ _ ha).2.1
  have HP := Lib.hid (And.intro hp ha)
  clear ha hp
  go_enter Tryd.func48, Tryd.ntmps48
  go_wp2_with fail
  refine (marshalOid_any nm arcs hs HP.out.2 w).mono ?_
  rintro e w1 ⟨v1, rfl, ho, hb⟩
  obtain ⟨A1, c1, rfl, hc1⟩ := Kd.R_slice ho
  have hL := OwnB.within ho
  have hS := VS.start hb HP.out.1 0 0
  obtain ⟨q0, q1, q2⟩ := pdu_cells hS.obj
  have HS := Lib.hid (And.intro hL hS)
  clear ho hb hL hS HP p0 p1 p2
  go_wp2_with fail
  refine (tlv_any (w1.heap.size + 1) (w1.heap.size + 1) [] (sName arcs) 6 A1 _ c1 _ _ HS.out.2.two (HS.out.1.below (below_two w1 _ _)) (by omega) (by omega) rfl (by omega) (by omega) (by simp; omega)).mono ?_
  rintro e w2 ⟨rfl, hW2⟩
  rw [List.nil_append] at hW2
  obtain ⟨g2, S2, -, -⟩ := HS.out.2.wrote hW2
  clear q0 q1 q2
  obtain ⟨q0, q1, q2⟩ := pdu_cells S2.obj
  generalize w1.heap.size + 1 = b2 at *
  generalize w1.heap.size = b1 at *
  have HS2 := Lib.hid S2
  clear S2 hW2 HS
  go_wp2_with fail
  have hl6 : (sSealed 6 (sName arcs) 0).length ≤ 110 := by
    have := sLen_len (sName arcs).length 0
    unfold sSealed
    simp
    omega
  refine (writeByte_any b2 g2 _ 5 w2 HS2.out.two (by omega)).mono ?_
  rintro e w3 ⟨rfl, hW3⟩
  obtain ⟨g3, S3, -, -⟩ := HS2.out.wrote hW3
  have HS3 := Lib.hid S3
  clear S3 hW3 HS2 q0 q1 q2
  go_wp2_with fail
  refine (writeByte_any b2 g3 _ 0 w3 HS3.out.two (by simp; omega)).mono ?_
  rintro e w4 ⟨rfl, hW4⟩
  obtain ⟨g4, S4, -, -⟩ := HS3.out.wrote hW4
  have HS4 := Lib.hid S4
  clear S4 hW4 HS3
  go_wp2_with fail
  generalize hbs : sSealed 6 (sName arcs) 0 ++ [5] ++ [0] = bs at *
  have hbl : 1 ≤ bs.length ∧ bs.length ≤ 1000 := by rw [← hbs]; simp; omega
  have hbv : sVar arcs 5 [] 0 = sSealed 48 bs 0 := by rw [← hbs]; unfold sVar; rw [List.append_assoc]; rfl
  have hl48 := sSealed_len 48 bs
  have HB := Lib.hid hbv
  clear hbv hbs
  refine (bytes_any b2 g4 bs w4 HS4.out.two hbl.1 (by omega)).mono ?_
  rintro e w5 ⟨cap, rfl, hR5, k5, rfl⟩
  have HS5 := Lib.hid (And.intro (HS4.out.call (pw_below_drewN (Below.refl _ _) k5)) (hR5.below (pw_below_drewN (Below.refl _ _) k5)))
  clear hR5 HS4
  go_wp2_with fail
  refine (tlv_any b1 b1 [] bs 48 _ _ cap _ _ HS5.out.1.one HS5.out.2 HS5.out.1.ne2 HS5.out.1.ne2 rfl (by omega) (by omega) (by simp; omega)).mono ?_
  rintro e w6 ⟨rfl, K6, g6, B6, hg6⟩
  rw [List.nil_append] at B6
  have HS6 := Lib.hid (And.intro HS5.out.1 (And.intro K6 (And.intro B6 hg6)))
  clear K6 B6 HS5
  go_wp2_with fail
  refine (bytes_any b1 g6 (sSealed 48 bs 0) w6 HS6.out.2.2.1 (by omega) (by omega)).mono ?_
  rintro e w7 ⟨cap7, rfl, hR7, k7, rfl⟩
  have HE := Lib.hid (vb_end HS6.out.1 HS6.out.2.1 HS6.out.2.2.2 hR7 k7)
  clear hR7 HS6
  go_wp2
  go_ret2
  rw [HB.out]
  exact ⟨_, rfl, HE.out⟩
end Go.Proofs.YtangjgclpipjdaaDoor
set_option linter.unusedVariables false
namespace Go.Proofs.YtangjgclpipjdaaDoor
open Go.RowKit Go.Proofs.YtangjgclpipjdaaDoorW.PrintWords Go.Proofs.YtangjgclpipjdaaDoorW.PrintLast Go.Proofs.YtangjgclpipjdaaDoorW.PrintMore

theorem ta_int_u8 (v : Value) (w : World) : (Instr.typeAssert (.iface 3 v) 20 5 true).run Tryd.prog w = .ok (.tuple #[.int .u8 0, .bool false]) w := by kernel_rfl
theorem ta_uint_u32 (v : Value) (w : World) : (Instr.typeAssert (.iface 38 v) 20 36 true).run Tryd.prog w = .ok (.tuple #[.int .u32 0, .bool false]) w := by kernel_rfl
theorem ta_str_one (v : Value) (w : World) : (Instr.typeAssert (.iface 9 v) 20 9 false).run Tryd.prog w = .ok v w := by kernel_rfl
theorem two_sealed (arcs : List Int) (ty : Int) (c : List Int) : sVar arcs ty c 0 = sSealed 48 (sSealed 6 (sName arcs) 0 ++ sSealed ty c 0) 0 := rfl
theorem bytesWorld_below (w : World) (s : ByteArray) : Below w.heap.size w (Lib.bytesWorld w 5 s) :=
  ⟨rfl, rfl, rfl, by rw [Lib.bytesWorld_size]; omega, fun k hk => Lib.bytesWorld_at_old w _ s k hk⟩
theorem bytesWorld_read (w : World) (s : ByteArray) (hs : s.size ≤ 100000) (c : Nat) (hc : s.size ≤ c) : ReadB (Lib.bytesWorld w 5 s) (fun k => w.heap.size ≤ k) (.slice (some ⟨w.heap.size, 0, none⟩) s.size c) (bs s) := by
  have hl : (bs s).length = s.size := bs_length s
  rw [← hl] at hc ⊢
  refine ⟨some ⟨w.heap.size, 0, none⟩, c, rfl, hc, fun W' hW => ?_⟩
  have h' : W'.heap[w.heap.size]? = (Lib.bytesWorld w 5 s).heap[w.heap.size]? := hW _ (Nat.le_refl _) (by rw [Lib.bytesWorld_size]; omega)
  refine Kd.C_of_reads (enc := Value.int .u8) (d := (0 : Int)) ⟨rfl, by omega, fun _ => ⟨_, rfl, fun j hj => ?_⟩⟩
  have e : (⟨w.heap.size, 0, none⟩ : Addr).add j = ⟨w.heap.size, 0 + j, none⟩ := by unfold Addr.add; split <;> simp_all
  rw [e, Nat.zero_add]
  have h2 := Lib.bytesWorld_cell w 5 s j (by omega)
  rw [World.cell?_of_block (a := ⟨w.heap.size, j, none⟩) h', h2]
  simp [bs, List.getD_eq_getElem?_getD, hl ▸ hj]

set_option maxRecDepth 100000 in
set_option maxHeartbeats 4000000 in
theorem vb_exc128 (p : Nat) (nm : ByteArray) (arcs : List Int) (v : Value) (w : World) (hs : nm.size ≤ 1000) (ha : sArcs (bs nm) = (arcs, true)) (hp : w.heap[p]? = some (pduO nm 128 v)) :
    Calls Tryd.prog 48 #[.pointer (some ⟨p, 0, none⟩)] w fun e w' => GotV w w' (sVar arcs 128 [] 0) e := by
  obtain ⟨p0, p1, p2⟩ := pdu_cells hp
  have hlen : (sName arcs).length ≤ 100 := (sArcs_text _ _ ha).2.1
  have HP := Lib.hid (And.intro hp ha)
  clear ha hp
  go_enter Tryd.func48, Tryd.ntmps48
  go_wp2_with fail
  refine (marshalOid_any nm arcs hs HP.out.2 w).mono ?_
  rintro e w1 ⟨v1, rfl, ho, hb⟩
  obtain ⟨A1, c1, rfl, hc1⟩ := Kd.R_slice ho
  have hL := OwnB.within ho
  have hS := VS.start hb HP.out.1 0 0
  obtain ⟨q0, q1, q2⟩ := pdu_cells hS.obj
  have HS := Lib.hid (And.intro hL hS)
  clear ho hb hL hS HP p0 p1 p2
  go_wp2_with fail
  refine (tlv_any (w1.heap.size + 1) (w1.heap.size + 1) [] (sName arcs) 6 A1 _ c1 _ _ HS.out.2.two (HS.out.1.below (below_two w1 _ _)) (by omega) (by omega) rfl (by omega) (by omega) (by simp; omega)).mono ?_
  rintro e w2 ⟨rfl, hW2⟩
  rw [List.nil_append] at hW2
  obtain ⟨g2, S2, -, -⟩ := HS.out.2.wrote hW2
  clear q0 q1 q2
  obtain ⟨q0, q1, q2⟩ := pdu_cells S2.obj
  generalize w1.heap.size + 1 = b2 at *
  generalize w1.heap.size = b1 at *
  have HS2 := Lib.hid S2
  clear S2 hW2 HS
  have hl6 : (sSealed 6 (sName arcs) 0).length ≤ 106 := by have := sSealed_len 6 (sName arcs); omega
  go_wp2_with fail
  refine (writeByte_any b2 g2 _ 128 w2 HS2.out.two (by omega)).mono ?_
  rintro e w3 ⟨rfl, hW3⟩
  obtain ⟨g3, S3, -, -⟩ := HS2.out.wrote hW3
  have HS3 := Lib.hid S3
  clear S3 hW3 HS2 q0 q1 q2
  go_wp2_with fail
  refine (writeByte_any b2 g3 _ 0 w3 HS3.out.two (by simp; omega)).mono ?_
  rintro e w4 ⟨rfl, hW4⟩
  obtain ⟨g4, S4, -, -⟩ := HS3.out.wrote hW4
  have HS4 := Lib.hid S4
  clear S4 hW4 HS3
  go_wp2_with fail
  generalize hbz : sSealed 6 (sName arcs) 0 ++ [128] ++ [0] = bz at *
  have hbl : 1 ≤ bz.length ∧ bz.length ≤ 1000 := by rw [← hbz]; simp; omega
  have hbv : sVar arcs 128 [] 0 = sSealed 48 bz 0 := by rw [← hbz]; unfold sVar; rw [List.append_assoc]; rfl
  have hl48 := sSealed_len 48 bz
  have HB := Lib.hid hbv
  clear hbv hbz
  refine (bytes_any b2 g4 bz w4 HS4.out.two hbl.1 (by omega)).mono ?_
  rintro e w5 ⟨cap, rfl, hR5, k5, rfl⟩
  have HS5 := Lib.hid (And.intro (HS4.out.call (pw_below_drewN (Below.refl _ _) k5)) (hR5.below (pw_below_drewN (Below.refl _ _) k5)))
  clear hR5 HS4
  go_wp2_with fail
  refine (tlv_any b1 b1 [] bz 48 _ _ cap _ _ HS5.out.1.one HS5.out.2 HS5.out.1.ne2 HS5.out.1.ne2 rfl (by omega) (by omega) (by simp; omega)).mono ?_
  rintro e w6 ⟨rfl, K6, g6, B6, hg6⟩
  rw [List.nil_append] at B6
  have HS6 := Lib.hid (And.intro HS5.out.1 (And.intro K6 (And.intro B6 hg6)))
  clear K6 B6 HS5
  go_wp2_with fail
  refine (bytes_any b1 g6 (sSealed 48 bz 0) w6 HS6.out.2.2.1 (by omega) (by omega)).mono ?_
  rintro e w7 ⟨cap7, rfl, hR7, k7, rfl⟩
  have HE := Lib.hid (vb_end HS6.out.1 HS6.out.2.1 HS6.out.2.2.2 hR7 k7)
  clear hR7 HS6
  go_wp2
  go_ret2
  rw [HB.out]
  exact ⟨_, rfl, HE.out⟩

set_option maxRecDepth 100000 in
set_option maxHeartbeats 4000000 in
theorem vb_exc129 (p : Nat) (nm : ByteArray) (arcs : List Int) (v : Value) (w : World) (hs : nm.size ≤ 1000) (ha : sArcs (bs nm) = (arcs, true)) (hp : w.heap[p]? = some (pduO nm 129 v)) :
    Calls Tryd.prog 48 #[.pointer (some ⟨p, 0, none⟩)] w fun e w' => GotV w w' (sVar arcs 129 [] 0) e := by
  obtain ⟨p0, p1, p2⟩ := pdu_cells hp
  have hlen : (sName arcs).length ≤ 100 := (sArcs_text _ _ ha).2.1
  have HP := Lib.hid (And.intro hp ha)
  clear ha hp
  go_enter Tryd.func48, Tryd.ntmps48
  go_wp2_with fail
  refine (marshalOid_any nm arcs hs HP.out.2 w).mono ?_
  rintro e w1 ⟨v1, rfl, ho, hb⟩
  obtain ⟨A1, c1, rfl, hc1⟩ := Kd.R_slice ho
  have hL := OwnB.within ho
  have hS := VS.start hb HP.out.1 0 0
  obtain ⟨q0, q1, q2⟩ := pdu_cells hS.obj
  have HS := Lib.hid (And.intro hL hS)
  clear ho hb hL hS HP p0 p1 p2
  go_wp2_with fail
  refine (tlv_any (w1.heap.size + 1) (w1.heap.size + 1) [] (sName arcs) 6 A1 _ c1 _ _ HS.out.2.two (HS.out.1.below (below_two w1 _ _)) (by omega) (by omega) rfl (by omega) (by omega) (by simp; omega)).mono ?_
  rintro e w2 ⟨rfl, hW2⟩
  rw [List.nil_append] at hW2
  obtain ⟨g2, S2, -, -⟩ := HS.out.2.wrote hW2
  clear q0 q1 q2
  obtain ⟨q0, q1, q2⟩ := pdu_cells S2.obj
  generalize w1.heap.size + 1 = b2 at *
  generalize w1.heap.size = b1 at *
  have HS2 := Lib.hid S2
  clear S2 hW2 HS
  have hl6 : (sSealed 6 (sName arcs) 0).length ≤ 106 := by have := sSealed_len 6 (sName arcs); omega
  go_wp2_with fail
  refine (writeByte_any b2 g2 _ 129 w2 HS2.out.two (by omega)).mono ?_
  rintro e w3 ⟨rfl, hW3⟩
  obtain ⟨g3, S3, -, -⟩ := HS2.out.wrote hW3
  have HS3 := Lib.hid S3
  clear S3 hW3 HS2 q0 q1 q2
  go_wp2_with fail
  refine (writeByte_any b2 g3 _ 0 w3 HS3.out.two (by simp; omega)).mono ?_
  rintro e w4 ⟨rfl, hW4⟩
  obtain ⟨g4, S4, -, -⟩ := HS3.out.wrote hW4
  have HS4 := Lib.hid S4
  clear S4 hW4 HS3
  go_wp2_with fail
  generalize hbz : sSealed 6 (sName arcs) 0 ++ [129] ++ [0] = bz at *
  have hbl : 1 ≤ bz.length ∧ bz.length ≤ 1000 := by rw [← hbz]; simp; omega
  have hbv : sVar arcs 129 [] 0 = sSealed 48 bz 0 := by rw [← hbz]; unfold sVar; rw [List.append_assoc]; rfl
  have hl48 := sSealed_len 48 bz
  have HB := Lib.hid hbv
  clear hbv hbz
  refine (bytes_any b2 g4 bz w4 HS4.out.two hbl.1 (by omega)).mono ?_
  rintro e w5 ⟨cap, rfl, hR5, k5, rfl⟩
  have HS5 := Lib.hid (And.intro (HS4.out.call (pw_below_drewN (Below.refl _ _) k5)) (hR5.below (pw_below_drewN (Below.refl _ _) k5)))
  clear hR5 HS4
  go_wp2_with fail
  refine (tlv_any b1 b1 [] bz 48 _ _ cap _ _ HS5.out.1.one HS5.out.2 HS5.out.1.ne2 HS5.out.1.ne2 rfl (by omega) (by omega) (by simp; omega)).mono ?_
  rintro e w6 ⟨rfl, K6, g6, B6, hg6⟩
  rw [List.nil_append] at B6
  have HS6 := Lib.hid (And.intro HS5.out.1 (And.intro K6 (And.intro B6 hg6)))
  clear K6 B6 HS5
  go_wp2_with fail
  refine (bytes_any b1 g6 (sSealed 48 bz 0) w6 HS6.out.2.2.1 (by omega) (by omega)).mono ?_
  rintro e w7 ⟨cap7, rfl, hR7, k7, rfl⟩
  have HE := Lib.hid (vb_end HS6.out.1 HS6.out.2.1 HS6.out.2.2.2 hR7 k7)
  clear hR7 HS6
  go_wp2
  go_ret2
  rw [HB.out]
  exact ⟨_, rfl, HE.out⟩

set_option maxRecDepth 100000 in
set_option maxHeartbeats 4000000 in
theorem vb_exc130 (p : Nat) (nm : ByteArray) (arcs : List Int) (v : Value) (w : World) (hs : nm.size ≤ 1000) (ha : sArcs (bs nm) = (arcs, true)) (hp : w.heap[p]? = some (pduO nm 130 v)) :
    Calls Tryd.prog 48 #[.pointer (some ⟨p, 0, none⟩)] w fun e w' => GotV w w' (sVar arcs 130 [] 0) e := by
  obtain ⟨p0, p1, p2⟩ := pdu_cells hp
  have hlen : (sName arcs).length ≤ 100 := (sArcs_text _ _ ha).2.1
  have HP := Lib.hid (And.intro hp ha)
  clear ha hp
  go_enter Tryd.func48, Tryd.ntmps48
  go_wp2_with fail
  refine (marshalOid_any nm arcs hs HP.out.2 w).mono ?_
  rintro e w1 ⟨v1, rfl, ho, hb⟩
  obtain ⟨A1, c1, rfl, hc1⟩ := Kd.R_slice ho
  have hL := OwnB.within ho
  have hS := VS.start hb HP.out.1 0 0
  obtain ⟨q0, q1, q2⟩ := pdu_cells hS.obj
  have HS := Lib.hid (And.intro hL hS)
  clear ho hb hL hS HP p0 p1 p2
  go_wp2_with fail
  refine (tlv_any (w1.heap.size + 1) (w1.heap.size + 1) [] (sName arcs) 6 A1 _ c1 _ _ HS.out.2.two (HS.out.1.below (below_two w1 _ _)) (by omega) (by omega) rfl (by omega) (by omega) (by simp; omega)).mono ?_
  rintro e w2 ⟨rfl, hW2⟩
  rw [List.nil_append] at hW2
  obtain ⟨g2, S2, -, -⟩ := HS.out.2.wrote hW2
  clear q0 q1 q2
  obtain ⟨q0, q1, q2⟩ := pdu_cells S2.obj
  generalize w1.heap.size + 1 = b2 at *
  generalize w1.heap.size = b1 at *
  have HS2 := Lib.hid S2
  clear S2 hW2 HS
  have hl6 : (sSealed 6 (sName arcs) 0).length ≤ 106 := by have := sSealed_len 6 (sName arcs); omega
  go_wp2_with fail
  refine (writeByte_any b2 g2 _ 130 w2 HS2.out.two (by omega)).mono ?_
  rintro e w3 ⟨rfl, hW3⟩
  obtain ⟨g3, S3, -, -⟩ := HS2.out.wrote hW3
  have HS3 := Lib.hid S3
  clear S3 hW3 HS2 q0 q1 q2
  go_wp2_with fail
  refine (writeByte_any b2 g3 _ 0 w3 HS3.out.two (by simp; omega)).mono ?_
  rintro e w4 ⟨rfl, hW4⟩
  obtain ⟨g4, S4, -, -⟩ := HS3.out.wrote hW4
  have HS4 := Lib.hid S4
  clear S4 hW4 HS3
  go_wp2_with fail
  generalize hbz : sSealed 6 (sName arcs) 0 ++ [130] ++ [0] = bz at *
  have hbl : 1 ≤ bz.length ∧ bz.length ≤ 1000 := by rw [← hbz]; simp; omega
  have hbv : sVar arcs 130 [] 0 = sSealed 48 bz 0 := by rw [← hbz]; unfold sVar; rw [List.append_assoc]; rfl
  have hl48 := sSealed_len 48 bz
  have HB := Lib.hid hbv
  clear hbv hbz
  refine (bytes_any b2 g4 bz w4 HS4.out.two hbl.1 (by omega)).mono ?_
  rintro e w5 ⟨cap, rfl, hR5, k5, rfl⟩
  have HS5 := Lib.hid (And.intro (HS4.out.call (pw_below_drewN (Below.refl _ _) k5)) (hR5.below (pw_below_drewN (Below.refl _ _) k5)))
  clear hR5 HS4
  go_wp2_with fail
  refine (tlv_any b1 b1 [] bz 48 _ _ cap _ _ HS5.out.1.one HS5.out.2 HS5.out.1.ne2 HS5.out.1.ne2 rfl (by omega) (by omega) (by simp; omega)).mono ?_
  rintro e w6 ⟨rfl, K6, g6, B6, hg6⟩
  rw [List.nil_append] at B6
  have HS6 := Lib.hid (And.intro HS5.out.1 (And.intro K6 (And.intro B6 hg6)))
  clear K6 B6 HS5
  go_wp2_with fail
  refine (bytes_any b1 g6 (sSealed 48 bz 0) w6 HS6.out.2.2.1 (by omega) (by omega)).mono ?_
  rintro e w7 ⟨cap7, rfl, hR7, k7, rfl⟩
  have HE := Lib.hid (vb_end HS6.out.1 HS6.out.2.1 HS6.out.2.2.2 hR7 k7)
  clear hR7 HS6
  go_wp2
  go_ret2
  rw [HB.out]
  exact ⟨_, rfl, HE.out⟩

set_option maxRecDepth 100000 in
set_option maxHeartbeats 4000000 in
theorem vb_int (p : Nat) (nm : ByteArray) (arcs : List Int) (n : Int) (n0 : -2147483648 ≤ n) (n1 : n ≤ 2147483647) (w : World) (hs : nm.size ≤ 1000) (ha : sArcs (bs nm) = (arcs, true)) (hp : w.heap[p]? = some (pduO nm 2 (.iface 3 (.int .i64 n)))) :
    Calls Tryd.prog 48 #[.pointer (some ⟨p, 0, none⟩)] w fun e w' => GotV w w' (sVar arcs 2 (mInt32 n) 0) e := by
  obtain ⟨p0, p1, p2⟩ := pdu_cells hp
  have hlen : (sName arcs).length ≤ 100 := (sArcs_text _ _ ha).2.1
  have HP := Lib.hid (And.intro hp ha)
  clear ha hp
  go_enter Tryd.func48, Tryd.ntmps48
  go_wp2_with fail
  refine (marshalOid_any nm arcs hs HP.out.2 w).mono ?_
  rintro e w1 ⟨v1, rfl, ho, hb⟩
  obtain ⟨A1, c1, rfl, hc1⟩ := Kd.R_slice ho
  have hL := OwnB.within ho
  have hS := VS.start hb HP.out.1 0 0
  obtain ⟨q0, q1, q2⟩ := pdu_cells hS.obj
  have HS := Lib.hid (And.intro hL hS)
  clear ho hb hL hS HP p0 p1 p2
  go_wp2_with fail
  refine (tlv_any (w1.heap.size + 1) (w1.heap.size + 1) [] (sName arcs) 6 A1 _ c1 _ _ HS.out.2.two (HS.out.1.below (below_two w1 _ _)) (by omega) (by omega) rfl (by omega) (by omega) (by simp; omega)).mono ?_
  rintro e w2 ⟨rfl, hW2⟩
  rw [List.nil_append] at hW2
  obtain ⟨g2, S2, -, -⟩ := HS.out.2.wrote hW2
  clear q0 q1 q2
  obtain ⟨q0, q1, q2⟩ := pdu_cells S2.obj
  generalize w1.heap.size + 1 = b2 at *
  generalize w1.heap.size = b1 at *
  have HS2 := Lib.hid S2
  clear S2 hW2 HS
  have hl6 : (sSealed 6 (sName arcs) 0).length ≤ 106 := by have := sSealed_len 6 (sName arcs); omega
  have t1 := fun W => ta_int_u8 (.int .i64 n) W
  have t2 := fun W => ta_int_int (.int .i64 n) W
  go_wp2_with fail
  refine (marshalInt32_any n w2 n0 n1).mono ?_
  rintro e w3 ⟨v3, rfl, ho3, hb3⟩
  obtain ⟨A3, c3, rfl, hc3⟩ := Kd.R_slice ho3
  have hL3 := OwnB.within ho3
  have hl3 : (mInt32 n).length ≤ 600 := by have := mInt32_len n; omega
  have S3 := HS2.out.call hb3
  have hs2 := HS2.out.two.lt
  clear q0 q1 q2
  obtain ⟨q0, q1, q2⟩ := pdu_cells S3.obj
  have HS3 := Lib.hid (And.intro hL3 S3)
  clear hL3 S3 HS2 ho3 hb3
  go_wp2_with fail
  refine (tlv_any b2 g2 _ (mInt32 n) 2 A3 _ c3 _ w3 HS3.out.2.two HS3.out.1 (by omega) (by omega) rfl (by omega) (by omega) (by omega)).mono ?_
  rintro e w4 ⟨rfl, hW4⟩
  obtain ⟨g4, S4, -, -⟩ := HS3.out.2.wrote hW4
  have HS4 := Lib.hid S4
  have hlv : 2 ≤ (sSealed 2 (mInt32 n) 0).length ∧ (sSealed 2 (mInt32 n) 0).length ≤ 606 := by have := sSealed_len 2 (mInt32 n); omega
  clear S4 hW4 HS3 q0 q1 q2
  go_wp2_with fail
  generalize hbz : sSealed 6 (sName arcs) 0 ++ sSealed 2 (mInt32 n) 0 = bz at *
  have hbl : 1 ≤ bz.length ∧ bz.length ≤ 1000 := by rw [← hbz]; simp; omega
  have hbv : sVar arcs 2 (mInt32 n) 0 = sSealed 48 bz 0 := by rw [← hbz]; rfl
  have hl48 := sSealed_len 48 bz
  have HB := Lib.hid hbv
  clear hbv hbz
  refine (bytes_any b2 g4 bz w4 HS4.out.two hbl.1 (by omega)).mono ?_
  rintro e w5 ⟨cap, rfl, hR5, k5, rfl⟩
  have HS5 := Lib.hid (And.intro (HS4.out.call (pw_below_drewN (Below.refl _ _) k5)) (hR5.below (pw_below_drewN (Below.refl _ _) k5)))
  clear hR5 HS4
  go_wp2_with fail
  refine (tlv_any b1 b1 [] bz 48 _ _ cap _ _ HS5.out.1.one HS5.out.2 HS5.out.1.ne2 HS5.out.1.ne2 rfl (by omega) (by omega) (by simp; omega)).mono ?_
  rintro e w6 ⟨rfl, K6, g6, B6, hg6⟩
  rw [List.nil_append] at B6
  have HS6 := Lib.hid (And.intro HS5.out.1 (And.intro K6 (And.intro B6 hg6)))
  clear K6 B6 HS5
  go_wp2_with fail
  refine (bytes_any b1 g6 (sSealed 48 bz 0) w6 HS6.out.2.2.1 (by omega) (by omega)).mono ?_
  rintro e w7 ⟨cap7, rfl, hR7, k7, rfl⟩
  have HE := Lib.hid (vb_end HS6.out.1 HS6.out.2.1 HS6.out.2.2.2 hR7 k7)
  clear hR7 HS6
  go_wp2
  go_ret2
  rw [HB.out]
  exact ⟨_, rfl, HE.out⟩

set_option maxRecDepth 100000 in
set_option maxHeartbeats 4000000 in
theorem vb_u65 (p : Nat) (nm : ByteArray) (arcs : List Int) (n : Int) (n0 : 0 ≤ n) (n1 : n ≤ 4294967295) (w : World) (hs : nm.size ≤ 1000) (ha : sArcs (bs nm) = (arcs, true)) (hp : w.heap[p]? = some (pduO nm 65 (.iface 38 (.int .u64 n)))) :
    Calls Tryd.prog 48 #[.pointer (some ⟨p, 0, none⟩)] w fun e w' => GotV w w' (sVar arcs 65 (sUint n) 0) e := by
  obtain ⟨p0, p1, p2⟩ := pdu_cells hp
  have hlen : (sName arcs).length ≤ 100 := (sArcs_text _ _ ha).2.1
  have HP := Lib.hid (And.intro hp ha)
  clear ha hp
  go_enter Tryd.func48, Tryd.ntmps48
  go_wp2_with fail
  refine (marshalOid_any nm arcs hs HP.out.2 w).mono ?_
  rintro e w1 ⟨v1, rfl, ho, hb⟩
  obtain ⟨A1, c1, rfl, hc1⟩ := Kd.R_slice ho
  have hL := OwnB.within ho
  have hS := VS.start hb HP.out.1 0 0
  obtain ⟨q0, q1, q2⟩ := pdu_cells hS.obj
  have HS := Lib.hid (And.intro hL hS)
  clear ho hb hL hS HP p0 p1 p2
  go_wp2_with fail
  refine (tlv_any (w1.heap.size + 1) (w1.heap.size + 1) [] (sName arcs) 6 A1 _ c1 _ _ HS.out.2.two (HS.out.1.below (below_two w1 _ _)) (by omega) (by omega) rfl (by omega) (by omega) (by simp; omega)).mono ?_
  rintro e w2 ⟨rfl, hW2⟩
  rw [List.nil_append] at hW2
  obtain ⟨g2, S2, -, -⟩ := HS.out.2.wrote hW2
  clear q0 q1 q2
  obtain ⟨q0, q1, q2⟩ := pdu_cells S2.obj
  generalize w1.heap.size + 1 = b2 at *
  generalize w1.heap.size = b1 at *
  have HS2 := Lib.hid S2
  clear S2 hW2 HS
  have hl6 : (sSealed 6 (sName arcs) 0).length ≤ 106 := by have := sSealed_len 6 (sName arcs); omega
  have t1 := fun W => ta_uint_u32 (.int .u64 n) W
  have t2 := fun W => ta_uint_uint (.int .u64 n) W
  go_wp2_with fail
  refine (marshalUint32_any n n0 n1 _ (.inr (.inl rfl)) w2).mono ?_
  rintro e w3 ⟨v3, rfl, ho3, hb3⟩
  obtain ⟨A3, c3, rfl, hc3⟩ := (show ∃ A c, v3 = .slice A _ c ∧ _ from by obtain ⟨A, c, e, hc, -⟩ := ReadB.reads ho3; exact ⟨A, c, e, hc⟩)
  have hL3 := ReadB.bound ho3
  have hl3 : (sUint n).length ≤ 600 := by have := sUint_len n; omega
  have S3 := HS2.out.call hb3
  have hs2 := HS2.out.two.lt
  clear q0 q1 q2
  obtain ⟨q0, q1, q2⟩ := pdu_cells S3.obj
  have HS3 := Lib.hid (And.intro hL3 S3)
  clear hL3 S3 HS2 ho3 hb3
  go_wp2_with fail
  refine (tlv_any b2 g2 _ (sUint n) 65 A3 _ c3 _ w3 HS3.out.2.two HS3.out.1 (by omega) (by omega) rfl (by omega) (by omega) (by omega)).mono ?_
  rintro e w4 ⟨rfl, hW4⟩
  obtain ⟨g4, S4, -, -⟩ := HS3.out.2.wrote hW4
  have HS4 := Lib.hid S4
  have hlv : 2 ≤ (sSealed 65 (sUint n) 0).length ∧ (sSealed 65 (sUint n) 0).length ≤ 606 := by have := sSealed_len 65 (sUint n); omega
  clear S4 hW4 HS3 q0 q1 q2
  go_wp2_with fail
  generalize hbz : sSealed 6 (sName arcs) 0 ++ sSealed 65 (sUint n) 0 = bz at *
  have hbl : 1 ≤ bz.length ∧ bz.length ≤ 1000 := by rw [← hbz]; simp; omega
  have hbv : sVar arcs 65 (sUint n) 0 = sSealed 48 bz 0 := by rw [← hbz]; rfl
  have hl48 := sSealed_len 48 bz
  have HB := Lib.hid hbv
  clear hbv hbz
  refine (bytes_any b2 g4 bz w4 HS4.out.two hbl.1 (by omega)).mono ?_
  rintro e w5 ⟨cap, rfl, hR5, k5, rfl⟩
  have HS5 := Lib.hid (And.intro (HS4.out.call (pw_below_drewN (Below.refl _ _) k5)) (hR5.below (pw_below_drewN (Below.refl _ _) k5)))
  clear hR5 HS4
  go_wp2_with fail
  refine (tlv_any b1 b1 [] bz 48 _ _ cap _ _ HS5.out.1.one HS5.out.2 HS5.out.1.ne2 HS5.out.1.ne2 rfl (by omega) (by omega) (by simp; omega)).mono ?_
  rintro e w6 ⟨rfl, K6, g6, B6, hg6⟩
  rw [List.nil_append] at B6
  have HS6 := Lib.hid (And.intro HS5.out.1 (And.intro K6 (And.intro B6 hg6)))
  clear K6 B6 HS5
  go_wp2_with fail
  refine (bytes_any b1 g6 (sSealed 48 bz 0) w6 HS6.out.2.2.1 (by omega) (by omega)).mono ?_
  rintro e w7 ⟨cap7, rfl, hR7, k7, rfl⟩
  have HE := Lib.hid (vb_end HS6.out.1 HS6.out.2.1 HS6.out.2.2.2 hR7 k7)
  clear hR7 HS6
  go_wp2
  go_ret2
  rw [HB.out]
  exact ⟨_, rfl, HE.out⟩

set_option maxRecDepth 100000 in
set_option maxHeartbeats 4000000 in
theorem vb_u66 (p : Nat) (nm : ByteArray) (arcs : List Int) (n : Int) (n0 : 0 ≤ n) (n1 : n ≤ 4294967295) (w : World) (hs : nm.size ≤ 1000) (ha : sArcs (bs nm) = (arcs, true)) (hp : w.heap[p]? = some (pduO nm 66 (.iface 38 (.int .u64 n)))) :
    Calls Tryd.prog 48 #[.pointer (some ⟨p, 0, none⟩)] w fun e w' => GotV w w' (sVar arcs 66 (sUint n) 0) e := by
  obtain ⟨p0, p1, p2⟩ := pdu_cells hp
  have hlen : (sName arcs).length ≤ 100 := (sArcs_text _ _ ha).2.1
  have HP := Lib.hid (And.intro hp ha)
  clear ha hp
  go_enter Tryd.func48, Tryd.ntmps48
  go_wp2_with fail
  refine (marshalOid_any nm arcs hs HP.out.2 w).mono ?_
  rintro e w1 ⟨v1, rfl, ho, hb⟩
  obtain ⟨A1, c1, rfl, hc1⟩ := Kd.R_slice ho
  have hL := OwnB.within ho
  have hS := VS.start hb HP.out.1 0 0
  obtain ⟨q0, q1, q2⟩ := pdu_cells hS.obj
  have HS := Lib.hid (And.intro hL hS)
  clear ho hb hL hS HP p0 p1 p2
  go_wp2_with fail
  refine (tlv_any (w1.heap.size + 1) (w1.heap.size + 1) [] (sName arcs) 6 A1 _ c1 _ _ HS.out.2.two (HS.out.1.below (below_two w1 _ _)) (by omega) (by omega) rfl (by omega) (by omega) (by simp; omega)).mono ?_
  rintro e w2 ⟨rfl, hW2⟩
  rw [List.nil_append] at hW2
  obtain ⟨g2, S2, -, -⟩ := HS.out.2.wrote hW2
  clear q0 q1 q2
  obtain ⟨q0, q1, q2⟩ := pdu_cells S2.obj
  generalize w1.heap.size + 1 = b2 at *
  generalize w1.heap.size = b1 at *
  have HS2 := Lib.hid S2
  clear S2 hW2 HS
  have hl6 : (sSealed 6 (sName arcs) 0).length ≤ 106 := by have := sSealed_len 6 (sName arcs); omega
  have t1 := fun W => ta_uint_u32 (.int .u64 n) W
  have t2 := fun W => ta_uint_uint (.int .u64 n) W
  go_wp2_with fail
  refine (marshalUint32_any n n0 n1 _ (.inr (.inl rfl)) w2).mono ?_
  rintro e w3 ⟨v3, rfl, ho3, hb3⟩
  obtain ⟨A3, c3, rfl, hc3⟩ := (show ∃ A c, v3 = .slice A _ c ∧ _ from by obtain ⟨A, c, e, hc, -⟩ := ReadB.reads ho3; exact ⟨A, c, e, hc⟩)
  have hL3 := ReadB.bound ho3
  have hl3 : (sUint n).length ≤ 600 := by have := sUint_len n; omega
  have S3 := HS2.out.call hb3
  have hs2 := HS2.out.two.lt
  clear q0 q1 q2
  obtain ⟨q0, q1, q2⟩ := pdu_cells S3.obj
  have HS3 := Lib.hid (And.intro hL3 S3)
  clear hL3 S3 HS2 ho3 hb3
  go_wp2_with fail
  refine (tlv_any b2 g2 _ (sUint n) 66 A3 _ c3 _ w3 HS3.out.2.two HS3.out.1 (by omega) (by omega) rfl (by omega) (by omega) (by omega)).mono ?_
  rintro e w4 ⟨rfl, hW4⟩
  obtain ⟨g4, S4, -, -⟩ := HS3.out.2.wrote hW4
  have HS4 := Lib.hid S4
  have hlv : 2 ≤ (sSealed 66 (sUint n) 0).length ∧ (sSealed 66 (sUint n) 0).length ≤ 606 := by have := sSealed_len 66 (sUint n); omega
  clear S4 hW4 HS3 q0 q1 q2
  go_wp2_with fail
  generalize hbz : sSealed 6 (sName arcs) 0 ++ sSealed 66 (sUint n) 0 = bz at *
  have hbl : 1 ≤ bz.length ∧ bz.length ≤ 1000 := by rw [← hbz]; simp; omega
  have hbv : sVar arcs 66 (sUint n) 0 = sSealed 48 bz 0 := by rw [← hbz]; rfl
  have hl48 := sSealed_len 48 bz
  have HB := Lib.hid hbv
  clear hbv hbz
  refine (bytes_any b2 g4 bz w4 HS4.out.two hbl.1 (by omega)).mono ?_
  rintro e w5 ⟨cap, rfl, hR5, k5, rfl⟩
  have HS5 := Lib.hid (And.intro (HS4.out.call (pw_below_drewN (Below.refl _ _) k5)) (hR5.below (pw_below_drewN (Below.refl _ _) k5)))
  clear hR5 HS4
  go_wp2_with fail
  refine (tlv_any b1 b1 [] bz 48 _ _ cap _ _ HS5.out.1.one HS5.out.2 HS5.out.1.ne2 HS5.out.1.ne2 rfl (by omega) (by omega) (by simp; omega)).mono ?_
  rintro e w6 ⟨rfl, K6, g6, B6, hg6⟩
  rw [List.nil_append] at B6
  have HS6 := Lib.hid (And.intro HS5.out.1 (And.intro K6 (And.intro B6 hg6)))
  clear K6 B6 HS5
  go_wp2_with fail
  refine (bytes_any b1 g6 (sSealed 48 bz 0) w6 HS6.out.2.2.1 (by omega) (by omega)).mono ?_
  rintro e w7 ⟨cap7, rfl, hR7, k7, rfl⟩
  have HE := Lib.hid (vb_end HS6.out.1 HS6.out.2.1 HS6.out.2.2.2 hR7 k7)
  clear hR7 HS6
  go_wp2
  go_ret2
  rw [HB.out]
  exact ⟨_, rfl, HE.out⟩

set_option maxRecDepth 100000 in
set_option maxHeartbeats 4000000 in
theorem vb_u67 (p : Nat) (nm : ByteArray) (arcs : List Int) (n : Int) (n0 : 0 ≤ n) (n1 : n ≤ 4294967295) (w : World) (hs : nm.size ≤ 1000) (ha : sArcs (bs nm) = (arcs, true)) (hp : w.heap[p]? = some (pduO nm 67 (.iface 38 (.int .u64 n)))) :
    Calls Tryd.prog 48 #[.pointer (some ⟨p, 0, none⟩)] w fun e w' => GotV w w' (sVar arcs 67 (sUint n) 0) e := by
  obtain ⟨p0, p1, p2⟩ := pdu_cells hp
  have hlen : (sName arcs).length ≤ 100 := (sArcs_text _ _ ha).2.1
  have HP := Lib.hid (And.intro hp ha)
  clear ha hp
  go_enter Tryd.func48, Tryd.ntmps48
  go_wp2_with fail
  refine (marshalOid_any nm arcs hs HP.out.2 w).mono ?_
  rintro e w1 ⟨v1, rfl, ho, hb⟩
  obtain ⟨A1, c1, rfl, hc1⟩ := Kd.R_slice ho
  have hL := OwnB.within ho
  have hS := VS.start hb HP.out.1 0 0
  obtain ⟨q0, q1, q2⟩ := pdu_cells hS.obj
  have HS := Lib.hid (And.intro hL hS)
  clear ho hb hL hS HP p0 p1 p2
  go_wp2_with fail
  refine (tlv_any (w1.heap.size + 1) (w1.heap.size + 1) [] (sName arcs) 6 A1 _ c1 _ _ HS.out.2.two (HS.out.1.below (below_two w1 _ _)) (by omega) (by omega) rfl (by omega) (by omega) (by simp; omega)).mono ?_
  rintro e w2 ⟨rfl, hW2⟩
  rw [List.nil_append] at hW2
  obtain ⟨g2, S2, -, -⟩ := HS.out.2.wrote hW2
  clear q0 q1 q2
  obtain ⟨q0, q1, q2⟩ := pdu_cells S2.obj
  generalize w1.heap.size + 1 = b2 at *
  generalize w1.heap.size = b1 at *
  have HS2 := Lib.hid S2
  clear S2 hW2 HS
  have hl6 : (sSealed 6 (sName arcs) 0).length ≤ 106 := by have := sSealed_len 6 (sName arcs); omega
  have t1 := fun W => ta_uint_u32 (.int .u64 n) W
  have t2 := fun W => ta_uint_uint (.int .u64 n) W
  go_wp2_with fail
  refine (marshalUint32_any n n0 n1 _ (.inr (.inl rfl)) w2).mono ?_
  rintro e w3 ⟨v3, rfl, ho3, hb3⟩
  obtain ⟨A3, c3, rfl, hc3⟩ := (show ∃ A c, v3 = .slice A _ c ∧ _ from by obtain ⟨A, c, e, hc, -⟩ := ReadB.reads ho3; exact ⟨A, c, e, hc⟩)
  have hL3 := ReadB.bound ho3
  have hl3 : (sUint n).length ≤ 600 := by have := sUint_len n; omega
  have S3 := HS2.out.call hb3
  have hs2 := HS2.out.two.lt
  clear q0 q1 q2
  obtain ⟨q0, q1, q2⟩ := pdu_cells S3.obj
  have HS3 := Lib.hid (And.intro hL3 S3)
  clear hL3 S3 HS2 ho3 hb3
  go_wp2_with fail
  refine (tlv_any b2 g2 _ (sUint n) 67 A3 _ c3 _ w3 HS3.out.2.two HS3.out.1 (by omega) (by omega) rfl (by omega) (by omega) (by omega)).mono ?_
  rintro e w4 ⟨rfl, hW4⟩
  obtain ⟨g4, S4, -, -⟩ := HS3.out.2.wrote hW4
  have HS4 := Lib.hid S4
  have hlv : 2 ≤ (sSealed 67 (sUint n) 0).length ∧ (sSealed 67 (sUint n) 0).length ≤ 606 := by have := sSealed_len 67 (sUint n); omega
  clear S4 hW4 HS3 q0 q1 q2
  go_wp2_with fail
  generalize hbz : sSealed 6 (sName arcs) 0 ++ sSealed 67 (sUint n) 0 = bz at *
  have hbl : 1 ≤ bz.length ∧ bz.length ≤ 1000 := by rw [← hbz]; simp; omega
  have hbv : sVar arcs 67 (sUint n) 0 = sSealed 48 bz 0 := by rw [← hbz]; rfl
  have hl48 := sSealed_len 48 bz
  have HB := Lib.hid hbv
  clear hbv hbz
  refine (bytes_any b2 g4 bz w4 HS4.out.two hbl.1 (by omega)).mono ?_
  rintro e w5 ⟨cap, rfl, hR5, k5, rfl⟩
  have HS5 := Lib.hid (And.intro (HS4.out.call (pw_below_drewN (Below.refl _ _) k5)) (hR5.below (pw_below_drewN (Below.refl _ _) k5)))
  clear hR5 HS4
  go_wp2_with fail
  refine (tlv_any b1 b1 [] bz 48 _ _ cap _ _ HS5.out.1.one HS5.out.2 HS5.out.1.ne2 HS5.out.1.ne2 rfl (by omega) (by omega) (by simp; omega)).mono ?_
  rintro e w6 ⟨rfl, K6, g6, B6, hg6⟩
  rw [List.nil_append] at B6
  have HS6 := Lib.hid (And.intro HS5.out.1 (And.intro K6 (And.intro B6 hg6)))
  clear K6 B6 HS5
  go_wp2_with fail
  refine (bytes_any b1 g6 (sSealed 48 bz 0) w6 HS6.out.2.2.1 (by omega) (by omega)).mono ?_
  rintro e w7 ⟨cap7, rfl, hR7, k7, rfl⟩
  have HE := Lib.hid (vb_end HS6.out.1 HS6.out.2.1 HS6.out.2.2.2 hR7 k7)
  clear hR7 HS6
  go_wp2
  go_ret2
  rw [HB.out]
  exact ⟨_, rfl, HE.out⟩

set_option maxRecDepth 100000 in
set_option maxHeartbeats 4000000 in
theorem vb_c64 (p : Nat) (nm : ByteArray) (arcs : List Int) (n : Int) (n0 : 0 ≤ n) (n1 : n ≤ 18446744073709551615) (w : World) (hs : nm.size ≤ 1000) (ha : sArcs (bs nm) = (arcs, true)) (hp : w.heap[p]? = some (pduO nm 70 (.iface 22 (.int .u64 n)))) :
    Calls Tryd.prog 48 #[.pointer (some ⟨p, 0, none⟩)] w fun e w' => GotV w w' (sVar arcs 70 (sUint n) 0) e := by
  obtain ⟨p0, p1, p2⟩ := pdu_cells hp
  have hlen : (sName arcs).length ≤ 100 := (sArcs_text _ _ ha).2.1
  have HP := Lib.hid (And.intro hp ha)
  clear ha hp
  go_enter Tryd.func48, Tryd.ntmps48
  go_wp2_with fail
  refine (marshalOid_any nm arcs hs HP.out.2 w).mono ?_
  rintro e w1 ⟨v1, rfl, ho, hb⟩
  obtain ⟨A1, c1, rfl, hc1⟩ := Kd.R_slice ho
  have hL := OwnB.within ho
  have hS := VS.start hb HP.out.1 0 0
  obtain ⟨q0, q1, q2⟩ := pdu_cells hS.obj
  have HS := Lib.hid (And.intro hL hS)
  clear ho hb hL hS HP p0 p1 p2
  go_wp2_with fail
  refine (tlv_any (w1.heap.size + 1) (w1.heap.size + 1) [] (sName arcs) 6 A1 _ c1 _ _ HS.out.2.two (HS.out.1.below (below_two w1 _ _)) (by omega) (by omega) rfl (by omega) (by omega) (by simp; omega)).mono ?_
  rintro e w2 ⟨rfl, hW2⟩
  rw [List.nil_append] at hW2
  obtain ⟨g2, S2, -, -⟩ := HS.out.2.wrote hW2
  clear q0 q1 q2
  obtain ⟨q0, q1, q2⟩ := pdu_cells S2.obj
  generalize w1.heap.size + 1 = b2 at *
  generalize w1.heap.size = b1 at *
  have HS2 := Lib.hid S2
  clear S2 hW2 HS
  have hl6 : (sSealed 6 (sName arcs) 0).length ≤ 106 := by have := sSealed_len 6 (sName arcs); omega
  go_wp2_with fail
  refine (marshalUint64_any n n0 n1 w2).mono ?_
  rintro e w3 ⟨v3, rfl, ho3, hb3⟩
  obtain ⟨A3, c3, rfl, hc3⟩ := (show ∃ A c, v3 = .slice A _ c ∧ _ from by obtain ⟨A, c, e, hc, -⟩ := ReadB.reads ho3; exact ⟨A, c, e, hc⟩)
  have hL3 := ReadB.bound ho3
  have hl3 : (sUint n).length ≤ 600 := by have := sUint_len n; omega
  have S3 := HS2.out.call hb3
  have hs2 := HS2.out.two.lt
  clear q0 q1 q2
  obtain ⟨q0, q1, q2⟩ := pdu_cells S3.obj
  have HS3 := Lib.hid (And.intro hL3 S3)
  clear hL3 S3 HS2 ho3 hb3
  go_wp2_with fail
  refine (tlv_any b2 g2 _ (sUint n) 70 A3 _ c3 _ w3 HS3.out.2.two HS3.out.1 (by omega) (by omega) rfl (by omega) (by omega) (by omega)).mono ?_
  rintro e w4 ⟨rfl, hW4⟩
  obtain ⟨g4, S4, -, -⟩ := HS3.out.2.wrote hW4
  have HS4 := Lib.hid S4
  have hlv : 2 ≤ (sSealed 70 (sUint n) 0).length ∧ (sSealed 70 (sUint n) 0).length ≤ 606 := by have := sSealed_len 70 (sUint n); omega
  clear S4 hW4 HS3 q0 q1 q2
  go_wp2_with fail
  generalize hbz : sSealed 6 (sName arcs) 0 ++ sSealed 70 (sUint n) 0 = bz at *
  have hbl : 1 ≤ bz.length ∧ bz.length ≤ 1000 := by rw [← hbz]; simp; omega
  have hbv : sVar arcs 70 (sUint n) 0 = sSealed 48 bz 0 := by rw [← hbz]; rfl
  have hl48 := sSealed_len 48 bz
  have HB := Lib.hid hbv
  clear hbv hbz
  refine (bytes_any b2 g4 bz w4 HS4.out.two hbl.1 (by omega)).mono ?_
  rintro e w5 ⟨cap, rfl, hR5, k5, rfl⟩
  have HS5 := Lib.hid (And.intro (HS4.out.call (pw_below_drewN (Below.refl _ _) k5)) (hR5.below (pw_below_drewN (Below.refl _ _) k5)))
  clear hR5 HS4
  go_wp2_with fail
  refine (tlv_any b1 b1 [] bz 48 _ _ cap _ _ HS5.out.1.one HS5.out.2 HS5.out.1.ne2 HS5.out.1.ne2 rfl (by omega) (by omega) (by simp; omega)).mono ?_
  rintro e w6 ⟨rfl, K6, g6, B6, hg6⟩
  rw [List.nil_append] at B6
  have HS6 := Lib.hid (And.intro HS5.out.1 (And.intro K6 (And.intro B6 hg6)))
  clear K6 B6 HS5
  go_wp2_with fail
  refine (bytes_any b1 g6 (sSealed 48 bz 0) w6 HS6.out.2.2.1 (by omega) (by omega)).mono ?_
  rintro e w7 ⟨cap7, rfl, hR7, k7, rfl⟩
  have HE := Lib.hid (vb_end HS6.out.1 HS6.out.2.1 HS6.out.2.2.2 hR7 k7)
  clear hR7 HS6
  go_wp2
  go_ret2
  rw [HB.out]
  exact ⟨_, rfl, HE.out⟩

set_option maxRecDepth 100000 in
set_option maxHeartbeats 4000000 in
theorem vb_oid (p : Nat) (nm : ByteArray) (arcs : List Int) (tx : ByteArray) (arcs2 : List Int) (hs2 : tx.size ≤ 1000) (ha2 : sArcs (bs tx) = (arcs2, true)) (w : World) (hs : nm.size ≤ 1000) (ha : sArcs (bs nm) = (arcs, true)) (hp : w.heap[p]? = some (pduO nm 6 (.iface 9 (.string tx)))) :
    Calls Tryd.prog 48 #[.pointer (some ⟨p, 0, none⟩)] w fun e w' => GotV w w' (sVar arcs 6 (sName arcs2) 0) e := by
  obtain ⟨p0, p1, p2⟩ := pdu_cells hp
  have hlen : (sName arcs).length ≤ 100 := (sArcs_text _ _ ha).2.1
  have HP := Lib.hid (And.intro hp ha)
  clear ha hp
  have hlen2 : (sName arcs2).length ≤ 100 := (sArcs_text _ _ ha2).2.1
  have HA2 := Lib.hid ha2
  clear ha2
  go_enter Tryd.func48, Tryd.ntmps48
  go_wp2_with fail
  refine (marshalOid_any nm arcs hs HP.out.2 w).mono ?_
  rintro e w1 ⟨v1, rfl, ho, hb⟩
  obtain ⟨A1, c1, rfl, hc1⟩ := Kd.R_slice ho
  have hL := OwnB.within ho
  have hS := VS.start hb HP.out.1 0 0
  obtain ⟨q0, q1, q2⟩ := pdu_cells hS.obj
  have HS := Lib.hid (And.intro hL hS)
  clear ho hb hL hS HP p0 p1 p2
  go_wp2_with fail
  refine (tlv_any (w1.heap.size + 1) (w1.heap.size + 1) [] (sName arcs) 6 A1 _ c1 _ _ HS.out.2.two (HS.out.1.below (below_two w1 _ _)) (by omega) (by omega) rfl (by omega) (by omega) (by simp; omega)).mono ?_
  rintro e w2 ⟨rfl, hW2⟩
  rw [List.nil_append] at hW2
  obtain ⟨g2, S2, -, -⟩ := HS.out.2.wrote hW2
  clear q0 q1 q2
  obtain ⟨q0, q1, q2⟩ := pdu_cells S2.obj
  generalize w1.heap.size + 1 = b2 at *
  generalize w1.heap.size = b1 at *
  have HS2 := Lib.hid S2
  clear S2 hW2 HS
  have hl6 : (sSealed 6 (sName arcs) 0).length ≤ 106 := by have := sSealed_len 6 (sName arcs); omega
  have t1 := fun W => ta_str_one (.string tx) W
  go_wp2_with fail
  refine (marshalOid_any tx arcs2 hs2 HA2.out w2).mono ?_
  rintro e w3 ⟨v3, rfl, ho3, hb3⟩
  obtain ⟨A3, c3, rfl, hc3⟩ := Kd.R_slice ho3
  have hL3 := OwnB.within ho3
  have hl3 : (sName arcs2).length ≤ 600 := by omega
  have S3 := HS2.out.call hb3
  have hs2 := HS2.out.two.lt
  clear q0 q1 q2
  obtain ⟨q0, q1, q2⟩ := pdu_cells S3.obj
  have HS3 := Lib.hid (And.intro hL3 S3)
  clear hL3 S3 HS2 ho3 hb3
  go_wp2_with fail
  refine (tlv_any b2 g2 _ (sName arcs2) 6 A3 _ c3 _ w3 HS3.out.2.two HS3.out.1 (by omega) (by omega) rfl (by omega) (by omega) (by omega)).mono ?_
  rintro e w4 ⟨rfl, hW4⟩
  obtain ⟨g4, S4, -, -⟩ := HS3.out.2.wrote hW4
  have HS4 := Lib.hid S4
  have hlv : 2 ≤ (sSealed 6 (sName arcs2) 0).length ∧ (sSealed 6 (sName arcs2) 0).length ≤ 606 := by have := sSealed_len 6 (sName arcs2); omega
  clear S4 hW4 HS3 q0 q1 q2
  go_wp2_with fail
  generalize hbz : sSealed 6 (sName arcs) 0 ++ sSealed 6 (sName arcs2) 0 = bz at *
  have hbl : 1 ≤ bz.length ∧ bz.length ≤ 1000 := by rw [← hbz]; simp; omega
  have hbv : sVar arcs 6 (sName arcs2) 0 = sSealed 48 bz 0 := by rw [← hbz]; rfl
  have hl48 := sSealed_len 48 bz
  have HB := Lib.hid hbv
  clear hbv hbz
  refine (bytes_any b2 g4 bz w4 HS4.out.two hbl.1 (by omega)).mono ?_
  rintro e w5 ⟨cap, rfl, hR5, k5, rfl⟩
  have HS5 := Lib.hid (And.intro (HS4.out.call (pw_below_drewN (Below.refl _ _) k5)) (hR5.below (pw_below_drewN (Below.refl _ _) k5)))
  clear hR5 HS4
  go_wp2_with fail
  refine (tlv_any b1 b1 [] bz 48 _ _ cap _ _ HS5.out.1.one HS5.out.2 HS5.out.1.ne2 HS5.out.1.ne2 rfl (by omega) (by omega) (by simp; omega)).mono ?_
  rintro e w6 ⟨rfl, K6, g6, B6, hg6⟩
  rw [List.nil_append] at B6
  have HS6 := Lib.hid (And.intro HS5.out.1 (And.intro K6 (And.intro B6 hg6)))
  clear K6 B6 HS5
  go_wp2_with fail
  refine (bytes_any b1 g6 (sSealed 48 bz 0) w6 HS6.out.2.2.1 (by omega) (by omega)).mono ?_
  rintro e w7 ⟨cap7, rfl, hR7, k7, rfl⟩
  have HE := Lib.hid (vb_end HS6.out.1 HS6.out.2.1 HS6.out.2.2.2 hR7 k7)
  clear hR7 HS6
  go_wp2
  go_ret2
  rw [HB.out]
  exact ⟨_, rfl, HE.out⟩

set_option maxRecDepth 100000 in
set_option maxHeartbeats 4000000 in
theorem vb_oct (p : Nat) (nm : ByteArray) (arcs : List Int) (tx : ByteArray) (ht : tx.size ≤ 500) (w : World) (hs : nm.size ≤ 1000) (ha : sArcs (bs nm) = (arcs, true)) (hp : w.heap[p]? = some (pduO nm 4 (.iface 9 (.string tx)))) :
    Calls Tryd.prog 48 #[.pointer (some ⟨p, 0, none⟩)] w fun e w' => GotV w w' (sVar arcs 4 (bs tx) 0) e := by
  obtain ⟨p0, p1, p2⟩ := pdu_cells hp
  have hlen : (sName arcs).length ≤ 100 := (sArcs_text _ _ ha).2.1
  have HP := Lib.hid (And.intro hp ha)
  clear ha hp
  go_enter Tryd.func48, Tryd.ntmps48
  go_wp2_with fail
  refine (marshalOid_any nm arcs hs HP.out.2 w).mono ?_
  rintro e w1 ⟨v1, rfl, ho, hb⟩
  obtain ⟨A1, c1, rfl, hc1⟩ := Kd.R_slice ho
  have hL := OwnB.within ho
  have hS := VS.start hb HP.out.1 0 0
  obtain ⟨q0, q1, q2⟩ := pdu_cells hS.obj
  have HS := Lib.hid (And.intro hL hS)
  clear ho hb hL hS HP p0 p1 p2
  go_wp2_with fail
  refine (tlv_any (w1.heap.size + 1) (w1.heap.size + 1) [] (sName arcs) 6 A1 _ c1 _ _ HS.out.2.two (HS.out.1.below (below_two w1 _ _)) (by omega) (by omega) rfl (by omega) (by omega) (by simp; omega)).mono ?_
  rintro e w2 ⟨rfl, hW2⟩
  rw [List.nil_append] at hW2
  obtain ⟨g2, S2, -, -⟩ := HS.out.2.wrote hW2
  clear q0 q1 q2
  obtain ⟨q0, q1, q2⟩ := pdu_cells S2.obj
  generalize w1.heap.size + 1 = b2 at *
  generalize w1.heap.size = b1 at *
  have HS2 := Lib.hid S2
  clear S2 hW2 HS
  have hl6 : (sSealed 6 (sName arcs) 0).length ≤ 106 := by have := sSealed_len 6 (sName arcs); omega
  have t1 := fun W => ta_str_bytes (.string tx) W
  have t2 := fun W => ta_str_str (.string tx) W
  have hcv := Lib.run_convert_string_bytes (P := Tryd.prog) w2 9 26 5 tx Tryd.underlying9 Tryd.underlying26 Tryd.underlying5
  have hcap : tx.size ≤ grownCap w2 tx.size 0 5 := grownCap_ge w2 _ _ _
  generalize grownCap w2 tx.size 0 5 = c3 at *
  have hbs := bs_length tx
  have hL3 := bytesWorld_read w2 tx (by omega) c3 hcap
  have hB3 := bytesWorld_below w2 tx
  generalize Lib.bytesWorld w2 5 tx = w3 at *
  have S3 := HS2.out.call hB3
  have hs2 := HS2.out.two.lt
  have q2' := (pdu_cells S3.obj).2.2
  have HS3 := Lib.hid (And.intro (ReadB.bound hL3) S3)
  clear hL3 S3 HS2 hB3
  go_wp2_with fail
  refine (tlv_any b2 g2 _ (bs tx) 4 _ tx.size c3 _ w3 HS3.out.2.two HS3.out.1 (by omega) (by omega) hbs (by omega) (by omega) (by omega)).mono ?_
  rintro e w4 ⟨rfl, hW4⟩
  obtain ⟨g4, S4, -, -⟩ := HS3.out.2.wrote hW4
  have HS4 := Lib.hid S4
  have hlv : 2 ≤ (sSealed 4 (bs tx) 0).length ∧ (sSealed 4 (bs tx) 0).length ≤ 606 := by have := sSealed_len 4 (bs tx); omega
  clear S4 hW4 HS3 q0 q1 q2 q2'
  go_wp2_with fail
  generalize hbz : sSealed 6 (sName arcs) 0 ++ sSealed 4 (bs tx) 0 = bz at *
  have hbl : 1 ≤ bz.length ∧ bz.length ≤ 1000 := by rw [← hbz]; simp; omega
  have hbv : sVar arcs 4 (bs tx) 0 = sSealed 48 bz 0 := by rw [← hbz]; rfl
  have hl48 := sSealed_len 48 bz
  have HB := Lib.hid hbv
  clear hbv hbz
  refine (bytes_any b2 g4 bz w4 HS4.out.two hbl.1 (by omega)).mono ?_
  rintro e w5 ⟨cap, rfl, hR5, k5, rfl⟩
  have HS5 := Lib.hid (And.intro (HS4.out.call (pw_below_drewN (Below.refl _ _) k5)) (hR5.below (pw_below_drewN (Below.refl _ _) k5)))
  clear hR5 HS4
  go_wp2_with fail
  refine (tlv_any b1 b1 [] bz 48 _ _ cap _ _ HS5.out.1.one HS5.out.2 HS5.out.1.ne2 HS5.out.1.ne2 rfl (by omega) (by omega) (by simp; omega)).mono ?_
  rintro e w6 ⟨rfl, K6, g6, B6, hg6⟩
  rw [List.nil_append] at B6
  have HS6 := Lib.hid (And.intro HS5.out.1 (And.intro K6 (And.intro B6 hg6)))
  clear K6 B6 HS5
  go_wp2_with fail
  refine (bytes_any b1 g6 (sSealed 48 bz 0) w6 HS6.out.2.2.1 (by omega) (by omega)).mono ?_
  rintro e w7 ⟨cap7, rfl, hR7, k7, rfl⟩
  have HE := Lib.hid (vb_end HS6.out.1 HS6.out.2.1 HS6.out.2.2.2 hR7 k7)
  clear hR7 HS6
  go_wp2
  go_ret2
  rw [HB.out]
  exact ⟨_, rfl, HE.out⟩
end Go.Proofs.YtangjgclpipjdaaDoor
