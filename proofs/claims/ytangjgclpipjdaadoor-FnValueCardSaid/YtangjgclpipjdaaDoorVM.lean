/- marshalVarbind: the walk at an address (printed by genVb3.py). impl.pdu, ZZVarbind, impl.Value: the walks. -/
import Derived.Test.YtangjgclpipjdaaDoorVK
import Derived.Test.YtangjgclpipjdaaDoorVL
set_option linter.unusedVariables false
namespace Go.Proofs.YtangjgclpipjdaaDoor
open Go.RowKit Go.Proofs.YtangjgclpipjdaaDoorW.PrintWords Go.Proofs.YtangjgclpipjdaaDoorW.PrintLast Go.Proofs.YtangjgclpipjdaaDoorW.PrintMore

theorem ipv4to_any (g : Nat) (w : World) : Calls Tryd.prog 63 #[.slice (some ⟨g, 0, none⟩) 16 16] w fun e w' => e = .returned (.slice (some ⟨g, 12, none⟩) 4 4) ∧ w' = w := by
  go_enter Tryd.func63, Tryd.ntmps63
  go_wp2
  go_ret
  exact ⟨rfl, rfl⟩

set_option maxRecDepth 100000 in
set_option maxHeartbeats 4000000 in
theorem vb_ip (p : Nat) (nm : ByteArray) (arcs : List Int) (tx : ByteArray) (a b c d : Int) (ht : tx.size ≤ 1000) (hat : sAddr (bs tx) = ([a, b, c, d], true)) (z : Addr) (w : World) (hs : nm.size ≤ 1000) (ha : sArcs (bs nm) = (arcs, true)) (hp : w.heap[p]? = some (pduO nm 64 (.iface 9 (.string tx)))) :
    ZZone z w → Calls Tryd.prog 48 #[.pointer (some ⟨p, 0, none⟩)] w fun e w' => GotV w w' (sVar arcs 64 [a, b, c, d] 0) e := by
  intro hZ
  obtain ⟨p0, p1, p2⟩ := pdu_cells hp
  have HA := Lib.hid (And.intro hat hZ)
  clear hat hZ
  have hlen : (sName arcs).length ≤ 100 := (sArcs_text _ _ ha).2.1
  have HP := Lib.hid (And.intro hp ha)
  clear ha hp
  go_enter Tryd.func48, Tryd.ntmps48
  go_wp2_with fail
  refine (marshalOid_any nm arcs hs HP.out.2 w).mono ?_
  rintro e w1 ⟨v1, rfl, ho, hb⟩
  obtain ⟨A1, c1, rfl, hc1⟩ := Kd.R_slice ho
  have hL := OwnB.within ho
  have hS := VS.start hb HP.out.1 0 0
  obtain ⟨q0, q1, q2⟩ := pdu_cells hS.obj
  have HS := Lib.hid (And.intro hL hS)
  clear ho hb hL hS HP p0 p1 p2
  go_wp2_with fail
  refine (tlv_any (w1.heap.size + 1) (w1.heap.size + 1) [] (sName arcs) 6 A1 _ c1 _ _ HS.out.2.two (HS.out.1.below (below_two w1 _ _)) (by omega) (by omega) rfl (by omega) (by omega) (by simp; omega)).mono ?_
  rintro e w2 ⟨rfl, hW2⟩
  rw [List.nil_append] at hW2
  obtain ⟨g2, S2, -, -⟩ := HS.out.2.wrote hW2
  clear q0 q1 q2
  obtain ⟨q0, q1, q2⟩ := pdu_cells S2.obj
  generalize w1.heap.size + 1 = b2 at *
  generalize w1.heap.size = b1 at *
  have HS2 := Lib.hid S2
  clear S2 hW2 HS
  have hl6 : (sSealed 6 (sName arcs) 0).length ≤ 106 := by have := sSealed_len 6 (sName arcs); omega
  have t1 := fun W => ta_str_bytes (.string tx) W
  have t2 := fun W => ta_str_str (.string tx) W
  go_wp2_with fail
  refine (zzParse_any tx a b c d HA.out.1 ht z w2 (HA.out.2.on HS2.out.below)).mono ?_
  rintro e w3 ⟨g3, rfl, hg3, hblk, hb3⟩
  have hL3 : ReadB w3 (fun k => w2.heap.size ≤ k) (.slice (some ⟨g3, 12, none⟩) 4 4) [a, b, c, d] := readB_block hblk rfl rfl (by omega) hg3
  have S3 := HS2.out.call hb3
  have hs2 := HS2.out.two.lt
  have q2' := (pdu_cells S3.obj).2.2
  have HS3 := Lib.hid (And.intro (ReadB.bound hL3) S3)
  clear hL3 S3 HS2 hb3 hblk
  go_wp2_with fail
  refine (ipv4to_any g3 w3).mono ?_
  rintro e w3' ⟨rfl, rfl⟩
  go_wp2_with fail
  refine (tlv_any b2 g2 _ [a, b, c, d] 64 _ 4 4 _ w3' HS3.out.2.two HS3.out.1 (by omega) (by omega) rfl (by omega) (by omega) (by omega)).mono ?_
  rintro e w4 ⟨rfl, hW4⟩
  obtain ⟨g4, S4, -, -⟩ := HS3.out.2.wrote hW4
  have HS4 := Lib.hid S4
  have hlv : 2 ≤ (sSealed 64 [a, b, c, d] 0).length ∧ (sSealed 64 [a, b, c, d] 0).length ≤ 606 := by have := sSealed_len 64 [a, b, c, d]; simp at this; omega
  clear S4 hW4 HS3 q0 q1 q2 q2'
  go_wp2_with fail
  generalize hbz : sSealed 6 (sName arcs) 0 ++ sSealed 64 ([a, b, c, d]) 0 = bz at *
  have hbl : 1 ≤ bz.length ∧ bz.length ≤ 1000 := by rw [← hbz]; simp; omega
  have hbv : sVar arcs 64 ([a, b, c, d]) 0 = sSealed 48 bz 0 := by rw [← hbz]; rfl
  have hl48 := sSealed_len 48 bz
  have HB := Lib.hid hbv
  clear hbv hbz
  refine (bytes_any b2 g4 bz w4 HS4.out.two hbl.1 (by omega)).mono ?_
  rintro e w5 ⟨cap, rfl, hR5, k5, rfl⟩
  have HS5 := Lib.hid (And.intro (HS4.out.call (pw_below_drewN (Below.refl _ _) k5)) (hR5.below (pw_below_drewN (Below.refl _ _) k5)))
  clear hR5 HS4
  go_wp2_with fail
  refine (tlv_any b1 b1 [] bz 48 _ _ cap _ _ HS5.out.1.one HS5.out.2 HS5.out.1.ne2 HS5.out.1.ne2 rfl (by omega) (by omega) (by simp; omega)).mono ?_
  rintro e w6 ⟨rfl, K6, g6, B6, hg6⟩
  rw [List.nil_append] at B6
  have HS6 := Lib.hid (And.intro HS5.out.1 (And.intro K6 (And.intro B6 hg6)))
  clear K6 B6 HS5
  go_wp2_with fail
  refine (bytes_any b1 g6 (sSealed 48 bz 0) w6 HS6.out.2.2.1 (by omega) (by omega)).mono ?_
  rintro e w7 ⟨cap7, rfl, hR7, k7, rfl⟩
  have HE := Lib.hid (vb_end HS6.out.1 HS6.out.2.1 HS6.out.2.2.2 hR7 k7)
  clear hR7 HS6
  go_wp2
  go_ret2
  rw [HB.out]
  exact ⟨_, rfl, HE.out⟩
end Go.Proofs.YtangjgclpipjdaaDoor
set_option linter.unusedVariables false
namespace Go.Proofs.YtangjgclpipjdaaDoor
open Go.RowKit Go.Proofs.YtangjgclpipjdaaDoorW.PrintWords Go.Proofs.YtangjgclpipjdaaDoorW.PrintLast Go.Proofs.YtangjgclpipjdaaDoorW.PrintMore

abbrev pduV (nm : ByteArray) (ty : Int) (v : Value) : Value := .agg #[v, .string nm, .int .u8 ty]
theorem infoPdu : (Tryd.prog.info? 60).map (·.size) = some 3 := by kernel_rfl
theorem pdu_ret {fn : Func} {p u : Tmp} (h : fn.results = #[.cell p 60, .tmp u]) {a : Act} {w : World} {nm : ByteArray} {ty : Int} {v : Value} {o1 o2 : Obj} (hp : a.tmps.getD p undef = .pointer (some ⟨w.heap.size + 1, 0, none⟩)) (hu : a.tmps.getD u undef = .bool true) (hd : a.defers = []) :
    bodyPost Tryd.prog fn (fun e w' => e = .returned (.tuple #[pduV nm ty v, .bool true]) ∧ Below w.heap.size w w') .ret a (((w.alloc o1).alloc (pduO nm ty v)).alloc o2) := by
  have hb : (((w.alloc o1).alloc (pduO nm ty v)).alloc o2).heap[w.heap.size + 1]? = some (pduO nm ty v) := by
    have := blk_alloc (blk_new (w.alloc o1) (pduO nm ty v)) o2
    rw [show (w.alloc o1).heap.size = w.heap.size + 1 by simp] at this
    exact this
  refine bodyPost_ret (results_ct h _ _ (w.heap.size + 1) 60 #[v, .string nm, .int .u8 ty] (0, 0) _ hp hb Tryd.underlying60 rfl infoPdu) hd ⟨by rw [hu], (((Below.refl w.heap.size w).alloc (Nat.le_refl _) _).alloc (by simp) _).alloc (by simp; omega) _⟩
set_option maxRecDepth 100000 in
set_option maxHeartbeats 4000000 in
theorem pdu_int (nm tx : ByteArray) (i u : Int) (w : World) (hn : nm.size ≤ 1000) (ht : tx.size ≤ 500) (h0 : -9223372036854775808 ≤ i) (h1 : i ≤ 9223372036854775807) :
    Calls Tryd.prog 26 #[varV nm 2 i u tx] w fun e w' => e = .returned (.tuple #[pduV nm 2 (.iface 3 (.int .i64 i)), .bool true]) ∧ Below w.heap.size w w' := by
  go_enter Tryd.func26, Tryd.ntmps26
  go_wp2
  exact pdu_ret rfl rfl rfl rfl
set_option maxRecDepth 100000 in
set_option maxHeartbeats 4000000 in
theorem pdu_u65 (nm tx : ByteArray) (i u : Int) (w : World) (hn : nm.size ≤ 1000) (ht : tx.size ≤ 500) (h0 : 0 ≤ u) (h1 : u ≤ 4294967295) :
    Calls Tryd.prog 26 #[varV nm 65 i u tx] w fun e w' => e = .returned (.tuple #[pduV nm 65 (.iface 38 (.int .u64 u)), .bool true]) ∧ Below w.heap.size w w' := by
  go_enter Tryd.func26, Tryd.ntmps26
  go_wp2
  exact pdu_ret rfl rfl rfl rfl
set_option maxRecDepth 100000 in
set_option maxHeartbeats 4000000 in
theorem pdu_u66 (nm tx : ByteArray) (i u : Int) (w : World) (hn : nm.size ≤ 1000) (ht : tx.size ≤ 500) (h0 : 0 ≤ u) (h1 : u ≤ 4294967295) :
    Calls Tryd.prog 26 #[varV nm 66 i u tx] w fun e w' => e = .returned (.tuple #[pduV nm 66 (.iface 38 (.int .u64 u)), .bool true]) ∧ Below w.heap.size w w' := by
  go_enter Tryd.func26, Tryd.ntmps26
  go_wp2
  exact pdu_ret rfl rfl rfl rfl
set_option maxRecDepth 100000 in
set_option maxHeartbeats 4000000 in
theorem pdu_u67 (nm tx : ByteArray) (i u : Int) (w : World) (hn : nm.size ≤ 1000) (ht : tx.size ≤ 500) (h0 : 0 ≤ u) (h1 : u ≤ 4294967295) :
    Calls Tryd.prog 26 #[varV nm 67 i u tx] w fun e w' => e = .returned (.tuple #[pduV nm 67 (.iface 38 (.int .u64 u)), .bool true]) ∧ Below w.heap.size w w' := by
  go_enter Tryd.func26, Tryd.ntmps26
  go_wp2
  exact pdu_ret rfl rfl rfl rfl
set_option maxRecDepth 100000 in
set_option maxHeartbeats 4000000 in
theorem pdu_u70 (nm tx : ByteArray) (i u : Int) (w : World) (hn : nm.size ≤ 1000) (ht : tx.size ≤ 500) (h0 : 0 ≤ u) (h1 : u ≤ 18446744073709551615) :
    Calls Tryd.prog 26 #[varV nm 70 i u tx] w fun e w' => e = .returned (.tuple #[pduV nm 70 (.iface 22 (.int .u64 u)), .bool true]) ∧ Below w.heap.size w w' := by
  go_enter Tryd.func26, Tryd.ntmps26
  go_wp2
  exact pdu_ret rfl rfl rfl rfl
set_option maxRecDepth 100000 in
set_option maxHeartbeats 4000000 in
theorem pdu_s4 (nm tx : ByteArray) (i u : Int) (w : World) (hn : nm.size ≤ 1000) (ht : tx.size ≤ 500) :
    Calls Tryd.prog 26 #[varV nm 4 i u tx] w fun e w' => e = .returned (.tuple #[pduV nm 4 (.iface 9 (.string tx)), .bool true]) ∧ Below w.heap.size w w' := by
  go_enter Tryd.func26, Tryd.ntmps26
  go_wp2
  exact pdu_ret rfl rfl rfl rfl
set_option maxRecDepth 100000 in
set_option maxHeartbeats 4000000 in
theorem pdu_s6 (nm tx : ByteArray) (i u : Int) (w : World) (hn : nm.size ≤ 1000) (ht : tx.size ≤ 500) :
    Calls Tryd.prog 26 #[varV nm 6 i u tx] w fun e w' => e = .returned (.tuple #[pduV nm 6 (.iface 9 (.string tx)), .bool true]) ∧ Below w.heap.size w w' := by
  go_enter Tryd.func26, Tryd.ntmps26
  go_wp2
  exact pdu_ret rfl rfl rfl rfl
set_option maxRecDepth 100000 in
set_option maxHeartbeats 4000000 in
theorem pdu_n5 (nm tx : ByteArray) (i u : Int) (w : World) (hn : nm.size ≤ 1000) (ht : tx.size ≤ 500) :
    Calls Tryd.prog 26 #[varV nm 5 i u tx] w fun e w' => e = .returned (.tuple #[pduV nm 5 .nilIface, .bool true]) ∧ Below w.heap.size w w' := by
  go_enter Tryd.func26, Tryd.ntmps26
  go_wp2
  exact pdu_ret rfl rfl rfl rfl
set_option maxRecDepth 100000 in
set_option maxHeartbeats 4000000 in
theorem pdu_n128 (nm tx : ByteArray) (i u : Int) (w : World) (hn : nm.size ≤ 1000) (ht : tx.size ≤ 500) :
    Calls Tryd.prog 26 #[varV nm 128 i u tx] w fun e w' => e = .returned (.tuple #[pduV nm 128 .nilIface, .bool true]) ∧ Below w.heap.size w w' := by
  go_enter Tryd.func26, Tryd.ntmps26
  go_wp2
  exact pdu_ret rfl rfl rfl rfl
set_option maxRecDepth 100000 in
set_option maxHeartbeats 4000000 in
theorem pdu_n129 (nm tx : ByteArray) (i u : Int) (w : World) (hn : nm.size ≤ 1000) (ht : tx.size ≤ 500) :
    Calls Tryd.prog 26 #[varV nm 129 i u tx] w fun e w' => e = .returned (.tuple #[pduV nm 129 .nilIface, .bool true]) ∧ Below w.heap.size w w' := by
  go_enter Tryd.func26, Tryd.ntmps26
  go_wp2
  exact pdu_ret rfl rfl rfl rfl
set_option maxRecDepth 100000 in
set_option maxHeartbeats 4000000 in
theorem pdu_n130 (nm tx : ByteArray) (i u : Int) (w : World) (hn : nm.size ≤ 1000) (ht : tx.size ≤ 500) :
    Calls Tryd.prog 26 #[varV nm 130 i u tx] w fun e w' => e = .returned (.tuple #[pduV nm 130 .nilIface, .bool true]) ∧ Below w.heap.size w w' := by
  go_enter Tryd.func26, Tryd.ntmps26
  go_wp2
  exact pdu_ret rfl rfl rfl rfl
set_option maxRecDepth 100000 in
set_option maxHeartbeats 4000000 in
theorem pdu_ip (nm tx : ByteArray) (i u a b c d : Int) (z : Addr) (w : World) (hn : nm.size ≤ 1000) (ht : tx.size ≤ 500) (ha : sAddr (bs tx) = ([a, b, c, d], true)) (hZ : ZZone z w) :
    Calls Tryd.prog 26 #[varV nm 64 i u tx] w fun e w' => e = .returned (.tuple #[pduV nm 64 (.iface 9 (.string tx)), .bool true]) ∧ Below w.heap.size w w' := by
  have HH := Lib.hid (And.intro ha hZ)
  clear ha hZ
  go_enter Tryd.func26, Tryd.ntmps26
  go_wp2_with fail
  have hv := blk_alloc (blk_alloc (blk_new w (varO nm 64 i u tx)) (pduO ⟨#[]⟩ 0 .nilIface)) (pduO nm 64 .nilIface)
  have hr := blk_alloc (blk_new (w.alloc (varO nm 64 i u tx)) (pduO ⟨#[]⟩ 0 .nilIface)) (pduO nm 64 .nilIface)
  have ho := blk_new ((w.alloc (varO nm 64 i u tx)).alloc (pduO ⟨#[]⟩ 0 .nilIface)) (pduO nm 64 .nilIface)
  rw [show (w.alloc (varO nm 64 i u tx)).heap.size = w.heap.size + 1 by simp] at hr
  rw [show ((w.alloc (varO nm 64 i u tx)).alloc (pduO ⟨#[]⟩ 0 .nilIface)).heap.size = w.heap.size + 1 + 1 by simp] at ho
  have hb0 : Below w.heap.size w (((w.alloc (varO nm 64 i u tx)).alloc (pduO ⟨#[]⟩ 0 .nilIface)).alloc (pduO nm 64 .nilIface)) := (((Below.refl w.heap.size w).alloc (Nat.le_refl _) _).alloc (by simp) _).alloc (by simp; omega) _
  refine (addressOk_any tx a b c d HH.out.1 (by omega) z _ (HH.out.2.on hb0)).mono ?_
  rintro e w4 ⟨rfl, hb4⟩
  have hv4 := blk_below hv hb4
  have hr4 := blk_below hr hb4
  have ho4 := blk_below ho hb4
  obtain ⟨k0, k1, k2, k3, k4, -⟩ := var_cells hv4
  obtain ⟨r0, r1, r2⟩ := pdu_cells hr4
  obtain ⟨q0, q1, q2⟩ := pdu_cells ho4
  have fr0 := blk_frozen hr4 0
  have fr1 := blk_frozen hr4 1
  have fr2 := blk_frozen hr4 2
  have fo0 := blk_frozen ho4 0
  have H4 := Lib.hid (And.intro hr4 (below_step hb0 hb4))
  clear hv hr ho hb0 hb4 hv4 hr4 ho4
  go_wp2
  have g0 : (w4.setCell ⟨w.heap.size + 1 + 1, 0, none⟩ (.iface 9 (.string tx))).heap[w.heap.size + 1]? = some (pduO ⟨#[]⟩ 0 .nilIface) := (Below.heap_setCell _ _ _ _ (by show w.heap.size + 1 ≠ w.heap.size + 1 + 1; omega)).trans H4.out.1
  have g1 := blk_put (cs' := #[.iface 9 (.string tx), .string ⟨#[]⟩, .int .u8 0]) g0 0 (.iface 9 (.string tx)) rfl
  have g2 := blk_put (cs' := #[.iface 9 (.string tx), .string nm, .int .u8 0]) g1 1 (.string nm) rfl
  have g3 := blk_put (cs' := #[.iface 9 (.string tx), .string nm, .int .u8 64]) g2 2 (.int .u8 64) rfl
  exact bodyPost_ret (results_ct rfl _ _ (w.heap.size + 1) 60 #[.iface 9 (.string tx), .string nm, .int .u8 64] (0, 0) _ rfl g3 Tryd.underlying60 rfl infoPdu) rfl ⟨rfl, below_set (below_set (below_set (below_set H4.out.2 (by omega)) (by omega)) (by omega)) (by omega)⟩

set_option maxRecDepth 100000 in
/-- What impl.pdu makes of a variable that is asked, and what marshalVarbind makes of that. -/
theorem pdu_any (nm tx : ByteArray) (ty i u : Int) (arcs c : List Int) (i' u' : Int) (tx' : List Int) (h : Asked nm tx ty i u arcs c i' u' tx') (i0 : -9223372036854775808 ≤ i) (i1 : i ≤ 9223372036854775807) (u0 : 0 ≤ u) (u1 : u ≤ 18446744073709551615) (z : Addr) :
    ∃ val, (val = .nilIface ∨ ∃ t x, val = .iface t x) ∧ (∀ w, ZZone z w → Calls Tryd.prog 26 #[varV nm ty i u tx] w fun e w' => e = .returned (.tuple #[pduV nm ty val, .bool true]) ∧ Below w.heap.size w w') ∧
      (∀ p w, ZZone z w → w.heap[p]? = some (pduO nm ty val) → Calls Tryd.prog 48 #[.pointer (some ⟨p, 0, none⟩)] w fun e w' => GotV w w' (sVar arcs ty c 0) e) := by
  obtain ⟨ha, hc, hn, ht⟩ := h
  cases hc with
  | int h h0 h1 =>
    subst h
    exact ⟨_, .inr ⟨_, _, rfl⟩, fun w _ => pdu_int nm tx i u w hn ht i0 i1, fun p w _ hp => vb_int p nm arcs i h0 h1 w hn ha hp⟩
  | oct h h0 =>
    subst h
    exact ⟨_, .inr ⟨_, _, rfl⟩, fun w _ => pdu_s4 nm tx i u w hn ht, fun p w _ hp => vb_oct p nm arcs tx ht w hn ha hp⟩
  | null h =>
    rcases h with rfl | rfl | rfl | rfl
    · exact ⟨_, .inl rfl, fun w _ => pdu_n5 nm tx i u w hn ht, fun p w _ hp => vb_null p nm arcs _ w hn ha hp⟩
    · exact ⟨_, .inl rfl, fun w _ => pdu_n128 nm tx i u w hn ht, fun p w _ hp => vb_exc128 p nm arcs _ w hn ha hp⟩
    · exact ⟨_, .inl rfl, fun w _ => pdu_n129 nm tx i u w hn ht, fun p w _ hp => vb_exc129 p nm arcs _ w hn ha hp⟩
    · exact ⟨_, .inl rfl, fun w _ => pdu_n130 nm tx i u w hn ht, fun p w _ hp => vb_exc130 p nm arcs _ w hn ha hp⟩
  | oid h arcs2 ha2 =>
    subst h
    exact ⟨_, .inr ⟨_, _, rfl⟩, fun w _ => pdu_s6 nm tx i u w hn ht, fun p w _ hp => vb_oid p nm arcs tx arcs2 (by omega) ha2 w hn ha hp⟩
  | addr h out ha2 =>
    subst h
    have h4 := (sAddr_text _ _ ha2).1
    obtain ⟨x, y, s, d, rfl⟩ : ∃ x y s d, c = [x, y, s, d] := by
      match c, h4 with
      | [x, y, s, d], _ => exact ⟨x, y, s, d, rfl⟩
    exact ⟨_, .inr ⟨_, _, rfl⟩, fun w hZ => pdu_ip nm tx i u x y s d z w hn ht ha2 hZ, fun p w hZ hp => vb_ip p nm arcs tx x y s d (by omega) ha2 z w hn ha hp hZ⟩
  | u32 h h0 =>
    rcases h with rfl | rfl | rfl
    · exact ⟨_, .inr ⟨_, _, rfl⟩, fun w _ => pdu_u65 nm tx i u w hn ht u0 h0, fun p w _ hp => vb_u65 p nm arcs u u0 h0 w hn ha hp⟩
    · exact ⟨_, .inr ⟨_, _, rfl⟩, fun w _ => pdu_u66 nm tx i u w hn ht u0 h0, fun p w _ hp => vb_u66 p nm arcs u u0 h0 w hn ha hp⟩
    · exact ⟨_, .inr ⟨_, _, rfl⟩, fun w _ => pdu_u67 nm tx i u w hn ht u0 h0, fun p w _ hp => vb_u67 p nm arcs u u0 h0 w hn ha hp⟩
  | u64 h =>
    subst h
    exact ⟨_, .inr ⟨_, _, rfl⟩, fun w _ => pdu_u70 nm tx i u w hn ht u0 u1, fun p w _ hp => vb_c64 p nm arcs u u0 u1 w hn ha hp⟩
theorem sVar_len (arcs : List Int) (ty : Int) (c : List Int) (h1 : (sName arcs).length ≤ 100) (h2 : c.length ≤ 500) : (sVar arcs ty c 0).length ≤ 700 := by
  have a := sSealed_len 6 (sName arcs)
  have b := sSealed_len ty c
  have d := sSealed_len 48 (sSealed 6 (sName arcs) 0 ++ sSealed ty c 0)
  unfold sVar
  simp at d ⊢
  omega
set_option maxRecDepth 100000 in
set_option maxHeartbeats 4000000 in
theorem zzVarbind_any (nm : ByteArray) (ty : Int) (val : Value) (xs : List Int) (z : Addr) (H : ∀ p w, ZZone z w → w.heap[p]? = some (pduO nm ty val) → Calls Tryd.prog 48 #[.pointer (some ⟨p, 0, none⟩)] w fun e w' => GotV w w' xs e) (w : World) (hZ : ZZone z w) :
    Calls Tryd.prog 27 #[pduV nm ty val] w fun e w' => GotV w w' xs e := by
  have HH := Lib.hid (And.intro H hZ)
  clear H hZ
  have b0 := (Below.refl w.heap.size w).alloc (Nat.le_refl _) (pduO nm ty val)
  go_enter Tryd.func27, Tryd.ntmps27
  go_wp2_with fail
  refine (HH.out.1 w.heap.size _ (HH.out.2.on b0) (blk_new w (pduO nm ty val))).mono ?_
  rintro e w2 ⟨v, rfl, hr, hb⟩
  have HE := Lib.hid (And.intro (NewB.since hr b0.size) (below_step b0 hb))
  clear hr hb b0
  go_wp2
  go_ret2
  exact ⟨v, rfl, HE.out⟩
set_option maxRecDepth 100000 in
set_option maxHeartbeats 4000000 in
theorem implValue_any (nm tx : ByteArray) (ty i u : Int) (arcs c : List Int) (i' u' : Int) (tx' : List Int) (h : Asked nm tx ty i u arcs c i' u' tx') (i0 : -9223372036854775808 ≤ i) (i1 : i ≤ 9223372036854775807) (u0 : 0 ≤ u) (u1 : u ≤ 18446744073709551615) (z : Addr) (w : World) (hZ : ZZone z w) :
    Calls Tryd.prog 11 #[varV nm ty i u tx] w fun e w' => GotT w w' (sVar arcs ty c 0) e := by
  obtain ⟨val, hval, hp, hv⟩ := pdu_any nm tx ty i u arcs c i' u' tx' h i0 i1 u0 u1 z
  have hl := sVar_len arcs ty c (sArcs_text _ _ h.name).2.1 h.cont.len
  have HH := Lib.hid (And.intro hp (And.intro (zzVarbind_any nm ty val _ z hv) hZ))
  clear h hp hv hZ
  generalize sVar arcs ty c 0 = xs at *
  rcases hval with rfl | ⟨t, x, rfl⟩
  all_goals
    go_enter Tryd.func11, Tryd.ntmps11
    go_wp2_with fail
    have b0 := (Below.refl w.heap.size w).alloc (Nat.le_refl _) (varO nm ty i u tx)
    refine (HH.out.1 _ (HH.out.2.2.on b0)).mono ?_
    rintro e w2 ⟨rfl, hb2⟩
    have b2 := below_step b0 hb2
    have b3 := fun V => b2.alloc b2.size (pduO nm ty V)
    have H2 := Lib.hid (fun V => And.intro (b3 V) (HH.out.2.2.on (b3 V)))
    clear b0 hb2 b2 b3
    go_wp2_with fail
    refine (HH.out.2.1 _ (H2.out _).2).mono ?_
    rintro e w3 ⟨v, rfl, hr, hb3⟩
    have H3 := Lib.hid (And.intro hr (below_step (H2.out _).1 hb3))
    clear hr hb3
    go_wp2_with fail
    refine (Clone_any v xs _ _ H3.out.1 (by omega)).mono ?_
    rintro e w4 ⟨v4, rfl, ho, hb4⟩
    have H4 := Lib.hid (And.intro ho (below_step H3.out.2 hb4))
    have hs3 := H3.out.2.size
    clear ho hb4 H3
    go_wp2
    go_ret2
    exact ⟨v4, rfl, Kd.R_lower H4.out.1 hs3, H4.out.2⟩
end Go.Proofs.YtangjgclpipjdaaDoor
