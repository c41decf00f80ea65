/- The lemmas and walks that FnEncode rests on, part 9: Ip2 Ip3 Vb3 Pdu Vbl ZzIFnEncode ShrFnEncode BufS MPduFnEncode MMsgFnEncode MsgP. -/
import Derived.Shelf.RegionOpenPlain
import Derived.Test.YtangjgclpipjdaaDoorQE3
import Derived.Test.YtangjgclpipjdaaDoorQE4
import Derived.Test.YtangjgclpipjdaaDoorQE6
import Derived.Test.YtangjgclpipjdaaDoorQE7
import Derived.Test.YtangjgclpipjdaaDoorQE8
set_option linter.unusedVariables false
namespace Go.Proofs.YtangjgclpipjdaaDoor
open Go.RowKit Go.Proofs.YtangjgclpipjdaaDoorW.PrintWords Go.Proofs.YtangjgclpipjdaaDoorW.PrintLast Go.Proofs.YtangjgclpipjdaaDoorW.PrintMore
theorem KB.put {w w1 : World} {b g : Nat} (h : KB w w1 b g) (i : Nat) (u : Value) : KB w (w1.setCell ⟨g, i, none⟩ u) b g := h.setCell (.inr (.inl rfl)) u
theorem put16_0 {w : World} {g t : Nat} {c0 c1 c2 c3 c4 c5 c6 c7 c8 c9 c10 c11 c12 c13 c14 c15 : Value} (h : w.heap[g]? = some (.cells #[c0, c1, c2, c3, c4, c5, c6, c7, c8, c9, c10, c11, c12, c13, c14, c15] t (0, 0))) (x0 x1 x2 x3 x4 x5 x6 x7 : Value) :
    ((((((((w.setCell ⟨g, 0, none⟩ x0).setCell ⟨g, 1, none⟩ x1).setCell ⟨g, 2, none⟩ x2).setCell ⟨g, 3, none⟩ x3).setCell ⟨g, 4, none⟩ x4).setCell ⟨g, 5, none⟩ x5).setCell ⟨g, 6, none⟩ x6).setCell ⟨g, 7, none⟩ x7).heap[g]? = some (.cells #[x0, x1, x2, x3, x4, x5, x6, x7, c8, c9, c10, c11, c12, c13, c14, c15] t (0, 0)) := by
  have b := (blk_set (blk_set (blk_set (blk_set (blk_set (blk_set (blk_set (blk_set h 0 x0) 1 x1) 2 x2) 3 x3) 4 x4) 5 x5) 6 x6) 7 x7)
  simpa only [List.setIfInBounds_toArray, List.set_cons_zero, List.set_cons_succ] using b
theorem put16_8 {w : World} {g t : Nat} {c0 c1 c2 c3 c4 c5 c6 c7 c8 c9 c10 c11 c12 c13 c14 c15 : Value} (h : w.heap[g]? = some (.cells #[c0, c1, c2, c3, c4, c5, c6, c7, c8, c9, c10, c11, c12, c13, c14, c15] t (0, 0))) (x0 x1 x2 x3 x4 x5 x6 x7 : Value) :
    ((((((((w.setCell ⟨g, 8, none⟩ x0).setCell ⟨g, 9, none⟩ x1).setCell ⟨g, 10, none⟩ x2).setCell ⟨g, 11, none⟩ x3).setCell ⟨g, 12, none⟩ x4).setCell ⟨g, 13, none⟩ x5).setCell ⟨g, 14, none⟩ x6).setCell ⟨g, 15, none⟩ x7).heap[g]? = some (.cells #[c0, c1, c2, c3, c4, c5, c6, c7, x0, x1, x2, x3, x4, x5, x6, x7] t (0, 0)) := by
  have b := (blk_set (blk_set (blk_set (blk_set (blk_set (blk_set (blk_set (blk_set h 8 x0) 9 x1) 10 x2) 11 x3) 12 x4) 13 x5) 14 x6) 15 x7)
  simpa only [List.setIfInBounds_toArray, List.set_cons_zero, List.set_cons_succ] using b
set_option maxRecDepth 100000 in
set_option maxHeartbeats 4000000 in
theorem bePut0 (n : Int) (h0 : 0 ≤ n) (h1 : n ≤ 18446744073709551615) (g t : Nat) (c0 c1 c2 c3 c4 c5 c6 c7 c8 c9 c10 c11 c12 c13 c14 c15 : Value) (w : World) (hg : w.heap[g]? = some (.cells #[c0, c1, c2, c3, c4, c5, c6, c7, c8, c9, c10, c11, c12, c13, c14, c15] t (0, 0))) :
    Calls Tryd.prog 107 #[.slice (some ⟨g, 0, none⟩) 8 16, .int .u64 n] w fun e w' => e = .returned (.tuple #[]) ∧ w'.heap[g]? = some (.cells #[.int .u8 (n / 72057594037927936), .int .u8 (n / 281474976710656 % 256), .int .u8 (n / 1099511627776 % 256), .int .u8 (n / 4294967296 % 256), .int .u8 (n / 16777216 % 256), .int .u8 (n / 65536 % 256), .int .u8 (n / 256 % 256), .int .u8 (n % 256), c8, c9, c10, c11, c12, c13, c14, c15] t (0, 0)) ∧ KB w w' g g := by
  have k0 := blk_cell hg 0
  have z0 := blk_frozen hg 0
  have k1 := blk_cell hg 1
  have z1 := blk_frozen hg 1
  have k2 := blk_cell hg 2
  have z2 := blk_frozen hg 2
  have k3 := blk_cell hg 3
  have z3 := blk_frozen hg 3
  have k4 := blk_cell hg 4
  have z4 := blk_frozen hg 4
  have k5 := blk_cell hg 5
  have z5 := blk_frozen hg 5
  have k6 := blk_cell hg 6
  have z6 := blk_frozen hg 6
  have k7 := blk_cell hg 7
  have z7 := blk_frozen hg 7
  simp at k0 k1 k2 k3 k4 k5 k6 k7
  have HG := Lib.hid hg
  have hlt := blk_lt hg
  clear hg
  go_enter Tryd.func107, Tryd.ntmps107
  go_wp2
  go_end0
  refine ⟨rfl, ?_, (((((((((KB.refl _ _ _).put 0 _).put 1 _).put 2 _).put 3 _).put 4 _).put 5 _).put 6 _).put 7 _)⟩
  exact put16_0 HG.out _ _ _ _ _ _ _ _
set_option maxRecDepth 100000 in
set_option maxHeartbeats 4000000 in
theorem bePut8 (n : Int) (h0 : 0 ≤ n) (h1 : n ≤ 18446744073709551615) (g t : Nat) (c0 c1 c2 c3 c4 c5 c6 c7 c8 c9 c10 c11 c12 c13 c14 c15 : Value) (w : World) (hg : w.heap[g]? = some (.cells #[c0, c1, c2, c3, c4, c5, c6, c7, c8, c9, c10, c11, c12, c13, c14, c15] t (0, 0))) :
    Calls Tryd.prog 107 #[.slice (some ⟨g, 8, none⟩) 8 8, .int .u64 n] w fun e w' => e = .returned (.tuple #[]) ∧ w'.heap[g]? = some (.cells #[c0, c1, c2, c3, c4, c5, c6, c7, .int .u8 (n / 72057594037927936), .int .u8 (n / 281474976710656 % 256), .int .u8 (n / 1099511627776 % 256), .int .u8 (n / 4294967296 % 256), .int .u8 (n / 16777216 % 256), .int .u8 (n / 65536 % 256), .int .u8 (n / 256 % 256), .int .u8 (n % 256)] t (0, 0)) ∧ KB w w' g g := by
  have k0 := blk_cell hg 8
  have z0 := blk_frozen hg 8
  have k1 := blk_cell hg 9
  have z1 := blk_frozen hg 9
  have k2 := blk_cell hg 10
  have z2 := blk_frozen hg 10
  have k3 := blk_cell hg 11
  have z3 := blk_frozen hg 11
  have k4 := blk_cell hg 12
  have z4 := blk_frozen hg 12
  have k5 := blk_cell hg 13
  have z5 := blk_frozen hg 13
  have k6 := blk_cell hg 14
  have z6 := blk_frozen hg 14
  have k7 := blk_cell hg 15
  have z7 := blk_frozen hg 15
  simp at k0 k1 k2 k3 k4 k5 k6 k7
  have HG := Lib.hid hg
  have hlt := blk_lt hg
  clear hg
  go_enter Tryd.func107, Tryd.ntmps107
  go_wp2
  go_end0
  refine ⟨rfl, ?_, (((((((((KB.refl _ _ _).put 8 _).put 9 _).put 10 _).put 11 _).put 12 _).put 13 _).put 14 _).put 15 _)⟩
  exact put16_8 HG.out _ _ _ _ _ _ _ _
set_option maxRecDepth 100000 in
set_option maxHeartbeats 4000000 in
theorem as16_any (a b c d : Int) (z : Addr) (w : World) (ha : 0 ≤ a ∧ a ≤ 255) (hb : 0 ≤ b ∧ b ≤ 255) (hc : 0 ≤ c ∧ c ≤ 255) (hd : 0 ≤ d ∧ d ≤ 255) :
    Calls Tryd.prog 82 #[ipV (ip4 a b c d) z] w fun e w' => e = .returned (.agg #[.int .u8 0, .int .u8 0, .int .u8 0, .int .u8 0, .int .u8 0, .int .u8 0, .int .u8 0, .int .u8 0, .int .u8 0, .int .u8 0, .int .u8 255, .int .u8 255, .int .u8 a, .int .u8 b, .int .u8 c, .int .u8 d]) ∧ Below w.heap.size w w' := by
  have mixed : Tryd.prog.follows Departure.mixedOrders = true := by kernel_rfl
  have e0 : (281470681743360 + ip4 a b c d) / 72057594037927936 = 0 := by unfold ip4; omega
  have e1 : (281470681743360 + ip4 a b c d) / 281474976710656 % 256 = 0 := by unfold ip4; omega
  have e2 : (281470681743360 + ip4 a b c d) / 1099511627776 % 256 = 255 := by unfold ip4; omega
  have e3 : (281470681743360 + ip4 a b c d) / 4294967296 % 256 = 255 := by unfold ip4; omega
  have e4 : (281470681743360 + ip4 a b c d) / 16777216 % 256 = a := by unfold ip4; omega
  have e5 : (281470681743360 + ip4 a b c d) / 65536 % 256 = b := by unfold ip4; omega
  have e6 : (281470681743360 + ip4 a b c d) / 256 % 256 = c := by unfold ip4; omega
  have e7 : (281470681743360 + ip4 a b c d) % 256 = d := by unfold ip4; omega
  have h0 : 0 ≤ ip4 a b c d := by unfold ip4; omega
  have h1 : ip4 a b c d ≤ 4294967295 := by unfold ip4; omega
  generalize ip4 a b c d = n at *
  have hblk := blk_new (w.alloc (ipO n z)) (.cells #[.int .u8 0, .int .u8 0, .int .u8 0, .int .u8 0, .int .u8 0, .int .u8 0, .int .u8 0, .int .u8 0, .int .u8 0, .int .u8 0, .int .u8 0, .int .u8 0, .int .u8 0, .int .u8 0, .int .u8 0, .int .u8 0] 161)
  rw [show (w.alloc (ipO n z)).heap.size = w.heap.size + 1 by simp] at hblk
  have hb2 := below_al2 w (ipO n z) (.cells #[.int .u8 0, .int .u8 0, .int .u8 0, .int .u8 0, .int .u8 0, .int .u8 0, .int .u8 0, .int .u8 0, .int .u8 0, .int .u8 0, .int .u8 0, .int .u8 0, .int .u8 0, .int .u8 0, .int .u8 0, .int .u8 0] 161)
  have hib := blk_alloc (blk_new w (ipO n z)) (.cells #[.int .u8 0, .int .u8 0, .int .u8 0, .int .u8 0, .int .u8 0, .int .u8 0, .int .u8 0, .int .u8 0, .int .u8 0, .int .u8 0, .int .u8 0, .int .u8 0, .int .u8 0, .int .u8 0, .int .u8 0, .int .u8 0] 161)
  obtain ⟨p0, p1, -⟩ := ip_cells hib
  go_enter Tryd.func82, Tryd.ntmps82
  go_wp2_with fail
  generalize ((w.alloc (ipO n z)).alloc (.cells #[.int .u8 0, .int .u8 0, .int .u8 0, .int .u8 0, .int .u8 0, .int .u8 0, .int .u8 0, .int .u8 0, .int .u8 0, .int .u8 0, .int .u8 0, .int .u8 0, .int .u8 0, .int .u8 0, .int .u8 0, .int .u8 0] 161)) = W0 at *
  have hs0 : w.heap.size + 1 < W0.heap.size := blk_lt hblk
  go_region_with_o (go_at_call 107; refine (bePut0 0 (by omega) (by omega) (w.heap.size + 1) 161 (.int .u8 0) (.int .u8 0) (.int .u8 0) (.int .u8 0) (.int .u8 0) (.int .u8 0) (.int .u8 0) (.int .u8 0) (.int .u8 0) (.int .u8 0) (.int .u8 0) (.int .u8 0) (.int .u8 0) (.int .u8 0) (.int .u8 0) (.int .u8 0) _ ?_).mono ?_; exact hblk; rintro e w3 ⟨rfl, hg3, k3⟩; have hib3 := k3.blk hib (by omega) (by omega); obtain ⟨r0, r1, -⟩ := ip_cells hib3)
  simp only [Int.zero_ediv, Int.zero_emod] at hg3
  have hb3 : Below w.heap.size w w3 := hb2.trans (KB.below (KB.pre (below_drew (Below.refl _ _)) k3) (by omega) (by omega) hb2.size)
  have hs3 : w.heap.size + 1 < w3.heap.size := blk_lt hg3
  clear p0 p1 hblk k3 hib hb2
  go_wp2_with fail
  go_region_with_o (go_at_call 107; refine (bePut8 (281470681743360 + n) (by omega) (by omega) (w.heap.size + 1) 161 (.int .u8 0) (.int .u8 0) (.int .u8 0) (.int .u8 0) (.int .u8 0) (.int .u8 0) (.int .u8 0) (.int .u8 0) (.int .u8 0) (.int .u8 0) (.int .u8 0) (.int .u8 0) (.int .u8 0) (.int .u8 0) (.int .u8 0) (.int .u8 0) _ ?_).mono ?_; exact hg3; rintro e w4 ⟨rfl, hg4, k4⟩)
  rw [e0, e1, e2, e3, e4, e5, e6, e7] at hg4
  have hb4 : Below w.heap.size w w4 := hb3.trans (KB.below (KB.pre (below_drew (Below.refl _ _)) k4) (by omega) (by omega) hb3.size)
  have H4 := Lib.hid (And.intro hg4 hb4)
  clear hg4 hb4 hg3 hb3 k4
  have m0 : w4.cell? ⟨w.heap.size + 1, 0, none⟩ = some (.int .u8 0) := (blk_cell H4.out.1 0).trans rfl
  have f0 := blk_frozen H4.out.1 0
  have m1 : w4.cell? ⟨w.heap.size + 1, 1, none⟩ = some (.int .u8 0) := (blk_cell H4.out.1 1).trans rfl
  have f1 := blk_frozen H4.out.1 1
  have m2 : w4.cell? ⟨w.heap.size + 1, 2, none⟩ = some (.int .u8 0) := (blk_cell H4.out.1 2).trans rfl
  have f2 := blk_frozen H4.out.1 2
  have m3 : w4.cell? ⟨w.heap.size + 1, 3, none⟩ = some (.int .u8 0) := (blk_cell H4.out.1 3).trans rfl
  have f3 := blk_frozen H4.out.1 3
  have m4 : w4.cell? ⟨w.heap.size + 1, 4, none⟩ = some (.int .u8 0) := (blk_cell H4.out.1 4).trans rfl
  have f4 := blk_frozen H4.out.1 4
  have m5 : w4.cell? ⟨w.heap.size + 1, 5, none⟩ = some (.int .u8 0) := (blk_cell H4.out.1 5).trans rfl
  have f5 := blk_frozen H4.out.1 5
  have m6 : w4.cell? ⟨w.heap.size + 1, 6, none⟩ = some (.int .u8 0) := (blk_cell H4.out.1 6).trans rfl
  have f6 := blk_frozen H4.out.1 6
  have m7 : w4.cell? ⟨w.heap.size + 1, 7, none⟩ = some (.int .u8 0) := (blk_cell H4.out.1 7).trans rfl
  have f7 := blk_frozen H4.out.1 7
  have m8 : w4.cell? ⟨w.heap.size + 1, 8, none⟩ = some (.int .u8 0) := (blk_cell H4.out.1 8).trans rfl
  have f8 := blk_frozen H4.out.1 8
  have m9 : w4.cell? ⟨w.heap.size + 1, 9, none⟩ = some (.int .u8 0) := (blk_cell H4.out.1 9).trans rfl
  have f9 := blk_frozen H4.out.1 9
  have m10 : w4.cell? ⟨w.heap.size + 1, 10, none⟩ = some (.int .u8 255) := (blk_cell H4.out.1 10).trans rfl
  have f10 := blk_frozen H4.out.1 10
  have m11 : w4.cell? ⟨w.heap.size + 1, 11, none⟩ = some (.int .u8 255) := (blk_cell H4.out.1 11).trans rfl
  have f11 := blk_frozen H4.out.1 11
  have m12 : w4.cell? ⟨w.heap.size + 1, 12, none⟩ = some (.int .u8 a) := (blk_cell H4.out.1 12).trans rfl
  have f12 := blk_frozen H4.out.1 12
  have m13 : w4.cell? ⟨w.heap.size + 1, 13, none⟩ = some (.int .u8 b) := (blk_cell H4.out.1 13).trans rfl
  have f13 := blk_frozen H4.out.1 13
  have m14 : w4.cell? ⟨w.heap.size + 1, 14, none⟩ = some (.int .u8 c) := (blk_cell H4.out.1 14).trans rfl
  have f14 := blk_frozen H4.out.1 14
  have m15 : w4.cell? ⟨w.heap.size + 1, 15, none⟩ = some (.int .u8 d) := (blk_cell H4.out.1 15).trans rfl
  have f15 := blk_frozen H4.out.1 15
  go_wp2
  have g0 := blk_put (cs' := #[.int .u8 0, .int .u8 0, .int .u8 0, .int .u8 0, .int .u8 0, .int .u8 0, .int .u8 0, .int .u8 0, .int .u8 0, .int .u8 0, .int .u8 255, .int .u8 255, .int .u8 a, .int .u8 b, .int .u8 c, .int .u8 d]) H4.out.1 0 (.int .u8 0) rfl
  have g1 := blk_put (cs' := #[.int .u8 0, .int .u8 0, .int .u8 0, .int .u8 0, .int .u8 0, .int .u8 0, .int .u8 0, .int .u8 0, .int .u8 0, .int .u8 0, .int .u8 255, .int .u8 255, .int .u8 a, .int .u8 b, .int .u8 c, .int .u8 d]) g0 1 (.int .u8 0) rfl
  have g2 := blk_put (cs' := #[.int .u8 0, .int .u8 0, .int .u8 0, .int .u8 0, .int .u8 0, .int .u8 0, .int .u8 0, .int .u8 0, .int .u8 0, .int .u8 0, .int .u8 255, .int .u8 255, .int .u8 a, .int .u8 b, .int .u8 c, .int .u8 d]) g1 2 (.int .u8 0) rfl
  have g3 := blk_put (cs' := #[.int .u8 0, .int .u8 0, .int .u8 0, .int .u8 0, .int .u8 0, .int .u8 0, .int .u8 0, .int .u8 0, .int .u8 0, .int .u8 0, .int .u8 255, .int .u8 255, .int .u8 a, .int .u8 b, .int .u8 c, .int .u8 d]) g2 3 (.int .u8 0) rfl
  have g4 := blk_put (cs' := #[.int .u8 0, .int .u8 0, .int .u8 0, .int .u8 0, .int .u8 0, .int .u8 0, .int .u8 0, .int .u8 0, .int .u8 0, .int .u8 0, .int .u8 255, .int .u8 255, .int .u8 a, .int .u8 b, .int .u8 c, .int .u8 d]) g3 4 (.int .u8 0) rfl
  have g5 := blk_put (cs' := #[.int .u8 0, .int .u8 0, .int .u8 0, .int .u8 0, .int .u8 0, .int .u8 0, .int .u8 0, .int .u8 0, .int .u8 0, .int .u8 0, .int .u8 255, .int .u8 255, .int .u8 a, .int .u8 b, .int .u8 c, .int .u8 d]) g4 5 (.int .u8 0) rfl
  have g6 := blk_put (cs' := #[.int .u8 0, .int .u8 0, .int .u8 0, .int .u8 0, .int .u8 0, .int .u8 0, .int .u8 0, .int .u8 0, .int .u8 0, .int .u8 0, .int .u8 255, .int .u8 255, .int .u8 a, .int .u8 b, .int .u8 c, .int .u8 d]) g5 6 (.int .u8 0) rfl
  have g7 := blk_put (cs' := #[.int .u8 0, .int .u8 0, .int .u8 0, .int .u8 0, .int .u8 0, .int .u8 0, .int .u8 0, .int .u8 0, .int .u8 0, .int .u8 0, .int .u8 255, .int .u8 255, .int .u8 a, .int .u8 b, .int .u8 c, .int .u8 d]) g6 7 (.int .u8 0) rfl
  have g8 := blk_put (cs' := #[.int .u8 0, .int .u8 0, .int .u8 0, .int .u8 0, .int .u8 0, .int .u8 0, .int .u8 0, .int .u8 0, .int .u8 0, .int .u8 0, .int .u8 255, .int .u8 255, .int .u8 a, .int .u8 b, .int .u8 c, .int .u8 d]) g7 8 (.int .u8 0) rfl
  have g9 := blk_put (cs' := #[.int .u8 0, .int .u8 0, .int .u8 0, .int .u8 0, .int .u8 0, .int .u8 0, .int .u8 0, .int .u8 0, .int .u8 0, .int .u8 0, .int .u8 255, .int .u8 255, .int .u8 a, .int .u8 b, .int .u8 c, .int .u8 d]) g8 9 (.int .u8 0) rfl
  have g10 := blk_put (cs' := #[.int .u8 0, .int .u8 0, .int .u8 0, .int .u8 0, .int .u8 0, .int .u8 0, .int .u8 0, .int .u8 0, .int .u8 0, .int .u8 0, .int .u8 255, .int .u8 255, .int .u8 a, .int .u8 b, .int .u8 c, .int .u8 d]) g9 10 (.int .u8 255) rfl
  have g11 := blk_put (cs' := #[.int .u8 0, .int .u8 0, .int .u8 0, .int .u8 0, .int .u8 0, .int .u8 0, .int .u8 0, .int .u8 0, .int .u8 0, .int .u8 0, .int .u8 255, .int .u8 255, .int .u8 a, .int .u8 b, .int .u8 c, .int .u8 d]) g10 11 (.int .u8 255) rfl
  have g12 := blk_put (cs' := #[.int .u8 0, .int .u8 0, .int .u8 0, .int .u8 0, .int .u8 0, .int .u8 0, .int .u8 0, .int .u8 0, .int .u8 0, .int .u8 0, .int .u8 255, .int .u8 255, .int .u8 a, .int .u8 b, .int .u8 c, .int .u8 d]) g11 12 (.int .u8 a) rfl
  have g13 := blk_put (cs' := #[.int .u8 0, .int .u8 0, .int .u8 0, .int .u8 0, .int .u8 0, .int .u8 0, .int .u8 0, .int .u8 0, .int .u8 0, .int .u8 0, .int .u8 255, .int .u8 255, .int .u8 a, .int .u8 b, .int .u8 c, .int .u8 d]) g12 13 (.int .u8 b) rfl
  have g14 := blk_put (cs' := #[.int .u8 0, .int .u8 0, .int .u8 0, .int .u8 0, .int .u8 0, .int .u8 0, .int .u8 0, .int .u8 0, .int .u8 0, .int .u8 0, .int .u8 255, .int .u8 255, .int .u8 a, .int .u8 b, .int .u8 c, .int .u8 d]) g13 14 (.int .u8 c) rfl
  have g15 := blk_put (cs' := #[.int .u8 0, .int .u8 0, .int .u8 0, .int .u8 0, .int .u8 0, .int .u8 0, .int .u8 0, .int .u8 0, .int .u8 0, .int .u8 0, .int .u8 255, .int .u8 255, .int .u8 a, .int .u8 b, .int .u8 c, .int .u8 d]) g14 15 (.int .u8 d) rfl
  exact bodyPost_ret (results_cell_row rfl _ _ (w.heap.size + 1) 161 #[.int .u8 0, .int .u8 0, .int .u8 0, .int .u8 0, .int .u8 0, .int .u8 0, .int .u8 0, .int .u8 0, .int .u8 0, .int .u8 0, .int .u8 255, .int .u8 255, .int .u8 a, .int .u8 b, .int .u8 c, .int .u8 d] (0, 0) _ rfl g15 Tryd.underlying161 rfl (by kernel_rfl)) rfl ⟨rfl, (below_set (below_set (below_set (below_set (below_set (below_set (below_set (below_set (below_set (below_set (below_set (below_set (below_set (below_set (below_set (below_set H4.out.2 (by omega)) (by omega)) (by omega)) (by omega)) (by omega)) (by omega)) (by omega)) (by omega)) (by omega)) (by omega)) (by omega)) (by omega)) (by omega)) (by omega)) (by omega)) (by omega))⟩
end Go.Proofs.YtangjgclpipjdaaDoor
set_option linter.unusedVariables false
namespace Go.Proofs.YtangjgclpipjdaaDoor
open Go.RowKit Go.Proofs.YtangjgclpipjdaaDoorW.PrintWords Go.Proofs.YtangjgclpipjdaaDoorW.PrintLast Go.Proofs.YtangjgclpipjdaaDoorW.PrintMore
/-- The sixteen bytes of an address. -/
def ip16 (l : List Int) : List Int := [0, 0, 0, 0, 0, 0, 0, 0, 0, 0, 255, 255] ++ l
set_option maxRecDepth 100000 in
set_option maxHeartbeats 4000000 in
theorem zzParse_any (t : ByteArray) (a b c d : Int) (h : sAddr (bs t) = ([a, b, c, d], true)) (hz : t.size ≤ 1000) (z : Addr) (w : World) (hZ : ZZone z w) :
    Calls Tryd.prog 52 #[.string t] w fun e w' => ∃ g, e = .returned (.slice (some ⟨g, 0, none⟩) 16 16) ∧ w.heap.size ≤ g ∧ w'.heap[g]? = some (.cells ((ip16 [a, b, c, d]).map (Value.int .u8)).toArray 161 (0, 0)) ∧ Below w.heap.size w w' := by
  have hbd := (sAddr_text _ _ h).2.2
  have HH := Lib.hid (And.intro h (And.intro hbd hZ))
  clear h hbd hZ
  go_enter Tryd.func52, Tryd.ntmps52
  go_wp2_with fail
  refine (parseAddr_any t a b c d HH.out.1 hz z w HH.out.2.2.1).mono ?_
  rintro e w1 ⟨rfl, hb1⟩
  have H1 := Lib.hid (And.intro hb1 (HH.out.2.2.on hb1))
  clear hb1
  go_wp2_with fail
  have b2 := (Below.refl w1.heap.size w1).alloc (Nat.le_refl _) (ipO (ip4 a b c d) z)
  refine (zone_any (ip4 a b c d) z _ (H1.out.2.on b2)).mono ?_
  rintro e w3 ⟨rfl, hb3⟩
  have hr3 := blk_below (blk_new w1 (ipO (ip4 a b c d) z)) hb3
  obtain ⟨p0, p1, p2⟩ := ip_cells hr3
  have H3 := Lib.hid (below_step (below_step H1.out.1 b2) hb3)
  clear hb3 b2 hr3
  go_wp2_with fail
  refine (as16_any a b c d z w3 (HH.out.2.1 a (by simp)) (HH.out.2.1 b (by simp)) (HH.out.2.1 c (by simp)) (HH.out.2.1 d (by simp))).mono ?_
  rintro e w4 ⟨rfl, hb4⟩
  have H4 := Lib.hid (below_step H3.out hb4)
  clear hb4 p0 p1 p2
  go_wp2
  go_ret
  exact ⟨w4.heap.size, rfl, H4.out.size, blk_new _ _, H4.out.alloc H4.out.size _⟩
set_option maxRecDepth 100000 in
set_option maxHeartbeats 4000000 in
theorem addressOk_any (t : ByteArray) (a b c d : Int) (h : sAddr (bs t) = ([a, b, c, d], true)) (hz : t.size ≤ 1000) (z : Addr) (w : World) (hZ : ZZone z w) :
    Calls Tryd.prog 39 #[.string t] w fun e w' => e = .returned (.bool true) ∧ Below w.heap.size w w' := by
  have HH := Lib.hid (And.intro h hZ)
  clear h hZ
  go_enter Tryd.func39, Tryd.ntmps39
  go_wp2_with fail
  refine (zzParse_any t a b c d HH.out.1 hz z w HH.out.2).mono ?_
  rintro e w1 ⟨g, rfl, hg, hblk, hb1⟩
  have hnil : ∀ W, (binOp .eql 26 (.slice (some ⟨g, 0, none⟩) 16 16) (.slice none 0 0)).run Tryd.prog W = .ok (.bool false) W := fun W => Lib.run_eql_slice_some_nil W _ _ _ Tryd.underlying26
  have hnil2 : ∀ W, (binOp .neq 26 (.slice (some ⟨g, 0, none⟩) 16 16) (.slice none 0 0)).run Tryd.prog W = .ok (.bool true) W := fun W => by kernel_rfl
  have H1 := Lib.hid hb1
  clear hb1 hblk
  go_wp2
  go_ret
  exact ⟨rfl, H1.out⟩
end Go.Proofs.YtangjgclpipjdaaDoor
set_option linter.unusedVariables false
namespace Go.Proofs.YtangjgclpipjdaaDoor
open Go.RowKit Go.Proofs.YtangjgclpipjdaaDoorW.PrintWords Go.Proofs.YtangjgclpipjdaaDoorW.PrintLast Go.Proofs.YtangjgclpipjdaaDoorW.PrintMore
theorem ipv4to_any (g : Nat) (w : World) : Calls Tryd.prog 63 #[.slice (some ⟨g, 0, none⟩) 16 16] w fun e w' => e = .returned (.slice (some ⟨g, 12, none⟩) 4 4) ∧ w' = w := by
  go_enter Tryd.func63, Tryd.ntmps63
  go_wp2
  go_ret
  exact ⟨rfl, rfl⟩
set_option maxRecDepth 100000 in
set_option maxHeartbeats 4000000 in
theorem vb_ip (p : Nat) (nm : ByteArray) (arcs : List Int) (tx : ByteArray) (a b c d : Int) (ht : tx.size ≤ 1000) (hat : sAddr (bs tx) = ([a, b, c, d], true)) (z : Addr) (w : World) (hs : nm.size ≤ 1000) (ha : sArcs (bs nm) = (arcs, true)) (hp : w.heap[p]? = some (pduO nm 64 (.iface 9 (.string tx)))) :
    ZZone z w → Calls Tryd.prog 48 #[.pointer (some ⟨p, 0, none⟩)] w fun e w' => GotV w w' (sVar arcs 64 [a, b, c, d] 0) e := by
  intro hZ
  obtain ⟨p0, p1, p2⟩ := pdu_cells hp
  have HA := Lib.hid (And.intro hat hZ)
  clear hat hZ
  have hlen : (sName arcs).length ≤ 100 := (sArcs_text _ _ ha).2.1
  have HP := Lib.hid (And.intro hp ha)
  clear ha hp
  go_enter Tryd.func48, Tryd.ntmps48
  go_wp2_with fail
  refine (marshalOid_any nm arcs hs HP.out.2 w).mono ?_
  rintro e w1 ⟨v1, rfl, ho, hb⟩
  obtain ⟨A1, c1, rfl, hc1⟩ := Kd.R_slice ho
  have hL := OwnB.within ho
  have hS := VS.start hb HP.out.1 0 0
  obtain ⟨q0, q1, q2⟩ := pdu_cells hS.obj
  have HS := Lib.hid (And.intro hL hS)
  clear ho hb hL hS HP p0 p1 p2
  go_wp2_with fail
  refine (tlv_any (w1.heap.size + 1) (w1.heap.size + 1) [] (sName arcs) 6 A1 _ c1 _ _ HS.out.2.two (HS.out.1.below (below_two w1 _ _)) (by omega) (by omega) rfl (by omega) (by omega) (by simp; omega)).mono ?_
  rintro e w2 ⟨rfl, hW2⟩
  rw [List.nil_append] at hW2
  obtain ⟨g2, S2, -, -⟩ := HS.out.2.wrote hW2
  clear q0 q1 q2
  obtain ⟨q0, q1, q2⟩ := pdu_cells S2.obj
  generalize w1.heap.size + 1 = b2 at *
  generalize w1.heap.size = b1 at *
  have HS2 := Lib.hid S2
  clear S2 hW2 HS
  have hl6 : (sSealed 6 (sName arcs) 0).length ≤ 106 := by have := sSealed_len 6 (sName arcs); omega
  have t1 := fun W => ta_str_bytes (.string tx) W
  have t2 := fun W => ta_str_str (.string tx) W
  go_wp2_with fail
  refine (zzParse_any tx a b c d HA.out.1 ht z w2 (HA.out.2.on HS2.out.below)).mono ?_
  rintro e w3 ⟨g3, rfl, hg3, hblk, hb3⟩
  have hL3 : ReadB w3 (fun k => w2.heap.size ≤ k) (.slice (some ⟨g3, 12, none⟩) 4 4) [a, b, c, d] := readB_block hblk rfl rfl (by omega) hg3
  have S3 := HS2.out.call hb3
  have hs2 := HS2.out.two.lt
  have q2' := (pdu_cells S3.obj).2.2
  have HS3 := Lib.hid (And.intro (ReadB.bound hL3) S3)
  clear hL3 S3 HS2 hb3 hblk
  go_wp2_with fail
  refine (ipv4to_any g3 w3).mono ?_
  rintro e w3' ⟨rfl, rfl⟩
  go_wp2_with fail
  refine (tlv_any b2 g2 _ [a, b, c, d] 64 _ 4 4 _ w3' HS3.out.2.two HS3.out.1 (by omega) (by omega) rfl (by omega) (by omega) (by omega)).mono ?_
  rintro e w4 ⟨rfl, hW4⟩
  obtain ⟨g4, S4, -, -⟩ := HS3.out.2.wrote hW4
  have HS4 := Lib.hid S4
  have hlv : 2 ≤ (sSealed 64 [a, b, c, d] 0).length ∧ (sSealed 64 [a, b, c, d] 0).length ≤ 606 := by have := sSealed_len 64 [a, b, c, d]; simp at this; omega
  clear S4 hW4 HS3 q0 q1 q2 q2'
  go_wp2_with fail
  generalize hbz : sSealed 6 (sName arcs) 0 ++ sSealed 64 ([a, b, c, d]) 0 = bz at *
  have hbl : 1 ≤ bz.length ∧ bz.length ≤ 1000 := by rw [← hbz]; simp; omega
  have hbv : sVar arcs 64 ([a, b, c, d]) 0 = sSealed 48 bz 0 := by rw [← hbz]; rfl
  have hl48 := sSealed_len 48 bz
  have HB := Lib.hid hbv
  clear hbv hbz
  refine (bytes_any b2 g4 bz w4 HS4.out.two hbl.1 (by omega)).mono ?_
  rintro e w5 ⟨cap, rfl, hR5, k5, rfl⟩
  have HS5 := Lib.hid (And.intro (HS4.out.call (pw_below_drewN (Below.refl _ _) k5)) (hR5.below (pw_below_drewN (Below.refl _ _) k5)))
  clear hR5 HS4
  go_wp2_with fail
  refine (tlv_any b1 b1 [] bz 48 _ _ cap _ _ HS5.out.1.one HS5.out.2 HS5.out.1.ne2 HS5.out.1.ne2 rfl (by omega) (by omega) (by simp; omega)).mono ?_
  rintro e w6 ⟨rfl, K6, g6, B6, hg6⟩
  rw [List.nil_append] at B6
  have HS6 := Lib.hid (And.intro HS5.out.1 (And.intro K6 (And.intro B6 hg6)))
  clear K6 B6 HS5
  go_wp2_with fail
  refine (bytes_any b1 g6 (sSealed 48 bz 0) w6 HS6.out.2.2.1 (by omega) (by omega)).mono ?_
  rintro e w7 ⟨cap7, rfl, hR7, k7, rfl⟩
  have HE := Lib.hid (vb_end HS6.out.1 HS6.out.2.1 HS6.out.2.2.2 hR7 k7)
  clear hR7 HS6
  go_wp2
  go_ret2
  rw [HB.out]
  exact ⟨_, rfl, HE.out⟩
end Go.Proofs.YtangjgclpipjdaaDoor
set_option linter.unusedVariables false
namespace Go.Proofs.YtangjgclpipjdaaDoor
open Go.RowKit Go.Proofs.YtangjgclpipjdaaDoorW.PrintWords Go.Proofs.YtangjgclpipjdaaDoorW.PrintLast Go.Proofs.YtangjgclpipjdaaDoorW.PrintMore
abbrev pduV (nm : ByteArray) (ty : Int) (v : Value) : Value := .agg #[v, .string nm, .int .u8 ty]
theorem infoPdu : (Tryd.prog.info? 60).map (·.size) = some 3 := by kernel_rfl
theorem pdu_ret {fn : Func} {p u : Tmp} (h : fn.results = #[.cell p 60, .tmp u]) {a : Act} {w : World} {nm : ByteArray} {ty : Int} {v : Value} {o1 o2 : Obj} (hp : a.tmps.getD p undef = .pointer (some ⟨w.heap.size + 1, 0, none⟩)) (hu : a.tmps.getD u undef = .bool true) (hd : a.defers = []) :
    bodyPost Tryd.prog fn (fun e w' => e = .returned (.tuple #[pduV nm ty v, .bool true]) ∧ Below w.heap.size w w') .ret a (((w.alloc o1).alloc (pduO nm ty v)).alloc o2) := by
  have hb : (((w.alloc o1).alloc (pduO nm ty v)).alloc o2).heap[w.heap.size + 1]? = some (pduO nm ty v) := by
    have := blk_alloc (blk_new (w.alloc o1) (pduO nm ty v)) o2
    rw [show (w.alloc o1).heap.size = w.heap.size + 1 by simp] at this
    exact this
  refine bodyPost_ret (results_ct h _ _ (w.heap.size + 1) 60 #[v, .string nm, .int .u8 ty] (0, 0) _ hp hb Tryd.underlying60 rfl infoPdu) hd ⟨by rw [hu], (((Below.refl w.heap.size w).alloc (Nat.le_refl _) _).alloc (by simp) _).alloc (by simp; omega) _⟩
set_option maxRecDepth 100000 in
set_option maxHeartbeats 4000000 in
theorem pdu_int (nm tx : ByteArray) (i u : Int) (w : World) (hn : nm.size ≤ 1000) (ht : tx.size ≤ 500) (h0 : -9223372036854775808 ≤ i) (h1 : i ≤ 9223372036854775807) :
    Calls Tryd.prog 26 #[varV nm 2 i u tx] w fun e w' => e = .returned (.tuple #[pduV nm 2 (.iface 3 (.int .i64 i)), .bool true]) ∧ Below w.heap.size w w' := by
  go_enter Tryd.func26, Tryd.ntmps26
  go_wp2
  exact pdu_ret rfl rfl rfl rfl
set_option maxRecDepth 100000 in
set_option maxHeartbeats 4000000 in
theorem pdu_u65 (nm tx : ByteArray) (i u : Int) (w : World) (hn : nm.size ≤ 1000) (ht : tx.size ≤ 500) (h0 : 0 ≤ u) (h1 : u ≤ 4294967295) :
    Calls Tryd.prog 26 #[varV nm 65 i u tx] w fun e w' => e = .returned (.tuple #[pduV nm 65 (.iface 38 (.int .u64 u)), .bool true]) ∧ Below w.heap.size w w' := by
  go_enter Tryd.func26, Tryd.ntmps26
  go_wp2
  exact pdu_ret rfl rfl rfl rfl
set_option maxRecDepth 100000 in
set_option maxHeartbeats 4000000 in
theorem pdu_u66 (nm tx : ByteArray) (i u : Int) (w : World) (hn : nm.size ≤ 1000) (ht : tx.size ≤ 500) (h0 : 0 ≤ u) (h1 : u ≤ 4294967295) :
    Calls Tryd.prog 26 #[varV nm 66 i u tx] w fun e w' => e = .returned (.tuple #[pduV nm 66 (.iface 38 (.int .u64 u)), .bool true]) ∧ Below w.heap.size w w' := by
  go_enter Tryd.func26, Tryd.ntmps26
  go_wp2
  exact pdu_ret rfl rfl rfl rfl
set_option maxRecDepth 100000 in
set_option maxHeartbeats 4000000 in
theorem pdu_u67 (nm tx : ByteArray) (i u : Int) (w : World) (hn : nm.size ≤ 1000) (ht : tx.size ≤ 500) (h0 : 0 ≤ u) (h1 : u ≤ 4294967295) :
    Calls Tryd.prog 26 #[varV nm 67 i u tx] w fun e w' => e = .returned (.tuple #[pduV nm 67 (.iface 38 (.int .u64 u)), .bool true]) ∧ Below w.heap.size w w' := by
  go_enter Tryd.func26, Tryd.ntmps26
  go_wp2
  exact pdu_ret rfl rfl rfl rfl
set_option maxRecDepth 100000 in
set_option maxHeartbeats 4000000 in
theorem pdu_u70 (nm tx : ByteArray) (i u : Int) (w : World) (hn : nm.size ≤ 1000) (ht : tx.size ≤ 500) (h0 : 0 ≤ u) (h1 : u ≤ 18446744073709551615) :
    Calls Tryd.prog 26 #[varV nm 70 i u tx] w fun e w' => e = .returned (.tuple #[pduV nm 70 (.iface 22 (.int .u64 u)), .bool true]) ∧ Below w.heap.size w w' := by
  go_enter Tryd.func26, Tryd.ntmps26
  go_wp2
  exact pdu_ret rfl rfl rfl rfl
set_option maxRecDepth 100000 in
set_option maxHeartbeats 4000000 in
theorem pdu_s4 (nm tx : ByteArray) (i u : Int) (w : World) (hn : nm.size ≤ 1000) (ht : tx.size ≤ 500) :
    Calls Tryd.prog 26 #[varV nm 4 i u tx] w fun e w' => e = .returned (.tuple #[pduV nm 4 (.iface 9 (.string tx)), .bool true]) ∧ Below w.heap.size w w' := by
  go_enter Tryd.func26, Tryd.ntmps26
  go_wp2
  exact pdu_ret rfl rfl rfl rfl
set_option maxRecDepth 100000 in
set_option maxHeartbeats 4000000 in
theorem pdu_s6 (nm tx : ByteArray) (i u : Int) (w : World) (hn : nm.size ≤ 1000) (ht : tx.size ≤ 500) :
    Calls Tryd.prog 26 #[varV nm 6 i u tx] w fun e w' => e = .returned (.tuple #[pduV nm 6 (.iface 9 (.string tx)), .bool true]) ∧ Below w.heap.size w w' := by
  go_enter Tryd.func26, Tryd.ntmps26
  go_wp2
  exact pdu_ret rfl rfl rfl rfl
set_option maxRecDepth 100000 in
set_option maxHeartbeats 4000000 in
theorem pdu_n5 (nm tx : ByteArray) (i u : Int) (w : World) (hn : nm.size ≤ 1000) (ht : tx.size ≤ 500) :
    Calls Tryd.prog 26 #[varV nm 5 i u tx] w fun e w' => e = .returned (.tuple #[pduV nm 5 .nilIface, .bool true]) ∧ Below w.heap.size w w' := by
  go_enter Tryd.func26, Tryd.ntmps26
  go_wp2
  exact pdu_ret rfl rfl rfl rfl
set_option maxRecDepth 100000 in
set_option maxHeartbeats 4000000 in
theorem pdu_n128 (nm tx : ByteArray) (i u : Int) (w : World) (hn : nm.size ≤ 1000) (ht : tx.size ≤ 500) :
    Calls Tryd.prog 26 #[varV nm 128 i u tx] w fun e w' => e = .returned (.tuple #[pduV nm 128 .nilIface, .bool true]) ∧ Below w.heap.size w w' := by
  go_enter Tryd.func26, Tryd.ntmps26
  go_wp2
  exact pdu_ret rfl rfl rfl rfl
set_option maxRecDepth 100000 in
set_option maxHeartbeats 4000000 in
theorem pdu_n129 (nm tx : ByteArray) (i u : Int) (w : World) (hn : nm.size ≤ 1000) (ht : tx.size ≤ 500) :
    Calls Tryd.prog 26 #[varV nm 129 i u tx] w fun e w' => e = .returned (.tuple #[pduV nm 129 .nilIface, .bool true]) ∧ Below w.heap.size w w' := by
  go_enter Tryd.func26, Tryd.ntmps26
  go_wp2
  exact pdu_ret rfl rfl rfl rfl
set_option maxRecDepth 100000 in
set_option maxHeartbeats 4000000 in
theorem pdu_n130 (nm tx : ByteArray) (i u : Int) (w : World) (hn : nm.size ≤ 1000) (ht : tx.size ≤ 500) :
    Calls Tryd.prog 26 #[varV nm 130 i u tx] w fun e w' => e = .returned (.tuple #[pduV nm 130 .nilIface, .bool true]) ∧ Below w.heap.size w w' := by
  go_enter Tryd.func26, Tryd.ntmps26
  go_wp2
  exact pdu_ret rfl rfl rfl rfl
set_option maxRecDepth 100000 in
set_option maxHeartbeats 4000000 in
theorem pdu_ip (nm tx : ByteArray) (i u a b c d : Int) (z : Addr) (w : World) (hn : nm.size ≤ 1000) (ht : tx.size ≤ 500) (ha : sAddr (bs tx) = ([a, b, c, d], true)) (hZ : ZZone z w) :
    Calls Tryd.prog 26 #[varV nm 64 i u tx] w fun e w' => e = .returned (.tuple #[pduV nm 64 (.iface 9 (.string tx)), .bool true]) ∧ Below w.heap.size w w' := by
  have HH := Lib.hid (And.intro ha hZ)
  clear ha hZ
  go_enter Tryd.func26, Tryd.ntmps26
  go_wp2_with fail
  have hv := blk_alloc (blk_alloc (blk_new w (varO nm 64 i u tx)) (pduO ⟨#[]⟩ 0 .nilIface)) (pduO nm 64 .nilIface)
  have hr := blk_alloc (blk_new (w.alloc (varO nm 64 i u tx)) (pduO ⟨#[]⟩ 0 .nilIface)) (pduO nm 64 .nilIface)
  have ho := blk_new ((w.alloc (varO nm 64 i u tx)).alloc (pduO ⟨#[]⟩ 0 .nilIface)) (pduO nm 64 .nilIface)
  rw [show (w.alloc (varO nm 64 i u tx)).heap.size = w.heap.size + 1 by simp] at hr
  rw [show ((w.alloc (varO nm 64 i u tx)).alloc (pduO ⟨#[]⟩ 0 .nilIface)).heap.size = w.heap.size + 1 + 1 by simp] at ho
  have hb0 : Below w.heap.size w (((w.alloc (varO nm 64 i u tx)).alloc (pduO ⟨#[]⟩ 0 .nilIface)).alloc (pduO nm 64 .nilIface)) := (((Below.refl w.heap.size w).alloc (Nat.le_refl _) _).alloc (by simp) _).alloc (by simp; omega) _
  refine (addressOk_any tx a b c d HH.out.1 (by omega) z _ (HH.out.2.on hb0)).mono ?_
  rintro e w4 ⟨rfl, hb4⟩
  have hv4 := blk_below hv hb4
  have hr4 := blk_below hr hb4
  have ho4 := blk_below ho hb4
  obtain ⟨k0, k1, k2, k3, k4, -⟩ := var_cells hv4
  obtain ⟨r0, r1, r2⟩ := pdu_cells hr4
  obtain ⟨q0, q1, q2⟩ := pdu_cells ho4
  have fr0 := blk_frozen hr4 0
  have fr1 := blk_frozen hr4 1
  have fr2 := blk_frozen hr4 2
  have fo0 := blk_frozen ho4 0
  have H4 := Lib.hid (And.intro hr4 (below_step hb0 hb4))
  clear hv hr ho hb0 hb4 hv4 hr4 ho4
  go_wp2
  have g0 : (w4.setCell ⟨w.heap.size + 1 + 1, 0, none⟩ (.iface 9 (.string tx))).heap[w.heap.size + 1]? = some (pduO ⟨#[]⟩ 0 .nilIface) := (Below.heap_setCell _ _ _ _ (by show w.heap.size + 1 ≠ w.heap.size + 1 + 1; omega)).trans H4.out.1
  have g1 := blk_put (cs' := #[.iface 9 (.string tx), .string ⟨#[]⟩, .int .u8 0]) g0 0 (.iface 9 (.string tx)) rfl
  have g2 := blk_put (cs' := #[.iface 9 (.string tx), .string nm, .int .u8 0]) g1 1 (.string nm) rfl
  have g3 := blk_put (cs' := #[.iface 9 (.string tx), .string nm, .int .u8 64]) g2 2 (.int .u8 64) rfl
  exact bodyPost_ret (results_ct rfl _ _ (w.heap.size + 1) 60 #[.iface 9 (.string tx), .string nm, .int .u8 64] (0, 0) _ rfl g3 Tryd.underlying60 rfl infoPdu) rfl ⟨rfl, below_set (below_set (below_set (below_set H4.out.2 (by omega)) (by omega)) (by omega)) (by omega)⟩
set_option maxRecDepth 100000 in
/-- What impl.pdu makes of a variable that is asked, and what marshalVarbind makes of that. -/
theorem pdu_any (nm tx : ByteArray) (ty i u : Int) (arcs c : List Int) (i' u' : Int) (tx' : List Int) (h : Asked nm tx ty i u arcs c i' u' tx') (i0 : -9223372036854775808 ≤ i) (i1 : i ≤ 9223372036854775807) (u0 : 0 ≤ u) (u1 : u ≤ 18446744073709551615) (z : Addr) :
    ∃ val, (val = .nilIface ∨ ∃ t x, val = .iface t x) ∧ (∀ w, ZZone z w → Calls Tryd.prog 26 #[varV nm ty i u tx] w fun e w' => e = .returned (.tuple #[pduV nm ty val, .bool true]) ∧ Below w.heap.size w w') ∧
      (∀ p w, ZZone z w → w.heap[p]? = some (pduO nm ty val) → Calls Tryd.prog 48 #[.pointer (some ⟨p, 0, none⟩)] w fun e w' => GotV w w' (sVar arcs ty c 0) e) := by
  obtain ⟨ha, hc, hn, ht⟩ := h
  cases hc with
  | int h h0 h1 =>
    subst h
    exact ⟨_, .inr ⟨_, _, rfl⟩, fun w _ => pdu_int nm tx i u w hn ht i0 i1, fun p w _ hp => vb_int p nm arcs i h0 h1 w hn ha hp⟩
  | oct h h0 =>
    subst h
    exact ⟨_, .inr ⟨_, _, rfl⟩, fun w _ => pdu_s4 nm tx i u w hn ht, fun p w _ hp => vb_oct p nm arcs tx ht w hn ha hp⟩
  | null h =>
    rcases h with rfl | rfl | rfl | rfl
    · exact ⟨_, .inl rfl, fun w _ => pdu_n5 nm tx i u w hn ht, fun p w _ hp => vb_null p nm arcs _ w hn ha hp⟩
    · exact ⟨_, .inl rfl, fun w _ => pdu_n128 nm tx i u w hn ht, fun p w _ hp => vb_exc128 p nm arcs _ w hn ha hp⟩
    · exact ⟨_, .inl rfl, fun w _ => pdu_n129 nm tx i u w hn ht, fun p w _ hp => vb_exc129 p nm arcs _ w hn ha hp⟩
    · exact ⟨_, .inl rfl, fun w _ => pdu_n130 nm tx i u w hn ht, fun p w _ hp => vb_exc130 p nm arcs _ w hn ha hp⟩
  | oid h arcs2 ha2 =>
    subst h
    exact ⟨_, .inr ⟨_, _, rfl⟩, fun w _ => pdu_s6 nm tx i u w hn ht, fun p w _ hp => vb_oid p nm arcs tx arcs2 (by omega) ha2 w hn ha hp⟩
  | addr h out ha2 =>
    subst h
    have h4 := (sAddr_text _ _ ha2).1
    obtain ⟨x, y, s, d, rfl⟩ : ∃ x y s d, c = [x, y, s, d] := by
      match c, h4 with
      | [x, y, s, d], _ => exact ⟨x, y, s, d, rfl⟩
    exact ⟨_, .inr ⟨_, _, rfl⟩, fun w hZ => pdu_ip nm tx i u x y s d z w hn ht ha2 hZ, fun p w hZ hp => vb_ip p nm arcs tx x y s d (by omega) ha2 z w hn ha hp hZ⟩
  | u32 h h0 =>
    rcases h with rfl | rfl | rfl
    · exact ⟨_, .inr ⟨_, _, rfl⟩, fun w _ => pdu_u65 nm tx i u w hn ht u0 h0, fun p w _ hp => vb_u65 p nm arcs u u0 h0 w hn ha hp⟩
    · exact ⟨_, .inr ⟨_, _, rfl⟩, fun w _ => pdu_u66 nm tx i u w hn ht u0 h0, fun p w _ hp => vb_u66 p nm arcs u u0 h0 w hn ha hp⟩
    · exact ⟨_, .inr ⟨_, _, rfl⟩, fun w _ => pdu_u67 nm tx i u w hn ht u0 h0, fun p w _ hp => vb_u67 p nm arcs u u0 h0 w hn ha hp⟩
  | u64 h =>
    subst h
    exact ⟨_, .inr ⟨_, _, rfl⟩, fun w _ => pdu_u70 nm tx i u w hn ht u0 u1, fun p w _ hp => vb_c64 p nm arcs u u0 u1 w hn ha hp⟩
theorem sVar_len (arcs : List Int) (ty : Int) (c : List Int) (h1 : (sName arcs).length ≤ 100) (h2 : c.length ≤ 500) : (sVar arcs ty c 0).length ≤ 700 := by
  have a := sSealed_len 6 (sName arcs)
  have b := sSealed_len ty c
  have d := sSealed_len 48 (sSealed 6 (sName arcs) 0 ++ sSealed ty c 0)
  unfold sVar
  simp at d ⊢
  omega
end Go.Proofs.YtangjgclpipjdaaDoor
set_option linter.unusedVariables false
namespace Go.Proofs.YtangjgclpipjdaaDoor
open Go.RowKit Go.Proofs.YtangjgclpipjdaaDoorW.PrintWords Go.Proofs.YtangjgclpipjdaaDoorW.PrintLast Go.Proofs.YtangjgclpipjdaaDoorW.PrintMore
/-- A value of type any, as a variable of the package holds it. -/
inductive PV
  | nil
  | ifc (t : TypeId) (x : Value)
def PV.val : PV → Value
  | .nil => .nilIface
  | .ifc t x => .iface t x
structure PduT where
  v : PV
  nm : ByteArray
  ty : Int
def PduT.cells (p : PduT) : List Value := [p.v.val, .string p.nm, .int .u8 p.ty]
def kPdu : Kd PduT := flat 3 PduT.cells (fun _ => rfl) (fun x u hu => by
  simp only [PduT.cells, List.mem_cons, List.not_mem_nil, or_false] at hu
  rcases hu with rfl | rfl | rfl
  · cases x.v <;> rfl
  · rfl
  · rfl)
theorem pdu_at {w : World} {A : Option Addr} {ps : List PduT} (h : Kd.C kPdu w A ps.length ps) (j : Nat) (hj : j < ps.length) : ∃ ad, A = some ad ∧
    w.cell? (ad.add (j * 3)) = some ps[j].v.val ∧ w.cell? ⟨(ad.add (j * 3)).block, (ad.add (j * 3)).off + 1, none⟩ = some (.string ps[j].nm) ∧ w.cell? ⟨(ad.add (j * 3)).block, (ad.add (j * 3)).off + 2, none⟩ = some (.int .u8 ps[j].ty) := by
  obtain ⟨ad, e, hc⟩ := h.2.2 (by omega)
  obtain ⟨cs, hl, hk, hcell⟩ := hc j ps[j] (List.getElem?_eq_getElem hj)
  have hk' : cs = ps[j].cells := hk
  subst hk'
  have h0 := hcell 0 _ rfl
  have h1 := hcell 1 _ rfl
  have h2 := hcell 2 _ rfl
  rw [add_step _ _ _ (by decide)] at h1 h2
  exact ⟨ad, e, h0, h1, h2⟩
/-- What marshalVarbind makes of a variable of the package. -/
def VbOk (z : Addr) (p : PduT) (xs : List Int) : Prop := xs.length ≤ 700 ∧ 1 ≤ xs.length ∧ ∀ (b : Nat) (w : World), ZZone z w → w.heap[b]? = some (pduO p.nm p.ty p.v.val) → Calls Tryd.prog 48 #[.pointer (some ⟨b, 0, none⟩)] w fun e w' => GotV w w' xs e
set_option maxRecDepth 100000 in
theorem bytesNil_any (b : Nat) (w : World) (h : Buf w b b []) :
    Calls Tryd.prog 59 #[.pointer (some ⟨b, 0, none⟩)] w fun e w' => e = .returned (.slice none 0 0) ∧ ∃ n, w' = w.drewN n := by
  have mixed : Tryd.prog.follows Departure.mixedOrders = true := by kernel_rfl
  obtain ⟨-, -, c1, -⟩ := h.c2
  have c0 : w.cell? ⟨b, 0, none⟩ = some (.slice none 0 0) := by
    obtain ⟨lr, ⟨e1, e2, e3⟩ | ⟨cap, cur, e1, -⟩⟩ := h
    · rw [Lib.cell_of_heap e3]; rfl
    · exact absurd rfl e1
  clear h
  go_enter Tryd.func59, Tryd.ntmps59
  go_wp2
  go_region_o
  all_goals (go_wp2; go_ret; exact ⟨rfl, 1, rfl⟩)
theorem bytesAll_any (b g : Nat) (xs : List Int) (w : World) (h : Buf w b g xs) (hg : xs.length = 0 → g = b) (hl : xs.length ≤ 1000000) :
    Calls Tryd.prog 59 #[.pointer (some ⟨b, 0, none⟩)] w fun e w' => ∃ A c, e = .returned (.slice A xs.length c) ∧ xs.length ≤ c ∧ Kd.C (Kd.int .u8) w' A xs.length xs ∧ Below w.heap.size w w' := by
  by_cases h0 : xs.length = 0
  · obtain rfl := List.eq_nil_of_length_eq_zero h0
    obtain rfl := hg rfl
    refine (bytesNil_any g w h).mono ?_
    rintro e w' ⟨rfl, n, rfl⟩
    exact ⟨none, 0, rfl, Nat.le_refl _, Kd.C_nil _ _, pw_below_drewN (Below.refl _ _) n⟩
  · refine (bytes_any b g xs w h (by omega) hl).mono ?_
    rintro e w' ⟨cap, rfl, hR, n, rfl⟩
    obtain ⟨A, c, e, hc, hC⟩ := ReadB.reads (ReadB.below hR (pw_below_drewN (Below.refl _ _) n))
    injection e with e1 e2 e3
    subst e1 e3
    exact ⟨_, _, rfl, hc, hC, pw_below_drewN (Below.refl _ _) n⟩
/-- The package's message as a block: its version, community, kind, request id, status and index, non-repeaters and max-repetitions, list. -/
structure PktT where
  ver : Int
  com : ByteArray
  kind : Int
  id : Int
  er : Int
  ei : Int
  nr : Int
  mr : Int
abbrev PktT.arr (p : PktT) (v : Value) : Array Value := #[.int .u8 p.ver, .string p.com, .int .u8 p.kind, .int .u32 0, .int .u32 p.id, .int .u32 0, .int .u8 p.er, .int .u8 p.ei, .int .u8 p.nr, .int .u32 p.mr, v, .slice none 0 0, .bool false, .string ⟨#[]⟩, .string ⟨#[]⟩, .int .i64 0, .int .i64 0, .int .u64 0]
abbrev pktO (p : PktT) (v : Value) : Obj := .cells (p.arr v) 92 (0, 0)
set_option maxRecDepth 100000 in
set_option maxHeartbeats 4000000 in
theorem vbl_any (pk : PktT) (q : Nat) (z : Addr) (A : Option Addr) (c : Nat) (ps : List PduT) (bss : List (List Int)) (hlen : ps.length = bss.length) (hn : ps.length ≤ 20) (hok : ∀ j (h1 : j < ps.length) (h2 : j < bss.length), VbOk z ps[j] bss[j])
    (w : World) (hq : w.heap[q]? = some (pktO pk (.slice A ps.length c))) (hC : Kd.C kPdu w A ps.length ps) (hZ : ZZone z w) :
    Calls Tryd.prog 110 #[.pointer (some ⟨q, 0, none⟩)] w fun e w' => GotE w w' (sSealed 48 bss.flatten 0) e := by
  have k10 : w.cell? ⟨q, 10, none⟩ = some (.slice A ps.length c) := (blk_cell hq 10).trans rfl
  have HH := Lib.hid (And.intro hok (And.intro hC hZ))
  have k10a := cell_al k10 (.cells #[.slice none 0 0, .int .i64 0, .int .i8 0] 127)
  have HL := Lib.hid hlen
  have b0 := (Below.refl w.heap.size w).alloc (Nat.le_refl _) (.cells #[.slice none 0 0, .int .i64 0, .int .i8 0] 127)
  have hB0 := Lib.hid (And.intro (Buf.new w 0) b0)
  clear hok hC hZ hq hlen b0
  go_enter Tryd.func110, Tryd.ntmps110
  go_wp2
  go_loopg [6, 7, 8, 19] ps.length (fun k v6 v7 v8 v19 wr => ∃ j : Nat, v19 = .int .i64 j ∧ Hid (∃ g : Nat, j ≤ ps.length ∧ k = ps.length - j ∧ Buf wr w.heap.size g (bss.take j).flatten ∧ w.heap.size ≤ g ∧ Below w.heap.size w wr ∧ (j = 0 → g = w.heap.size) ∧ (bss.take j).flatten.length ≤ 700 * j))
  case atStart => exact ⟨0, rfl, Lib.hid ⟨w.heap.size, Nat.zero_le _, rfl, hB0.out.1, Nat.le_refl _, hB0.out.2, fun _ => rfl, by simp⟩⟩
  case round =>
    obtain ⟨j, rfl, HJ⟩ := hrel
    obtain ⟨g, hj, hk, hbuf, hg, hbw, hz0, hfl⟩ := HJ.out
    clear HJ hB0
    by_cases hjl : j < ps.length
    · have hjb : j < bss.length := by rw [← HL.out]; exact hjl
      obtain ⟨ad, rfl, q0, q1, q2⟩ := pdu_at (Kd.C_below HH.out.2.1 hbw) j hjl
      have hvb := HH.out.1 j hjl hjb
      have htk : bss.take (j + 1) = bss.take j ++ [bss[j]] := List.take_succ_eq_append_getElem hjb
      generalize ps[j] = pj at *
      generalize hxj : bss[j] = xj at *
      obtain ⟨pv, pnm, pty⟩ := pj
      have hblt := hbuf.lt
      obtain ⟨hx700, hx1, hvb⟩ := hvb
      have HJ := Lib.hid (And.intro hbuf (And.intro hbw (And.intro hvb (And.intro htk (And.intro hk hfl)))))
      clear hbuf hbw hvb htk hk hz0 hxj
      cases pv
      all_goals
        simp only [PV.val] at q0
        go_wp2_with fail
        have ba := fun o => (Below.refl wr.heap.size wr).alloc (Nat.le_refl _) o
        refine (HJ.out.2.2.1 wr.heap.size _ (HH.out.2.2.on (below_step HJ.out.2.1 (ba _))) (blk_new wr _)).mono ?_
        rintro e w2 ⟨v, rfl, hr, hb2⟩
        obtain ⟨A3, c3, rfl, hc3⟩ : ∃ A c, v = .slice A xj.length c ∧ xj.length ≤ c := by obtain ⟨A, c, e, hc, -⟩ := ReadB.reads hr; exact ⟨A, c, e, hc⟩
        have hr3 := ReadB.bound hr
        have hsz : (wr.alloc (Obj.cells #[.nilIface] 0)).heap.size = wr.heap.size + 1 := by simp
        have b2 := (ba _).trans (hb2.mono (ba _).size)
        have H2 := Lib.hid (And.intro (HJ.out.1.below b2) (And.intro hr3 (And.intro (below_step HJ.out.2.1 b2) b2.size)))
        clear hr hb2 hr3 b2 ba q0 q1 q2
        go_wp2_with fail
        refine (write_any w.heap.size g _ xj A3 _ c3 _ w2 H2.out.1 H2.out.2.1 (by simp; omega) (by simp; omega) rfl (by omega) (by have := HJ.out.2.2.2.2.2; omega)).mono ?_
        rintro e w3 ⟨rfl, K3, g3, B3, hg3⟩
        have hsz2 := H2.out.2.2.2
        have H3 := Lib.hid (And.intro B3 (K3.keep H2.out.2.2.1 (Nat.le_refl _) hg))
        clear K3 B3 H2
        go_wp2
        go_roundg (ps.length - (j + 1))
        case measure =>
          have := HJ.out.2.2.2.2.1
          omega
        case rel => exact ⟨j + 1, by go_num, Lib.hid ⟨g3, by omega, rfl, by rw [HJ.out.2.2.2.1, List.flatten_append]; simpa using H3.out.1, by omega, H3.out.2, by omega, by
          rw [HJ.out.2.2.2.1, List.flatten_append, List.length_append]
          have := HJ.out.2.2.2.2.2
          have e : [xj].flatten.length = xj.length := by simp
          omega⟩⟩
    · obtain rfl : j = ps.length := by omega
      rw [show bss.take ps.length = bss by rw [HL.out]; exact List.take_length] at hbuf hfl
      have HJ := Lib.hid (And.intro hbuf (And.intro hbw hg))
      clear hbuf hbw hk
      have hfz : bss.flatten.length = 0 → g = w.heap.size := by
        intro h0
        by_cases hp : ps.length = 0
        · exact hz0 hp
        · have hb0 : 0 < bss.length := by rw [← HL.out]; omega
          have hv := (HH.out.1 0 (by omega) hb0).2.1
          obtain ⟨x, l, rfl⟩ := List.exists_cons_of_length_pos hb0
          simp at h0 hv
          rw [h0.1] at hv
          simp at hv
      have hfl2 : bss.flatten.length ≤ 14000 := by omega
      generalize hfx : bss.flatten = fx at *
      have HFX := Lib.hid hfx
      clear hfx hz0 hfl
      go_wp2_with fail
      refine (bytesAll_any w.heap.size g fx wr HJ.out.1 hfz (by omega)).mono ?_
      rintro e w2 ⟨A2, c2, rfl, hc2, hC2, hb2⟩
      have H2 := Lib.hid (And.intro hC2 (below_step HJ.out.2.1 hb2))
      clear hC2 hb2 HJ hfz
      go_wp2_with fail
      refine (marshalLength_any fx.length w2 (by omega) (by omega)).mono ?_
      rintro e w3 ⟨v3, rfl, ho3, hb3⟩
      obtain ⟨A3, c3, rfl, hc3, hC3⟩ := Kd.R_reads ho3
      have H3 := Lib.hid (And.intro (Kd.C_below H2.out.1 hb3) (And.intro hC3 (below_step H2.out.2 hb3)))
      clear ho3 hb3 hC3 H2
      have hs3 := H3.out.2.2.size
      have hl5 := mLen_len fx.length
      have hlit := OwnB.lit w3 w.heap.size [48] hs3 (by simp) (cs := #[Value.int .u8 48]) rfl
      have b4 := (Below.refl w3.heap.size w3).alloc (Nat.le_refl _) (.cells #[Value.int .u8 48] 5)
      go_wp2_with (at_builtin; refine app_bytes rfl (.tmp 46) (.tmp 47) 26 rfl Tryd.underlying26 infoB w.heap.size (.slice (some ⟨w3.heap.size, 0, none⟩) 1 1) [48] (mLen fx.length) A3 _ c3 rfl rfl hlit (Kd.C_below H3.out.2.1 b4) (by simp; omega) (by simp; omega) ?_; intro v1 w4 ho4 hg4 hat4; refine Hid.out ?_)
      refine Lib.hid ?_
      obtain ⟨A4, c4, rfl, hc4⟩ := Kd.R_slice ho4
      have b5 := b4.grown hg4 (by simp) (fun k hk => by simp [Value.ownBlock] at hk; omega)
      have H4 := Lib.hid (And.intro ho4 (And.intro (Kd.C_below H3.out.1 b5) (below_step H3.out.2.2 b5)))
      have hl6 : ([48] ++ mLen fx.length).length ≤ 10 := by simp; omega
      have hes : sSealed 48 fx 0 = [48] ++ mLen fx.length ++ fx := by
        unfold sSealed
        rw [← mLen_sLen0 fx.length (by omega) (by omega)]
        rfl
      have HES := Lib.hid hes
      generalize [48] ++ mLen fx.length = hd at *
      have hs4 := H4.out.2.2.size
      clear ho4 hg4 hat4 b4 b5 hlit H3 hes
      go_wp2_with (at_builtin; refine app_bytes rfl (.tmp 49) (.tmp 50) 26 rfl Tryd.underlying26 infoB w.heap.size (.slice A4 hd.length c4) hd fx A2 _ c2 rfl rfl H4.out.1 H4.out.2.1 hs4 (by omega) ?_; intro v5 w5 ho5 hg5 hat5; refine Hid.out ?_)
      refine Lib.hid ?_
      have hb5 : Below w.heap.size w w5 := H4.out.2.2.grown hg5 hs4 (fun k hk => OwnB.blk H4.out.1 k hk)
      have HF := Lib.hid (And.intro ho5 hb5)
      clear ho5 hg5 hat5 hb5 H4
      go_wp2
      go_ret2
      exact ⟨_, rfl, by rw [HFX.out, HES.out]; exact HF.out.1, HF.out.2⟩
end Go.Proofs.YtangjgclpipjdaaDoor
set_option linter.unusedVariables false
namespace Go.Proofs.YtangjgclpipjdaaDoor
open Go.RowKit Go.Proofs.YtangjgclpipjdaaDoorW.PrintWords Go.Proofs.YtangjgclpipjdaaDoorW.PrintLast Go.Proofs.YtangjgclpipjdaaDoorW.PrintMore
theorem zz_l1 (k : Nat) (n : Int) (xs : List Int) (i : Nat) (hi : i ≤ 7) (hl : xs.length ≤ 100) : PFnEncode.snmp_zzInteger.l1 (k + 1) n xs (i : Int) = PFnEncode.snmp_zzInteger.l1 k n (xs ++ [n / 256 ^ i % 256]) ((i : Int) - 1) := by
  have e1 : wrap64 (8 * (i : Int)) = 8 * (i : Int) := by unfold wrap64; omega
  have e2 : wrap64 ((i : Int) - 1) = (i : Int) - 1 := by unfold wrap64; omega
  have e3 : shr .i64 n (8 * (i : Int)) = n / 256 ^ i := by
    unfold shr
    have h8 : (8 * (i : Int)).toNat = 8 * i := by omega
    rw [h8, Nat.min_eq_left (by simp [IntKind.bits]; omega), Int.pow_mul]
    rw [show ((2 : Int) ^ 8) = 256 by decide]
  rw [PFnEncode.snmp_zzInteger.l1, if_pos (by omega), e1, if_pos (by omega), if_pos (by omega), e2, e3]
theorem zz_stop (k : Nat) (n : Int) (xs : List Int) : PFnEncode.snmp_zzInteger.l1 (k + 1) n xs (-1) = some xs := by
  rw [PFnEncode.snmp_zzInteger.l1, if_neg (by omega)]
theorem zz_up (k : Nat) (n x c : Int) (h : x > 127) (c0 : 0 ≤ c) (c1 : c ≤ 100) : PFnEncode.snmp_zzInteger.l0 (k + 1) n c x = PFnEncode.snmp_zzInteger.l0 k n (c + 1) (x / 256) := by
  rw [PFnEncode.snmp_zzInteger.l0, if_pos h, show wrap64 (c + 1) = c + 1 by unfold wrap64; omega]
theorem zz_down (k : Nat) (n x c : Int) (h : ¬ x > 127) (h2 : ¬ x < -128) (c0 : 0 ≤ c) (c1 : c ≤ 100) : PFnEncode.snmp_zzInteger.l0 (k + 1) n c x = PFnEncode.snmp_zzInteger.l1 k n [2, c] (c - 1) := by
  rw [PFnEncode.snmp_zzInteger.l0, if_neg h, if_neg h2, show wrap64 (c - 1) = c - 1 by unfold wrap64; omega, show c % 256 = c by omega]
theorem sealed_int (l : List Int) (k : Nat) (hk : l.length = k) (h : k ≤ 100) : sSealed 2 l 0 = [2, (k : Int)] ++ l := by
  unfold sSealed sLen
  rw [hk, if_pos (by omega)]
  rfl
theorem zzInteger_eq (n : Int) (h0 : 0 ≤ n) (h1 : n ≤ 2147483647) : PFnEncode.snmp_zzInteger.f 12 n = some (sSealed 2 (mInt32 n) 0) := by
  unfold PFnEncode.snmp_zzInteger.f
  have d2 : n / 256 / 256 = n / 65536 := by omega
  have d3 : n / 65536 / 256 = n / 16777216 := by omega
  have p2 : (256 : Int) ^ 2 = 65536 := by decide
  have p3 : (256 : Int) ^ 3 = 16777216 := by decide
  have go : ∀ (m : Nat) (xs : List Int) (k : Nat), m ≤ 4 → xs.length + m ≤ 50 → m + 1 ≤ k → PFnEncode.snmp_zzInteger.l1 k n xs ((m : Int) - 1) = some (xs ++ (List.range m).reverse.map (fun j => n / 256 ^ j % 256)) := by
    intro m
    induction m with
    | zero =>
      intro xs k _ _ hk
      obtain ⟨k, rfl⟩ : ∃ j, k = j + 1 := ⟨k - 1, by omega⟩
      rw [show ((0 : Nat) : Int) - 1 = -1 by omega, zz_stop]
      simp
    | succ m ih =>
      intro xs k hm hx hk
      obtain ⟨k, rfl⟩ : ∃ j, k = j + 1 := ⟨k - 1, by omega⟩
      rw [show ((m + 1 : Nat) : Int) - 1 = (m : Int) by omega, zz_l1 k n xs m (by omega) (by omega), ih _ k (by omega) (by simp; omega) (by omega), List.range_succ]
      simp
  have fin : ∀ (m : Nat) (l : List Int), (List.range m).reverse.map (fun j => n / 256 ^ j % 256) = l → mInt32 n = l → l.length = m → m ≤ 4 → ∀ k, m + 1 ≤ k → PFnEncode.snmp_zzInteger.l1 k n [2, (m : Int)] ((m : Int) - 1) = some (sSealed 2 (mInt32 n) 0) := by
    intro m l hl hm hlen h4 k hk
    rw [go m _ k h4 (by simp; omega) hk, hl, hm, sealed_int l m hlen (by omega)]
  by_cases c1 : n ≤ 127
  · rw [zz_down _ _ _ _ (by omega) (by omega) (by omega) (by omega)]
    exact fin 1 [n % 256] (by simp [List.range_succ]) (by unfold mInt32; rw [if_pos (by omega)]) rfl (by omega) 11 (by omega)
  rw [zz_up _ _ _ _ (by omega) (by omega) (by omega)]
  by_cases c2 : n / 256 ≤ 127
  · rw [zz_down _ _ _ _ (by omega) (by omega) (by omega) (by omega)]
    exact fin 2 [n / 256 % 256, n % 256] (by simp [List.range_succ]) (by unfold mInt32; rw [if_neg (by omega), if_pos (by omega)]) rfl (by omega) 10 (by omega)
  rw [zz_up _ _ _ _ (by omega) (by omega) (by omega), d2]
  by_cases c3 : n / 65536 ≤ 127
  · rw [zz_down _ _ _ _ (by omega) (by omega) (by omega) (by omega)]
    exact fin 3 [n / 65536 % 256, n / 256 % 256, n % 256] (by simp [List.range_succ, p2]) (by unfold mInt32; rw [if_neg (by omega), if_neg (by omega), if_pos (by omega)]) rfl (by omega) 9 (by omega)
  rw [zz_up _ _ _ _ (by omega) (by omega) (by omega), d3, zz_down _ _ _ _ (by omega) (by omega) (by omega) (by omega)]
  exact fin 4 [n / 16777216 % 256, n / 65536 % 256, n / 256 % 256, n % 256] (by simp [List.range_succ, p2, p3]) (by unfold mInt32; rw [if_neg (by omega), if_neg (by omega), if_neg (by omega)]) rfl (by omega) 8 (by omega)
theorem zzInteger_any (n : Int) (h0 : 0 ≤ n) (h1 : n ≤ 2147483647) (w : World) : Calls Tryd.prog 132 #[.int .i64 n] w fun e w' => ∃ v, e = .returned v ∧ OwnB w' w.heap.size v (sSealed 2 (mInt32 n) 0) ∧ Below w.heap.size w w' :=
  PFnEncode.snmp_zzInteger.calls 12 n _ w (zzInteger_eq n h0 h1)
end Go.Proofs.YtangjgclpipjdaaDoor
set_option linter.unusedVariables false
namespace Go.Proofs.YtangjgclpipjdaaDoor
open Go.RowKit Go.Proofs.YtangjgclpipjdaaDoorW.PrintWords Go.Proofs.YtangjgclpipjdaaDoorW.PrintLast Go.Proofs.YtangjgclpipjdaaDoorW.PrintMore
set_option maxRecDepth 100000 in
set_option maxHeartbeats 4000000 in
theorem shrink_any (b g : Nat) (xs : List Int) (n : Int) (h0 : 0 ≤ n) (h1 : n ≤ 2147483647) (w : World) (h : Buf w b g xs) (hl : xs.length ≤ 900000) :
    Calls Tryd.prog 108 #[.pointer (some ⟨b, 0, none⟩), .int .i64 n] w fun e w' => e = .returned .nilIface ∧ Wrote w w' b g (xs ++ sSealed 2 (mInt32 n) 0) := by
  have hlt := h.lt
  have HH := Lib.hid h
  clear h
  go_enter Tryd.func108, Tryd.ntmps108
  go_wp2_with fail
  refine (zzInteger_any n h0 h1 w).mono ?_
  rintro e w1 ⟨v, rfl, ho, hb⟩
  obtain ⟨A1, c1, rfl, hc1⟩ := Kd.R_slice ho
  have hL := ReadB.bound (OwnB.within ho)
  have hln : (sSealed 2 (mInt32 n) 0).length ≤ 20 ∧ 1 ≤ (sSealed 2 (mInt32 n) 0).length := by
    have a := sLen_len (mInt32 n).length 0
    have c : (mInt32 n).length ≤ 4 := by unfold mInt32; repeat' split
                                         all_goals simp
    unfold sSealed
    simp
    omega
  generalize hys : sSealed 2 (mInt32 n) 0 = ys at *
  have H1 := Lib.hid (And.intro (HH.out.below hb) (And.intro hL hb))
  clear ho hb hL HH
  go_wp2_with fail
  refine (write_any b g xs ys A1 _ c1 _ w1 H1.out.1 H1.out.2.1 (by omega) (by omega) rfl (by omega) (by omega)).mono ?_
  rintro e w2 ⟨rfl, hW⟩
  have HF := Lib.hid (hW.pre H1.out.2.2)
  clear hW H1
  go_wp2
  go_ret
  exact ⟨rfl, by rw [hys]; exact HF.out⟩
end Go.Proofs.YtangjgclpipjdaaDoor
set_option linter.unusedVariables false
namespace Go.Proofs.YtangjgclpipjdaaDoor
open Go.RowKit Go.Proofs.YtangjgclpipjdaaDoorW.PrintWords Go.Proofs.YtangjgclpipjdaaDoorW.PrintLast Go.Proofs.YtangjgclpipjdaaDoorW.PrintMore
theorem byteCells_bs (s : ByteArray) : Lib.byteCells s.data.toList = (bs s).map (Value.int .u8) := by
  unfold Lib.byteCells bs
  rw [List.map_map]
  rfl
set_option maxRecDepth 100000 in
set_option maxHeartbeats 4000000 in
theorem writeString_any (b g : Nat) (xs : List Int) (s : ByteArray) (w : World) (h : Buf w b g xs) (h1 : 1 ≤ xs.length + s.size) (hl : xs.length + s.size ≤ 1000000) :
    Calls Tryd.prog 83 #[.pointer (some ⟨b, 0, none⟩), .string s] w fun e w' => e = .returned (.tuple #[.int .i64 s.size, .nilIface]) ∧ Wrote w w' b g (xs ++ bs s) := by
  obtain ⟨⟨lr, c2⟩, f2, -, -⟩ := h.c2
  have hB2 := h.last 0
  have hK2 := last_kb w b (.int .i8 0)
  have hs2 := setLast_size w b (.int .i8 0)
  by_cases h0 : s.size = 0
  · have hce : ∀ d dLen dCap W, (Builtin.copy_ #[26, 9] 3 #[.slice d dLen dCap, .string s]).run Tryd.prog W = .ok (goInt 0) W := fun d dLen dCap W => Lib.run_copy_empty_string W _ _ _ 5 d dLen dCap s Tryd.underlying26 (by rw [sizeB]; rfl) h0
    have hbs : bs s = [] := List.eq_nil_of_length_eq_zero (by rw [bs_length]; exact h0)
    rw [hbs, List.append_nil]
    have hT : ∀ W, Buf W b g xs → Calls Tryd.prog 91 #[.pointer (some ⟨b, 0, none⟩), .int .i64 0] W _ := fun W hW => tryGrow_any b g xs 0 W hW (by omega)
    have HH := Lib.hid (And.intro h (And.intro hB2 (And.intro hK2 hs2)))
    clear h hB2 hK2 hs2 hbs
    go_enter Tryd.func83, Tryd.ntmps83
    go_wp2_with fail
    refine (hT _ HH.out.2.1).mono ?_
    rintro e W1 (⟨rfl, hR, hK⟩ | ⟨rfl, rfl, A', l', cap', hc, hlt⟩)
    · obtain ⟨lr1, cap, cur, r1, r2, r3, r4, r5, r6, r7⟩ := hR
      have d0 : W1.cell? ⟨b, 0, none⟩ = some (.slice (some ⟨g, 0, none⟩) xs.length cap) := by rw [Lib.cell_of_heap r2]; rfl
      have HW : Wrote w W1 b g xs := ⟨(HH.out.2.2.1.trans hK (.inl rfl)).past, g, by exact ⟨lr1, .inr ⟨cap, cur, r1, r2, r3, r4, r5, r6, r7⟩⟩, .inl rfl⟩
      have HW := Lib.hid HW
      clear hK r2 r3 r7
      go_wp2
      all_goals go_ret2
      all_goals exact ⟨by simp, HW.out⟩
    · omega
  · have HH := Lib.hid (And.intro h (And.intro hB2 (And.intro hK2 hs2)))
    clear h hB2 hK2 hs2
    go_enter Tryd.func83, Tryd.ntmps83
    go_wp2_with fail
    refine (tryGrow_any b g xs s.size _ HH.out.2.1 h1).mono ?_
    rintro e W1 (⟨rfl, hR, hK⟩ | ⟨rfl, rfl, hno⟩)
    · have hKW : KB w W1 b g := (HH.out.2.2.1.trans hK (.inl rfl)).past
      rw [← bs_length s] at hR
      obtain ⟨cap, cur, lr1, r1, r2, r3, r4, r5, r6, hF⟩ := hR.fill
      rw [bs_length s] at r2 r5
      have d0 : W1.cell? ⟨b, 0, none⟩ = some (.slice (some ⟨g, 0, none⟩) (xs.length + s.size) cap) := by rw [Lib.cell_of_heap r2]; rfl
      have hne : ¬ cap = xs.length := by omega
      have hcp := Lib.run_copy_row_string (P := Tryd.prog) W1 26 9 3 5 g xs.length s.size (cap - xs.length) s cur 5 Tryd.underlying26 sizeB r3 (Nat.le_refl _) (by omega)
      rw [byteCells_bs] at hcp
      have HW : Wrote w (W1.setRow g (cur.toList.take xs.length ++ (bs s).map (Value.int .u8) ++ cur.toList.drop (xs.length + ((bs s).map (Value.int .u8)).length)).toArray) b g (xs ++ bs s) := ⟨hKW.setRow (.inr (.inl rfl)) _, g, hF.out, .inl rfl⟩
      have hcl : ((bs s).map (Value.int .u8)).length = s.size := by rw [List.length_map, bs_length]
      rw [hcl] at HW
      generalize (W1.setRow g (cur.toList.take xs.length ++ (bs s).map (Value.int .u8) ++ cur.toList.drop (xs.length + s.size)).toArray) = W2 at hcp HW
      have HW := Lib.hid HW
      clear hF r2 r3 hKW hK HH hcl hR
      go_wp2
      go_ret2
      exact ⟨rfl, HW.out⟩
    · go_wp2_with fail
      refine (grow_any b g xs s.size _ HH.out.2.1 hno (by omega) hl).mono ?_
      rintro e W1 ⟨rfl, g', hg', hR, hK⟩
      rw [HH.out.2.2.2] at hg'
      have hKW : KB w W1 b g := (HH.out.2.2.1.trans hK (.inl rfl)).past
      rw [← bs_length s] at hR
      obtain ⟨cap, cur, lr1, r1, r2, r3, r4, r5, r6, hF⟩ := hR.fill
      rw [bs_length s] at r2 r5
      have d0 : W1.cell? ⟨b, 0, none⟩ = some (.slice (some ⟨g', 0, none⟩) (xs.length + s.size) cap) := by rw [Lib.cell_of_heap r2]; rfl
      have hne : ¬ cap = xs.length := by omega
      have hcp := Lib.run_copy_row_string (P := Tryd.prog) W1 26 9 3 5 g' xs.length s.size (cap - xs.length) s cur 5 Tryd.underlying26 sizeB r3 (Nat.le_refl _) (by omega)
      rw [byteCells_bs] at hcp
      have HW : Wrote w (W1.setRow g' (cur.toList.take xs.length ++ (bs s).map (Value.int .u8) ++ cur.toList.drop (xs.length + ((bs s).map (Value.int .u8)).length)).toArray) b g (xs ++ bs s) := ⟨hKW.setRow (.inr (.inr hg')) _, g', hF.out, .inr hg'⟩
      have hcl : ((bs s).map (Value.int .u8)).length = s.size := by rw [List.length_map, bs_length]
      rw [hcl] at HW
      generalize (W1.setRow g' (cur.toList.take xs.length ++ (bs s).map (Value.int .u8) ++ cur.toList.drop (xs.length + s.size)).toArray) = W2 at hcp HW
      have HW := Lib.hid HW
      clear hF r2 r3 hKW hK HH hcl hR hno
      go_wp2
      go_ret2
      exact ⟨rfl, HW.out⟩
theorem nil_ahead (b : Nat) (W : World) : (nilAhead 357 123 (.pointer (some ⟨b, 0, none⟩)) "Write").run Tryd.prog W = .ok (some false) W := by kernel_rfl
theorem write_method (b : Nat) (W : World) : (method 357 123 (.pointer (some ⟨b, 0, none⟩)) "Write").run Tryd.prog W = .ok (67, .pointer (some ⟨b, 0, none⟩)) W := by kernel_rfl
theorem Buf.frz {w : World} {b g : Nat} {xs : List Int} (h : Buf w b g xs) (i : Nat) : w.frozen? ⟨b, i, none⟩ = false := by
  obtain ⟨lr, ⟨e1, e2, e3⟩ | ⟨cap, cur, e1, e2, e3, e4⟩⟩ := h
  · exact Lib.frozen_of_heap e3 i
  · exact Lib.frozen_of_heap e2 i
theorem Buf.after {w : World} {b g : Nat} {xs : List Int} (h : Buf w b g xs) (hx : 1 ≤ xs.length) (v : Value) : ∃ (cap : Nat) (lr : Int), xs.length ≤ cap ∧ cap ≤ 9223372036854775807 ∧
    (w.setCell ⟨b, 1, none⟩ v).cell? ⟨b, 0, none⟩ = some (.slice (some ⟨g, 0, none⟩) xs.length cap) ∧ (w.setCell ⟨b, 1, none⟩ v).cell? ⟨b, 1, none⟩ = some v ∧ (w.setCell ⟨b, 1, none⟩ v).cell? ⟨b, 2, none⟩ = some (.int .i8 lr) ∧
    (w.setCell ⟨b, 1, none⟩ v).frozen? ⟨b, 0, none⟩ = false ∧ (w.setCell ⟨b, 1, none⟩ v).frozen? ⟨b, 1, none⟩ = false ∧ (w.setCell ⟨b, 1, none⟩ v).frozen? ⟨b, 2, none⟩ = false := by
  obtain ⟨lr, ⟨rfl, e2, e3⟩ | ⟨cap, cur, e1, e2, e3, e4, e5, e6, e7⟩⟩ := h
  · simp at hx
  · have hb := Lib.heap_setCell_same (i := 1) e2 v
    exact ⟨cap, lr, e5, e6, by rw [Lib.cell_of_heap hb]; rfl, by rw [Lib.cell_of_heap hb]; rfl, by rw [Lib.cell_of_heap hb]; rfl, Lib.frozen_of_heap hb 0, Lib.frozen_of_heap hb 1, Lib.frozen_of_heap hb 2⟩
set_option maxRecDepth 100000 in
theorem reset_any (b : Nat) (ao : Option Addr) (l cap : Nat) (off lr : Int) (w : World) (hlc : l ≤ cap) (hcm : cap ≤ 9223372036854775807) (c0 : w.cell? ⟨b, 0, none⟩ = some (.slice ao l cap)) (c1 : w.cell? ⟨b, 1, none⟩ = some (.int .i64 off)) (c2 : w.cell? ⟨b, 2, none⟩ = some (.int .i8 lr)) (f0 : w.frozen? ⟨b, 0, none⟩ = false) (f1 : w.frozen? ⟨b, 1, none⟩ = false) (f2 : w.frozen? ⟨b, 2, none⟩ = false) :
    Calls Tryd.prog 111 #[.pointer (some ⟨b, 0, none⟩)] w fun e w' => e = .returned (.tuple #[]) ∧ KB w w' b b := by
  go_enter Tryd.func111, Tryd.ntmps111
  go_wp2
  go_end0
  exact ⟨rfl, (((KB.refl w b b).setCell (.inl rfl) _).setCell (.inl rfl) _).setCell (.inl rfl) _⟩
set_option maxRecDepth 100000 in
set_option maxHeartbeats 4000000 in
theorem writeTo_any (b g b2 g2 : Nat) (xs ys : List Int) (B : Nat) (w : World) (h : Buf w b g xs) (k : Buf w b2 g2 ys) (hx : 1 ≤ xs.length) (hl : ys.length + xs.length ≤ 1000000) (h1 : B ≤ b) (h2 : B ≤ g) (h3 : B ≤ b2) (h4 : B ≤ g2) (n1 : b ≠ b2) (n2 : b ≠ g2) (n3 : g ≠ b2) (n4 : g ≠ g2) :
    Calls Tryd.prog 86 #[.pointer (some ⟨b, 0, none⟩), .iface 123 (.pointer (some ⟨b2, 0, none⟩))] w fun e w' => e = .returned (.tuple #[.int .i64 xs.length, .nilIface]) ∧ Below B w w' ∧ ∃ g', Buf w' b2 g' (ys ++ xs) ∧ (g' = g2 ∨ w.heap.size ≤ g') := by
  have mixed : Tryd.prog.follows Departure.mixedOrders = true := by kernel_rfl
  obtain ⟨⟨lr, c2⟩, f2, -, -⟩ := h.c2
  have hB2 := h.last 0
  have hK2 := last_kb w b (.int .i8 0)
  have hs2 := setLast_size w b (.int .i8 0)
  have k2 := k.kept hK2 (Ne.symm n1) (Ne.symm n1) (Ne.symm n2) (Ne.symm n2)
  have HH := Lib.hid (And.intro h (And.intro k (And.intro hB2 (And.intro hK2 (And.intro hs2 k2)))))
  clear h k hB2 hK2 hs2 k2
  go_enter Tryd.func86, Tryd.ntmps86
  go_wp2_with fail
  refine (bufLen_any b g xs _ HH.out.2.2.1 (by omega)).mono ?_
  rintro e w1 ⟨rfl, k1, hw1⟩
  have hKB1 : KB w w1 b b := by rw [hw1]; exact HH.out.2.2.2.1.drewN k1
  have hB1 : Buf w1 b g xs := by rw [hw1]; exact HH.out.2.2.1.below (pw_below_drewN (Below.refl _ _) k1)
  have hC1 : Buf w1 b2 g2 ys := by rw [hw1]; exact HH.out.2.2.2.2.2.below (pw_below_drewN (Below.refl _ _) k1)
  have hs1 : w1.heap.size = w.heap.size := by rw [hw1]; exact HH.out.2.2.2.2.1
  obtain ⟨-, -, c1, -⟩ := hB1.c2
  obtain ⟨cap, c0, hcap, hm, hR⟩ := hB1.read hx
  have hx0 : 0 < (xs.length : Int) := by omega
  have H1 := Lib.hid (And.intro hKB1 (And.intro hB1 (And.intro hC1 (And.intro hs1 hR))))
  clear hKB1 hB1 hC1 hs1 hR hw1 c2 f2 HH
  go_wp2_with fail
  have hna : ∀ W, (nilAhead 357 123 (.pointer (some ⟨b2, 0, none⟩)) "Write").run Tryd.prog W = .ok (some false) W := fun W => nil_ahead b2 W
  have hme : ∀ W, (method 357 123 (.pointer (some ⟨b2, 0, none⟩)) "Write").run Tryd.prog W = .ok (67, .pointer (some ⟨b2, 0, none⟩)) W := fun W => write_method b2 W
  go_region_with_o (go_at_call 67; refine (write_any b2 g2 ys xs _ _ cap (fun k => k = g) _ ?_ ?_ (by omega) (by omega) rfl (by omega) (by omega)).mono ?_; exact H1.out.2.2.1; exact H1.out.2.2.2.2; rintro e w2 ⟨rfl, K2, g', B2, hg'⟩; have hW2 : Buf w2 b g xs := Buf.kept (w := w1.drew) H1.out.2.1 K2 n1 n2 n3 n4; have y1 : w2.cell? ⟨b, 1, none⟩ = some (.int .i64 0) := hW2.c2.2.2.1; have yf1 : w2.frozen? ⟨b, 1, none⟩ = false := hW2.frz 1; have yf0 : w2.frozen? ⟨b, 0, none⟩ = false := hW2.frz 0; have yf2 : w2.frozen? ⟨b, 2, none⟩ = false := hW2.frz 2; have yd : True := trivial)
  all_goals
    obtain ⟨⟨lr2, y2⟩, -, -, -⟩ := hW2.c2
    obtain ⟨cap2, y0, hc2, hm2, -⟩ := hW2.read hx
    obtain ⟨cap3, lr3, ac, ad, x0, x1, x2, z0, z1, z2⟩ := hW2.after hx (.int .i64 xs.length)
    have hs1 := H1.out.2.2.2.1
    have hlb := (H1.out.2.1).lt
    have hsd : w1.drew.heap.size = w1.heap.size := rfl
    have K12 : Below B w w2 := ((H1.out.1.below h1 h1 (by omega)).trans (KB.below (KB.pre (below_drew (Below.refl _ _)) K2) h3 h4 (by omega)))
    have hg2 : g' ≠ b := by omega
    have H2 := Lib.hid (And.intro K12 (And.intro B2 (And.intro hg2 (show g' = g2 ∨ w.heap.size ≤ g' by omega))))
    clear K2 B2 hW2 hg' H1 K12 c0 c1 hcap hm yd hna hme
    go_wp2_with fail
    refine (reset_any b _ _ _ _ _ _ ac ad x0 x1 x2 z0 z1 z2).mono ?_
    rintro e w3 ⟨rfl, K3⟩
    have hKs := ((KB.refl w2 b b).setCell (p := ⟨b, 1, none⟩) (.inl rfl) (.int .i64 xs.length)).trans K3 (.inl rfl)
    have HF := Lib.hid (And.intro (H2.out.1.trans (KB.below hKs h1 h1 (by have := H2.out.1.size; omega))) (And.intro (H2.out.2.1.kept hKs (Ne.symm n1) (Ne.symm n1) H2.out.2.2.1 H2.out.2.2.1) H2.out.2.2.2))
    clear hKs K3 H2 x0 x2
    go_wp2
    go_ret2
    exact ⟨rfl, HF.out.1, g', HF.out.2.1, HF.out.2.2⟩
end Go.Proofs.YtangjgclpipjdaaDoor
set_option linter.unusedVariables false
namespace Go.Proofs.YtangjgclpipjdaaDoor
open Go.RowKit Go.Proofs.YtangjgclpipjdaaDoorW.PrintWords Go.Proofs.YtangjgclpipjdaaDoorW.PrintLast Go.Proofs.YtangjgclpipjdaaDoorW.PrintMore
/-- A buffer with xs; the message stands. -/
structure PS (w : World) (q : Nat) (po : Obj) (b g : Nat) (xs : List Int) (W : World) : Prop where
  buf : Buf W b g xs
  obj : W.heap[q]? = some po
  below : Below w.heap.size w W
  h1 : w.heap.size ≤ b
  h2 : w.heap.size ≤ g
  hq : q < w.heap.size
theorem PS.call {w W W' : World} {q b g : Nat} {po : Obj} {xs : List Int} (h : PS w q po b g xs W) (hb : Below W.heap.size W W') : PS w q po b g xs W' :=
  ⟨h.buf.below hb, blk_below h.obj hb, below_step h.below hb, h.h1, h.h2, h.hq⟩
theorem PS.wrote {w W W' : World} {q b g : Nat} {po : Obj} {xs ys : List Int} (h : PS w q po b g xs W) (hw : Wrote W W' b g ys) : ∃ g', PS w q po b g' ys W' ∧ KB W W' b g ∧ (g' = g ∨ W.heap.size ≤ g') := by
  obtain ⟨K, g', B, hg⟩ := hw
  have a1 := h.h1
  have a2 := h.h2
  have a3 := h.hq
  have a4 := h.below.size
  exact ⟨g', ⟨B, K.blk h.obj (by omega) (by omega), K.keep h.below a1 a2, a1, by omega, a3⟩, K, hg⟩
theorem sUint_small (n : Int) (h0 : 0 ≤ n) (h1 : n ≤ 127) : sUint n = [n] ∧ mInt32 n = [n] := by
  constructor
  · have hu : uBytes n = [n] := by unfold uBytes; rw [if_pos (by omega)]
    unfold sUint
    rw [hu, if_neg (by show ¬ (127 < n); omega)]
  · unfold mInt32
    rw [if_pos (by omega), show n % 256 = n by omega]
/-- The body of a message of the package. -/
def bodyOf (id st ix : Int) (vb : List Int) : List Int := sSealed 2 (mInt32 id) 0 ++ sSealed 2 [st] 0 ++ sSealed 2 [ix] 0 ++ vb
/-- Two buffers: the second one is made behind the first one's row. -/
structure T2 (w : World) (b g : Nat) (xs : List Int) (b2 g2 : Nat) (ys : List Int) (W : World) : Prop where
  buf : Buf W b g xs
  buf2 : Buf W b2 g2 ys
  below : Below w.heap.size w W
  l : w.heap.size ≤ b ∧ w.heap.size ≤ g ∧ b < b2 ∧ g < b2 ∧ b2 ≤ g2
theorem T2.new {w W : World} {b g : Nat} {xs : List Int} (hb : Buf W b g xs) (hw : Below w.heap.size w W) (h1 : w.heap.size ≤ b) (h2 : w.heap.size ≤ g) : T2 w b g xs W.heap.size W.heap.size [] (W.alloc (.cells #[.slice none 0 0, .int .i64 0, .int .i8 0] 127)) :=
  ⟨hb.below ((Below.refl _ _).alloc (Nat.le_refl _) _), Buf.new W 0, hw.alloc hw.size _, h1, h2, hb.lt.1, hb.lt.2, Nat.le_refl _⟩
theorem T2.call {w W W' : World} {b g b2 g2 : Nat} {xs ys : List Int} (h : T2 w b g xs b2 g2 ys W) (hb : Below W.heap.size W W') : T2 w b g xs b2 g2 ys W' :=
  ⟨h.buf.below hb, h.buf2.below hb, below_step h.below hb, h.l⟩
theorem T2.wrote {w W W' : World} {b g b2 g2 : Nat} {xs ys zs : List Int} (h : T2 w b g xs b2 g2 ys W) (hw : Wrote W W' b2 g2 zs) : ∃ g', T2 w b g xs b2 g' zs W' ∧ KB W W' b2 g2 ∧ (g' = g2 ∨ W.heap.size ≤ g') := by
  obtain ⟨K, g', B, hg⟩ := hw
  have l := h.l
  have a := h.below.size
  have c := h.buf2.lt
  exact ⟨g', ⟨h.buf.kept K (by omega) (by omega) (by omega) (by omega), B, K.keep h.below (by omega) (by omega), by omega, by omega, by omega, by omega, by omega⟩, K, hg⟩
theorem flat_len : ∀ (bss : List (List Int)), (∀ x ∈ bss, x.length ≤ 700) → bss.flatten.length ≤ 700 * bss.length
  | [], _ => by simp
  | x :: l, h => by
    have a := h x (by simp)
    have b := flat_len l (fun y hy => h y (by simp [hy]))
    simp only [List.flatten_cons, List.length_append, List.length_cons]
    omega
theorem flat_ok {z : Addr} {ps : List PduT} {bss : List (List Int)} (hlen : ps.length = bss.length) (hn : ps.length ≤ 20) (hok : ∀ j (h1 : j < ps.length) (h2 : j < bss.length), VbOk z ps[j] bss[j]) : bss.flatten.length ≤ 14000 := by
  have h := flat_len bss (fun x hx => by
    obtain ⟨j, hj, rfl⟩ := List.mem_iff_getElem.1 hx
    exact (hok j (by omega) hj).1)
  omega
set_option maxRecDepth 100000 in
set_option maxHeartbeats 4000000 in
theorem mpdu_any (pk : PktT) (q : Nat) (z : Addr) (A : Option Addr) (c : Nat) (ps : List PduT) (bss : List (List Int)) (hlen : ps.length = bss.length) (hn : ps.length ≤ 20) (hok : ∀ j (h1 : j < ps.length) (h2 : j < bss.length), VbOk z ps[j] bss[j])
    (id0 : 0 ≤ pk.id) (id1 : pk.id ≤ 2147483647) (k0 : 160 ≤ pk.kind) (k1 : pk.kind ≤ 168) (k4 : pk.kind ≠ 164) (k5 : pk.kind ≠ 165) (e0 : 0 ≤ pk.er) (e1 : pk.er ≤ 127) (x0 : 0 ≤ pk.ei) (x1 : pk.ei ≤ 127)
    (w : World) (hq : w.heap[q]? = some (pktO pk (.slice A ps.length c))) (hC : Kd.C kPdu w A ps.length ps) (hZ : ZZone z w) :
    Calls Tryd.prog 84 #[.pointer (some ⟨q, 0, none⟩)] w fun e w' => GotV w w' (sSealed pk.kind (bodyOf pk.id pk.er pk.ei (sSealed 48 bss.flatten 0)) 0) e := by
  have z4 : (pk.kind == 164) = false := beq_eq_false_iff_ne.2 k4
  have z5 : (pk.kind == 165) = false := beq_eq_false_iff_ne.2 k5
  have hqs := blk_lt hq
  have hfl := flat_ok hlen hn hok
  have hP : PS w q (pktO pk (.slice A ps.length c)) w.heap.size w.heap.size [] (w.alloc (.cells #[.slice none 0 0, .int .i64 0, .int .i8 0] 127)) :=
    ⟨Buf.new w 0, blk_alloc hq _, (Below.refl _ _).alloc (Nat.le_refl _) _, Nat.le_refl _, Nat.le_refl _, hqs⟩
  have c2 : (w.alloc (.cells #[.slice none 0 0, .int .i64 0, .int .i8 0] 127)).cell? ⟨q, 2, none⟩ = some (.int .u8 pk.kind) := (blk_cell hP.obj 2).trans rfl
  have c4 : (w.alloc (.cells #[.slice none 0 0, .int .i64 0, .int .i8 0] 127)).cell? ⟨q, 4, none⟩ = some (.int .u32 pk.id) := (blk_cell hP.obj 4).trans rfl
  have HH := Lib.hid (And.intro hlen (And.intro hok (And.intro hC (And.intro hZ hP))))
  clear hlen hok hC hZ hP hq
  go_enter Tryd.func84, Tryd.ntmps84
  go_wp2_with fail
  refine (shrink_any w.heap.size w.heap.size [] pk.id id0 id1 _ HH.out.2.2.2.2.buf (by simp)).mono ?_
  rintro e w1 ⟨rfl, hW1⟩
  rw [List.nil_append] at hW1
  obtain ⟨g1, P1, -, -⟩ := HH.out.2.2.2.2.wrote hW1
  have l1 := P1.buf.lt
  have c6 : w1.cell? ⟨q, 6, none⟩ = some (.int .u8 pk.er) := (blk_cell P1.obj 6).trans rfl
  have H1 := Lib.hid P1
  have hli : (sSealed 2 (mInt32 pk.id) 0).length ≤ 20 ∧ 1 ≤ (sSealed 2 (mInt32 pk.id) 0).length := by
    have a := sSealed_len 2 (mInt32 pk.id)
    have c := mInt32_len pk.id
    omega
  generalize hid : sSealed 2 (mInt32 pk.id) 0 = xi at *
  have HID := Lib.hid hid
  clear hW1 P1 c2 c4 hid
  go_wp2_with fail
  refine (marshalUint32_any pk.er e0 (by omega) _ (.inr (.inr (.inr ⟨rfl, by omega⟩))) w1).mono ?_
  rintro e wa1 ⟨va1, rfl, hra1, hba1⟩
  rw [(sUint_small pk.er e0 e1).1] at hra1
  obtain ⟨A1, d1, rfl, hd1⟩ : ∃ A c, va1 = .slice A 1 c ∧ 1 ≤ c := by obtain ⟨A, c, e, hc, -⟩ := ReadB.reads hra1; exact ⟨A, c, e, hc⟩
  have Ha1 := Lib.hid (And.intro (ReadB.bound hra1) (H1.out.call hba1))
  clear hra1 hba1 H1 c6
  go_wp2_with fail
  have ta1 := Ha1.out.2.buf.lt
  have bb1 := (Below.refl wa1.heap.size wa1).alloc (Nat.le_refl _) (.cells #[.int .u8 2, .int .u8 1] 5)
  have Pb1 := Ha1.out.2.call bb1
  have Rb1 := Ha1.out.1.below bb1
  have L1 : ReadB (wa1.alloc (.cells #[.int .u8 2, .int .u8 1] 5)) (fun k => wa1.heap.size ≤ k) (.slice (some ⟨wa1.heap.size, 0, none⟩) 2 2) [2, 1] := readB_block (xs := [2, 1]) (s := 0) (n := 2) (t := 5) (show (wa1.alloc (.cells #[.int .u8 2, .int .u8 1] 5)).heap[wa1.heap.size]? = some (.cells (([2, 1] : List Int).map (Value.int .u8)).toArray 5 (0, 0)) from blk_new wa1 (.cells #[.int .u8 2, .int .u8 1] 5)) rfl rfl (by omega) (Nat.le_refl _)
  have Hb1 := Lib.hid (And.intro Pb1 (And.intro Rb1 L1))
  clear bb1 Pb1 Rb1 L1 Ha1
  refine (write_any w.heap.size g1 _ [2, 1] _ 2 2 _ _ Hb1.out.1.buf Hb1.out.2.2 (by omega) (by omega) rfl (by simp) (by simp; omega)).mono ?_
  rintro e wb1 ⟨rfl, hWb1⟩
  obtain ⟨gb1, Pb1, Kb1, hgb1⟩ := Hb1.out.1.wrote hWb1
  have Rb1 := Kb1.read Hb1.out.2.1 (by omega) (by omega)
  have sx1 : (wa1.alloc (.cells #[.int .u8 2, .int .u8 1] 5)).heap.size = wa1.heap.size + 1 := by simp
  have Hc1 := Lib.hid (And.intro Pb1 Rb1)
  clear Pb1 Kb1 Rb1 hWb1 Hb1
  go_wp2_with fail
  refine (write_any w.heap.size gb1 _ [pk.er] A1 1 d1 _ wb1 Hc1.out.1.buf Hc1.out.2 (by omega) (by omega) rfl (by simp) (by simp; omega)).mono ?_
  rintro e wc1 ⟨rfl, hWc1⟩
  obtain ⟨gc1, Pc1, -, -⟩ := Hc1.out.1.wrote hWc1
  have c7 : wc1.cell? ⟨q, 7, none⟩ = some (.int .u8 pk.ei) := (blk_cell Pc1.obj 7).trans rfl
  have lc1 := Pc1.buf.lt
  have Hd1 := Lib.hid Pc1
  clear hWc1 Pc1 Hc1 hgb1 sx1 ta1
  go_wp2_with fail
  refine (marshalUint32_any pk.ei x0 (by omega) _ (.inr (.inr (.inl ⟨rfl, by omega⟩))) wc1).mono ?_
  rintro e wa2 ⟨va2, rfl, hra2, hba2⟩
  rw [(sUint_small pk.ei x0 x1).1] at hra2
  obtain ⟨A2, d2, rfl, hd2⟩ : ∃ A c, va2 = .slice A 1 c ∧ 1 ≤ c := by obtain ⟨A, c, e, hc, -⟩ := ReadB.reads hra2; exact ⟨A, c, e, hc⟩
  have Ha2 := Lib.hid (And.intro (ReadB.bound hra2) (Hd1.out.call hba2))
  clear hra2 hba2 Hd1 c7
  go_wp2_with fail
  have ta2 := Ha2.out.2.buf.lt
  have bb2 := (Below.refl wa2.heap.size wa2).alloc (Nat.le_refl _) (.cells #[.int .u8 2, .int .u8 1] 5)
  have Pb2 := Ha2.out.2.call bb2
  have Rb2 := Ha2.out.1.below bb2
  have L2 : ReadB (wa2.alloc (.cells #[.int .u8 2, .int .u8 1] 5)) (fun k => wa2.heap.size ≤ k) (.slice (some ⟨wa2.heap.size, 0, none⟩) 2 2) [2, 1] := readB_block (xs := [2, 1]) (s := 0) (n := 2) (t := 5) (show (wa2.alloc (.cells #[.int .u8 2, .int .u8 1] 5)).heap[wa2.heap.size]? = some (.cells (([2, 1] : List Int).map (Value.int .u8)).toArray 5 (0, 0)) from blk_new wa2 (.cells #[.int .u8 2, .int .u8 1] 5)) rfl rfl (by omega) (Nat.le_refl _)
  have Hb2 := Lib.hid (And.intro Pb2 (And.intro Rb2 L2))
  clear bb2 Pb2 Rb2 L2 Ha2
  refine (write_any w.heap.size gc1 _ [2, 1] _ 2 2 _ _ Hb2.out.1.buf Hb2.out.2.2 (by omega) (by omega) rfl (by simp) (by simp; omega)).mono ?_
  rintro e wb2 ⟨rfl, hWb2⟩
  obtain ⟨gb2, Pb2, Kb2, hgb2⟩ := Hb2.out.1.wrote hWb2
  have Rb2 := Kb2.read Hb2.out.2.1 (by omega) (by omega)
  have sx2 : (wa2.alloc (.cells #[.int .u8 2, .int .u8 1] 5)).heap.size = wa2.heap.size + 1 := by simp
  have Hc2 := Lib.hid (And.intro Pb2 Rb2)
  clear Pb2 Kb2 Rb2 hWb2 Hb2
  go_wp2_with fail
  refine (write_any w.heap.size gb2 _ [pk.ei] A2 1 d2 _ wb2 Hc2.out.1.buf Hc2.out.2 (by omega) (by omega) rfl (by simp) (by simp; omega)).mono ?_
  rintro e wc2 ⟨rfl, hWc2⟩
  obtain ⟨gc2, Pc2, -, -⟩ := Hc2.out.1.wrote hWc2
  have lc2 := Pc2.buf.lt
  have Hd2 := Lib.hid Pc2
  clear hWc2 Pc2 Hc2 hgb2 sx2 ta2
  go_wp2_with fail
  refine (vbl_any pk q z A c ps bss HH.out.1 hn HH.out.2.1 wc2 Hd2.out.obj (Kd.C_below HH.out.2.2.1 Hd2.out.below) (HH.out.2.2.2.1.on Hd2.out.below)).mono ?_
  rintro e w4 ⟨v4, rfl, ho4, hb4⟩
  obtain ⟨A4, d4, rfl, hd4⟩ := Kd.R_slice ho4
  have H4 := Lib.hid (And.intro (OwnB.within ho4) (Hd2.out.call hb4))
  have hls : (sSealed 48 bss.flatten 0).length ≤ 14006 := by
    have a := sSealed_len 48 bss.flatten
    omega
  generalize hsv : sSealed 48 bss.flatten 0 = sv at *
  have HSV := Lib.hid hsv
  clear ho4 hb4 Hd2 hsv HH
  go_wp2_with fail
  refine (write_any w.heap.size gc2 _ sv A4 _ d4 _ w4 H4.out.2.buf H4.out.1 (by omega) (by omega) rfl (by simp; omega) (by simp; omega)).mono ?_
  rintro e w5 ⟨rfl, hW5⟩
  obtain ⟨g5, P5, -, -⟩ := H4.out.2.wrote hW5
  have hX : xi ++ [2, 1] ++ [pk.er] ++ [2, 1] ++ [pk.ei] ++ sv = bodyOf pk.id pk.er pk.ei sv := by
    rw [← HID.out]
    unfold bodyOf sSealed sLen
    simp
  rw [hX] at P5
  have hxl : (bodyOf pk.id pk.er pk.ei sv).length ≤ 15000 ∧ 1 ≤ (bodyOf pk.id pk.er pk.ei sv).length := by rw [← hX]; simp; omega
  generalize hbo : bodyOf pk.id pk.er pk.ei sv = xs at *
  have HBO := Lib.hid hbo
  have c2 : w5.cell? ⟨q, 2, none⟩ = some (.int .u8 pk.kind) := (blk_cell P5.obj 2).trans rfl
  have T5 := T2.new P5.buf P5.below P5.h1 P5.h2
  have H5 := Lib.hid (And.intro T5 (And.intro P5.buf.lt P5.obj))
  clear hW5 P5 H4 hX hbo T5
  go_wp2_with fail
  refine (bufLen_any w.heap.size g5 xs _ H5.out.1.buf (by omega)).mono ?_
  rintro e w6 ⟨rfl, n6, rfl⟩
  have hb6 := pw_below_drewN (Below.refl (w5.alloc (.cells #[.slice none 0 0, .int .i64 0, .int .i8 0] 127)).heap.size (w5.alloc (.cells #[.slice none 0 0, .int .i64 0, .int .i8 0] 127))) n6
  have T6 := H5.out.1.call hb6
  have o6 := blk_below (blk_alloc H5.out.2.2 (.cells #[.slice none 0 0, .int .i64 0, .int .i8 0] 127)) hb6
  generalize ((w5.alloc (.cells #[.slice none 0 0, .int .i64 0, .int .i8 0] 127)).drewN n6) = w6 at *
  have H6 := Lib.hid (And.intro T6 o6)
  clear hb6 T6 o6
  go_wp2_with fail
  refine (marshalLength_any xs.length w6 (by omega) (by omega)).mono ?_
  rintro e w7 ⟨v7, rfl, ho7, hb7⟩
  obtain ⟨A7, d7, rfl, hd7⟩ := Kd.R_slice ho7
  have T7 := H6.out.1.call hb7
  have c2' : w7.cell? ⟨q, 2, none⟩ = some (.int .u8 pk.kind) := (blk_cell (blk_below H6.out.2 hb7) 2).trans rfl
  have hs6 := T7.buf2.lt
  have hs6' := H6.out.1.buf2.lt
  have hl7 := mLen_len xs.length
  have H7 := Lib.hid (And.intro T7 (OwnB.within ho7))
  clear ho7 hb7 T7 H6
  go_wp2_with fail
  refine (writeByte_any w5.heap.size w5.heap.size [] pk.kind w7 H7.out.1.buf2 (by simp)).mono ?_
  rintro e w8 ⟨rfl, hW8⟩
  obtain ⟨g8, T8, K8, hg8⟩ := H7.out.1.wrote hW8
  have R8 := K8.read H7.out.2 (by omega) (by omega)
  have hl8 := T8.l
  have H8 := Lib.hid (And.intro T8 R8)
  clear hW8 T8 K8 R8 H7 c2'
  go_wp2_with fail
  refine (write_any w5.heap.size g8 ([] ++ [pk.kind]) (mLen xs.length) A7 _ d7 _ w8 H8.out.1.buf2 H8.out.2 (by omega) (by omega) rfl (by simp) (by simp; omega)).mono ?_
  rintro e w9 ⟨rfl, hW9⟩
  obtain ⟨g9, T9, -, -⟩ := H8.out.1.wrote hW9
  have hl9 := T9.l
  have H9 := Lib.hid T9
  clear hW9 T9 H8
  go_wp2_with fail
  refine (writeTo_any w.heap.size g5 w5.heap.size g9 xs _ w.heap.size w9 H9.out.buf H9.out.buf2 hxl.2 (by simp; omega) (by omega) (by omega) (by omega) (by omega) (by omega) (by omega) (by omega) (by omega)).mono ?_
  rintro e w10 ⟨rfl, hb10, g10, B10, hg10⟩
  have hes : ([] ++ [pk.kind] ++ mLen xs.length ++ xs) = sSealed pk.kind xs 0 := by
    unfold sSealed
    rw [← mLen_sLen0 xs.length (by omega) (by omega), show pk.kind % 256 = pk.kind by omega]
    rfl
  rw [hes] at B10
  have hsl := sSealed_len pk.kind xs
  generalize hfx : sSealed pk.kind xs 0 = fx at *
  have HFX := Lib.hid hfx
  have hg10' : w.heap.size ≤ g10 := by have := H9.out.below.size; omega
  have H10 := Lib.hid (And.intro B10 (H9.out.below.trans hb10))
  clear B10 hb10 hes hfx H9
  go_wp2_with fail
  refine (bytes_any w5.heap.size g10 fx w10 H10.out.1 (by omega) (by omega)).mono ?_
  rintro e w11 ⟨c11, rfl, hR11, n11, rfl⟩
  have HF := Lib.hid (And.intro (ReadB.below (ReadB.mono hR11 (fun k (hk : k = g10) => hk ▸ hg10')) (pw_below_drewN (Below.refl w10.heap.size w10) n11)) (pw_below_drewN H10.out.2 n11))
  clear hR11 H10
  go_wp2
  go_ret2
  exact ⟨_, rfl, by rw [HSV.out, HBO.out, HFX.out]; exact HF.out.1, HF.out.2⟩
set_option maxRecDepth 100000 in
set_option maxHeartbeats 4000000 in
theorem mpdu_bulk (pk : PktT) (q : Nat) (z : Addr) (A : Option Addr) (c : Nat) (ps : List PduT) (bss : List (List Int)) (hlen : ps.length = bss.length) (hn : ps.length ≤ 20) (hok : ∀ j (h1 : j < ps.length) (h2 : j < bss.length), VbOk z ps[j] bss[j])
    (id0 : 0 ≤ pk.id) (id1 : pk.id ≤ 2147483647) (k5 : pk.kind = 165) (e0 : 0 ≤ pk.nr) (e1 : pk.nr ≤ 127) (x0 : 0 ≤ pk.mr) (x1 : pk.mr ≤ 127)
    (w : World) (hq : w.heap[q]? = some (pktO pk (.slice A ps.length c))) (hC : Kd.C kPdu w A ps.length ps) (hZ : ZZone z w) :
    Calls Tryd.prog 84 #[.pointer (some ⟨q, 0, none⟩)] w fun e w' => GotV w w' (sSealed pk.kind (bodyOf pk.id pk.nr pk.mr (sSealed 48 bss.flatten 0)) 0) e := by
  have HK := Lib.hid k5
  rw [k5]
  clear k5
  have hqs := blk_lt hq
  have hfl := flat_ok hlen hn hok
  have hP : PS w q (pktO pk (.slice A ps.length c)) w.heap.size w.heap.size [] (w.alloc (.cells #[.slice none 0 0, .int .i64 0, .int .i8 0] 127)) :=
    ⟨Buf.new w 0, blk_alloc hq _, (Below.refl _ _).alloc (Nat.le_refl _) _, Nat.le_refl _, Nat.le_refl _, hqs⟩
  have c2 : (w.alloc (.cells #[.slice none 0 0, .int .i64 0, .int .i8 0] 127)).cell? ⟨q, 2, none⟩ = some (.int .u8 165) := (blk_cell hP.obj 2).trans (by show some (Value.int .u8 pk.kind) = _; rw [HK.out])
  have c4 : (w.alloc (.cells #[.slice none 0 0, .int .i64 0, .int .i8 0] 127)).cell? ⟨q, 4, none⟩ = some (.int .u32 pk.id) := (blk_cell hP.obj 4).trans rfl
  have HH := Lib.hid (And.intro hlen (And.intro hok (And.intro hC (And.intro hZ hP))))
  clear hlen hok hC hZ hP hq
  go_enter Tryd.func84, Tryd.ntmps84
  go_wp2_with fail
  refine (shrink_any w.heap.size w.heap.size [] pk.id id0 id1 _ HH.out.2.2.2.2.buf (by simp)).mono ?_
  rintro e w1 ⟨rfl, hW1⟩
  rw [List.nil_append] at hW1
  obtain ⟨g1, P1, -, -⟩ := HH.out.2.2.2.2.wrote hW1
  have l1 := P1.buf.lt
  have c6 : w1.cell? ⟨q, 8, none⟩ = some (.int .u8 pk.nr) := (blk_cell P1.obj 8).trans rfl
  have H1 := Lib.hid P1
  have hli : (sSealed 2 (mInt32 pk.id) 0).length ≤ 20 ∧ 1 ≤ (sSealed 2 (mInt32 pk.id) 0).length := by
    have a := sSealed_len 2 (mInt32 pk.id)
    have c := mInt32_len pk.id
    omega
  generalize hid : sSealed 2 (mInt32 pk.id) 0 = xi at *
  have HID := Lib.hid hid
  clear hW1 P1 c2 c4 hid
  go_wp2_with fail
  refine (marshalUint32_any pk.nr e0 (by omega) _ (.inr (.inr (.inl ⟨rfl, by omega⟩))) w1).mono ?_
  rintro e wa1 ⟨va1, rfl, hra1, hba1⟩
  rw [(sUint_small pk.nr e0 e1).1] at hra1
  obtain ⟨A1, d1, rfl, hd1⟩ : ∃ A c, va1 = .slice A 1 c ∧ 1 ≤ c := by obtain ⟨A, c, e, hc, -⟩ := ReadB.reads hra1; exact ⟨A, c, e, hc⟩
  have Ha1 := Lib.hid (And.intro (ReadB.bound hra1) (H1.out.call hba1))
  clear hra1 hba1 H1 c6
  go_wp2_with fail
  have ta1 := Ha1.out.2.buf.lt
  have bb1 := (Below.refl wa1.heap.size wa1).alloc (Nat.le_refl _) (.cells #[.int .u8 2, .int .u8 1] 5)
  have Pb1 := Ha1.out.2.call bb1
  have Rb1 := Ha1.out.1.below bb1
  have L1 : ReadB (wa1.alloc (.cells #[.int .u8 2, .int .u8 1] 5)) (fun k => wa1.heap.size ≤ k) (.slice (some ⟨wa1.heap.size, 0, none⟩) 2 2) [2, 1] := readB_block (xs := [2, 1]) (s := 0) (n := 2) (t := 5) (show (wa1.alloc (.cells #[.int .u8 2, .int .u8 1] 5)).heap[wa1.heap.size]? = some (.cells (([2, 1] : List Int).map (Value.int .u8)).toArray 5 (0, 0)) from blk_new wa1 (.cells #[.int .u8 2, .int .u8 1] 5)) rfl rfl (by omega) (Nat.le_refl _)
  have Hb1 := Lib.hid (And.intro Pb1 (And.intro Rb1 L1))
  clear bb1 Pb1 Rb1 L1 Ha1
  refine (write_any w.heap.size g1 _ [2, 1] _ 2 2 _ _ Hb1.out.1.buf Hb1.out.2.2 (by omega) (by omega) rfl (by simp) (by simp; omega)).mono ?_
  rintro e wb1 ⟨rfl, hWb1⟩
  obtain ⟨gb1, Pb1, Kb1, hgb1⟩ := Hb1.out.1.wrote hWb1
  have Rb1 := Kb1.read Hb1.out.2.1 (by omega) (by omega)
  have sx1 : (wa1.alloc (.cells #[.int .u8 2, .int .u8 1] 5)).heap.size = wa1.heap.size + 1 := by simp
  have Hc1 := Lib.hid (And.intro Pb1 Rb1)
  clear Pb1 Kb1 Rb1 hWb1 Hb1
  go_wp2_with fail
  refine (write_any w.heap.size gb1 _ [pk.nr] A1 1 d1 _ wb1 Hc1.out.1.buf Hc1.out.2 (by omega) (by omega) rfl (by simp) (by simp; omega)).mono ?_
  rintro e wc1 ⟨rfl, hWc1⟩
  obtain ⟨gc1, Pc1, -, -⟩ := Hc1.out.1.wrote hWc1
  have c7 : wc1.cell? ⟨q, 9, none⟩ = some (.int .u32 pk.mr) := (blk_cell Pc1.obj 9).trans rfl
  have lc1 := Pc1.buf.lt
  have Hd1 := Lib.hid Pc1
  clear hWc1 Pc1 Hc1 hgb1 sx1 ta1
  go_wp2_with fail
  refine (marshalUint32_any pk.mr x0 (by omega) _ (.inl rfl) wc1).mono ?_
  rintro e wa2 ⟨va2, rfl, hra2, hba2⟩
  rw [(sUint_small pk.mr x0 x1).1] at hra2
  obtain ⟨A2, d2, rfl, hd2⟩ : ∃ A c, va2 = .slice A 1 c ∧ 1 ≤ c := by obtain ⟨A, c, e, hc, -⟩ := ReadB.reads hra2; exact ⟨A, c, e, hc⟩
  have Ha2 := Lib.hid (And.intro (ReadB.bound hra2) (Hd1.out.call hba2))
  clear hra2 hba2 Hd1 c7
  go_wp2_with fail
  have ta2 := Ha2.out.2.buf.lt
  have bb2 := (Below.refl wa2.heap.size wa2).alloc (Nat.le_refl _) (.cells #[.int .u8 2, .int .u8 1] 5)
  have Pb2 := Ha2.out.2.call bb2
  have Rb2 := Ha2.out.1.below bb2
  have L2 : ReadB (wa2.alloc (.cells #[.int .u8 2, .int .u8 1] 5)) (fun k => wa2.heap.size ≤ k) (.slice (some ⟨wa2.heap.size, 0, none⟩) 2 2) [2, 1] := readB_block (xs := [2, 1]) (s := 0) (n := 2) (t := 5) (show (wa2.alloc (.cells #[.int .u8 2, .int .u8 1] 5)).heap[wa2.heap.size]? = some (.cells (([2, 1] : List Int).map (Value.int .u8)).toArray 5 (0, 0)) from blk_new wa2 (.cells #[.int .u8 2, .int .u8 1] 5)) rfl rfl (by omega) (Nat.le_refl _)
  have Hb2 := Lib.hid (And.intro Pb2 (And.intro Rb2 L2))
  clear bb2 Pb2 Rb2 L2 Ha2
  refine (write_any w.heap.size gc1 _ [2, 1] _ 2 2 _ _ Hb2.out.1.buf Hb2.out.2.2 (by omega) (by omega) rfl (by simp) (by simp; omega)).mono ?_
  rintro e wb2 ⟨rfl, hWb2⟩
  obtain ⟨gb2, Pb2, Kb2, hgb2⟩ := Hb2.out.1.wrote hWb2
  have Rb2 := Kb2.read Hb2.out.2.1 (by omega) (by omega)
  have sx2 : (wa2.alloc (.cells #[.int .u8 2, .int .u8 1] 5)).heap.size = wa2.heap.size + 1 := by simp
  have Hc2 := Lib.hid (And.intro Pb2 Rb2)
  clear Pb2 Kb2 Rb2 hWb2 Hb2
  go_wp2_with fail
  refine (write_any w.heap.size gb2 _ [pk.mr] A2 1 d2 _ wb2 Hc2.out.1.buf Hc2.out.2 (by omega) (by omega) rfl (by simp) (by simp; omega)).mono ?_
  rintro e wc2 ⟨rfl, hWc2⟩
  obtain ⟨gc2, Pc2, -, -⟩ := Hc2.out.1.wrote hWc2
  have lc2 := Pc2.buf.lt
  have Hd2 := Lib.hid Pc2
  clear hWc2 Pc2 Hc2 hgb2 sx2 ta2
  go_wp2_with fail
  refine (vbl_any pk q z A c ps bss HH.out.1 hn HH.out.2.1 wc2 Hd2.out.obj (Kd.C_below HH.out.2.2.1 Hd2.out.below) (HH.out.2.2.2.1.on Hd2.out.below)).mono ?_
  rintro e w4 ⟨v4, rfl, ho4, hb4⟩
  obtain ⟨A4, d4, rfl, hd4⟩ := Kd.R_slice ho4
  have H4 := Lib.hid (And.intro (OwnB.within ho4) (Hd2.out.call hb4))
  have hls : (sSealed 48 bss.flatten 0).length ≤ 14006 := by
    have a := sSealed_len 48 bss.flatten
    omega
  generalize hsv : sSealed 48 bss.flatten 0 = sv at *
  have HSV := Lib.hid hsv
  clear ho4 hb4 Hd2 hsv HH
  go_wp2_with fail
  refine (write_any w.heap.size gc2 _ sv A4 _ d4 _ w4 H4.out.2.buf H4.out.1 (by omega) (by omega) rfl (by simp; omega) (by simp; omega)).mono ?_
  rintro e w5 ⟨rfl, hW5⟩
  obtain ⟨g5, P5, -, -⟩ := H4.out.2.wrote hW5
  have hX : xi ++ [2, 1] ++ [pk.nr] ++ [2, 1] ++ [pk.mr] ++ sv = bodyOf pk.id pk.nr pk.mr sv := by
    rw [← HID.out]
    unfold bodyOf sSealed sLen
    simp
  rw [hX] at P5
  have hxl : (bodyOf pk.id pk.nr pk.mr sv).length ≤ 15000 ∧ 1 ≤ (bodyOf pk.id pk.nr pk.mr sv).length := by rw [← hX]; simp; omega
  generalize hbo : bodyOf pk.id pk.nr pk.mr sv = xs at *
  have HBO := Lib.hid hbo
  have c2 : w5.cell? ⟨q, 2, none⟩ = some (.int .u8 165) := (blk_cell P5.obj 2).trans (by show some (Value.int .u8 pk.kind) = _; rw [HK.out])
  have T5 := T2.new P5.buf P5.below P5.h1 P5.h2
  have H5 := Lib.hid (And.intro T5 (And.intro P5.buf.lt P5.obj))
  clear hW5 P5 H4 hX hbo T5
  go_wp2_with fail
  refine (bufLen_any w.heap.size g5 xs _ H5.out.1.buf (by omega)).mono ?_
  rintro e w6 ⟨rfl, n6, rfl⟩
  have hb6 := pw_below_drewN (Below.refl (w5.alloc (.cells #[.slice none 0 0, .int .i64 0, .int .i8 0] 127)).heap.size (w5.alloc (.cells #[.slice none 0 0, .int .i64 0, .int .i8 0] 127))) n6
  have T6 := H5.out.1.call hb6
  have o6 := blk_below (blk_alloc H5.out.2.2 (.cells #[.slice none 0 0, .int .i64 0, .int .i8 0] 127)) hb6
  generalize ((w5.alloc (.cells #[.slice none 0 0, .int .i64 0, .int .i8 0] 127)).drewN n6) = w6 at *
  have H6 := Lib.hid (And.intro T6 o6)
  clear hb6 T6 o6
  go_wp2_with fail
  refine (marshalLength_any xs.length w6 (by omega) (by omega)).mono ?_
  rintro e w7 ⟨v7, rfl, ho7, hb7⟩
  obtain ⟨A7, d7, rfl, hd7⟩ := Kd.R_slice ho7
  have T7 := H6.out.1.call hb7
  have c2' : w7.cell? ⟨q, 2, none⟩ = some (.int .u8 165) := (blk_cell (blk_below H6.out.2 hb7) 2).trans (by show some (Value.int .u8 pk.kind) = _; rw [HK.out])
  have hs6 := T7.buf2.lt
  have hs6' := H6.out.1.buf2.lt
  have hl7 := mLen_len xs.length
  have H7 := Lib.hid (And.intro T7 (OwnB.within ho7))
  clear ho7 hb7 T7 H6
  go_wp2_with fail
  refine (writeByte_any w5.heap.size w5.heap.size [] 165 w7 H7.out.1.buf2 (by simp)).mono ?_
  rintro e w8 ⟨rfl, hW8⟩
  obtain ⟨g8, T8, K8, hg8⟩ := H7.out.1.wrote hW8
  have R8 := K8.read H7.out.2 (by omega) (by omega)
  have hl8 := T8.l
  have H8 := Lib.hid (And.intro T8 R8)
  clear hW8 T8 K8 R8 H7 c2'
  go_wp2_with fail
  refine (write_any w5.heap.size g8 ([] ++ [165]) (mLen xs.length) A7 _ d7 _ w8 H8.out.1.buf2 H8.out.2 (by omega) (by omega) rfl (by simp) (by simp; omega)).mono ?_
  rintro e w9 ⟨rfl, hW9⟩
  obtain ⟨g9, T9, -, -⟩ := H8.out.1.wrote hW9
  have hl9 := T9.l
  have H9 := Lib.hid T9
  clear hW9 T9 H8
  go_wp2_with fail
  refine (writeTo_any w.heap.size g5 w5.heap.size g9 xs _ w.heap.size w9 H9.out.buf H9.out.buf2 hxl.2 (by simp; omega) (by omega) (by omega) (by omega) (by omega) (by omega) (by omega) (by omega) (by omega)).mono ?_
  rintro e w10 ⟨rfl, hb10, g10, B10, hg10⟩
  have hes : ([] ++ [165] ++ mLen xs.length ++ xs) = sSealed 165 xs 0 := by
    unfold sSealed
    rw [← mLen_sLen0 xs.length (by omega) (by omega)]
    rfl
  rw [hes] at B10
  have hsl := sSealed_len 165 xs
  generalize hfx : sSealed 165 xs 0 = fx at *
  have HFX := Lib.hid hfx
  have hg10' : w.heap.size ≤ g10 := by have := H9.out.below.size; omega
  have H10 := Lib.hid (And.intro B10 (H9.out.below.trans hb10))
  clear B10 hb10 hes hfx H9
  go_wp2_with fail
  refine (bytes_any w5.heap.size g10 fx w10 H10.out.1 (by omega) (by omega)).mono ?_
  rintro e w11 ⟨c11, rfl, hR11, n11, rfl⟩
  have HF := Lib.hid (And.intro (ReadB.below (ReadB.mono hR11 (fun k (hk : k = g10) => hk ▸ hg10')) (pw_below_drewN (Below.refl w10.heap.size w10) n11)) (pw_below_drewN H10.out.2 n11))
  clear hR11 H10
  go_wp2
  go_ret2
  exact ⟨_, rfl, by rw [HSV.out, HBO.out, HFX.out]; exact HF.out.1, HF.out.2⟩
end Go.Proofs.YtangjgclpipjdaaDoor
set_option linter.unusedVariables false
namespace Go.Proofs.YtangjgclpipjdaaDoor
open Go.RowKit Go.Proofs.YtangjgclpipjdaaDoorW.PrintWords Go.Proofs.YtangjgclpipjdaaDoorW.PrintLast Go.Proofs.YtangjgclpipjdaaDoorW.PrintMore
/-- A literal of bytes, read. -/
theorem readLit (w : World) (xs : List Int) (cs : Array Value) (hc : cs = (xs.map (Value.int .u8)).toArray) (n : Nat) (hn : xs.length = n) (hm : n ≤ 1000000) : ReadB (w.alloc (.cells cs 5)) (fun k => w.heap.size ≤ k) (.slice (some ⟨w.heap.size, 0, none⟩) n n) xs := by
  subst hc
  subst hn
  exact readB_block (xs := xs) (s := 0) (n := xs.length) (t := 5) (blk_new w (.cells (xs.map (Value.int .u8)).toArray 5)) rfl rfl (by omega) (Nat.le_refl _)
/-- The body of a message. -/
def msgBody (pk : PktT) (pb : List Int) : List Int := [2, 1, pk.ver] ++ [4, (pk.com.size : Int)] ++ bs pk.com ++ pb
set_option maxRecDepth 100000 in
set_option maxHeartbeats 4000000 in
theorem mmsg_any (pk : PktT) (q : Nat) (v : Value) (pb : List Int) (hp : pb.length ≤ 16000) (hp1 : 1 ≤ pb.length) (hv0 : 0 ≤ pk.ver) (hv1 : pk.ver ≤ 1) (hcom : pk.com.size ≤ 127)
    (w : World) (hq : w.heap[q]? = some (pktO pk v)) (hM : ∀ W, Below w.heap.size w W → Calls Tryd.prog 84 #[.pointer (some ⟨q, 0, none⟩)] W fun e w' => GotV W w' pb e) :
    Calls Tryd.prog 53 #[.pointer (some ⟨q, 0, none⟩)] w fun e w' => GotV w w' (sSealed 48 (msgBody pk pb) 0) e := by
  have hqs := blk_lt hq
  have hP : PS w q (pktO pk v) w.heap.size w.heap.size [] (w.alloc (.cells #[.slice none 0 0, .int .i64 0, .int .i8 0] 127)) :=
    ⟨Buf.new w 0, blk_alloc hq _, (Below.refl _ _).alloc (Nat.le_refl _) _, Nat.le_refl _, Nat.le_refl _, hqs⟩
  have c0 : (w.alloc (.cells #[.slice none 0 0, .int .i64 0, .int .i8 0] 127)).cell? ⟨q, 0, none⟩ = some (.int .u8 pk.ver) := (blk_cell hP.obj 0).trans rfl
  have hwr : IntKind.u8.wrap (pk.com.size : Int) = pk.com.size := by simp [IntKind.wrap, IntKind.bits, IntKind.signed]; omega
  have hv3 : (pk.ver == 3) = false := beq_eq_false_iff_ne.2 (by omega)
  have HH := Lib.hid (And.intro hM hP)
  clear hM hP hq
  go_enter Tryd.func53, Tryd.ntmps53
  go_wp2_with fail
  have hs0 : (w.alloc (.cells #[.slice none 0 0, .int .i64 0, .int .i8 0] 127)).heap.size = w.heap.size + 1 := by simp
  have P1 := HH.out.2
  generalize (w.alloc (.cells #[.slice none 0 0, .int .i64 0, .int .i8 0] 127)) = w1 at *
  have L1 := readLit w1 [2, 1, pk.ver] #[.int .u8 2, .int .u8 1, .int .u8 pk.ver] rfl 3 rfl (by omega)
  rw [hs0] at L1
  have hs1 : (w1.alloc (.cells #[.int .u8 2, .int .u8 1, .int .u8 pk.ver] 5)).heap.size = w1.heap.size + 1 := by simp
  have bb1 := (Below.refl w1.heap.size w1).alloc (Nat.le_refl _) (.cells #[.int .u8 2, .int .u8 1, .int .u8 pk.ver] 5)
  have H1 := Lib.hid (And.intro (P1.call bb1) L1)
  clear P1 bb1 L1
  refine (write_any w.heap.size w.heap.size [] [2, 1, pk.ver] _ 3 3 _ _ H1.out.1.buf H1.out.2 (by omega) (by omega) rfl (by simp) (by simp)).mono ?_
  rintro e w2 ⟨rfl, hW2⟩
  obtain ⟨g2, P2, -, -⟩ := H1.out.1.wrote hW2
  have c0' : w2.cell? ⟨q, 0, none⟩ = some (.int .u8 pk.ver) := (blk_cell P2.obj 0).trans rfl
  have c1' : w2.cell? ⟨q, 1, none⟩ = some (.string pk.com) := (blk_cell P2.obj 1).trans rfl
  have l2 := P2.buf.lt
  have H2 := Lib.hid P2
  clear P2 hW2 H1 c0
  go_wp2_with fail
  have L3 := readLit w2 [4, (pk.com.size : Int)] #[.int .u8 4, .int .u8 pk.com.size] rfl 2 rfl (by omega)
  have bb3 := (Below.refl w2.heap.size w2).alloc (Nat.le_refl _) (.cells #[.int .u8 4, .int .u8 pk.com.size] 5)
  have c1a := cell_al c1' (.cells #[.int .u8 4, .int .u8 pk.com.size] 5)
  have H3 := Lib.hid (And.intro (H2.out.call bb3) L3)
  clear bb3 L3 H2
  refine (write_any w.heap.size g2 ([] ++ [2, 1, pk.ver]) [4, (pk.com.size : Int)] _ 2 2 _ _ H3.out.1.buf H3.out.2 (by omega) (by omega) rfl (by simp) (by simp)).mono ?_
  rintro e w3 ⟨rfl, hW3⟩
  obtain ⟨g3, P3, -, -⟩ := H3.out.1.wrote hW3
  have c3 : w3.cell? ⟨q, 1, none⟩ = some (.string pk.com) := (blk_cell P3.obj 1).trans rfl
  have H3 := Lib.hid P3
  clear P3 hW3 c0' c1' c1a
  go_wp2_with fail
  refine (writeString_any w.heap.size g3 ([] ++ [2, 1, pk.ver] ++ [4, (pk.com.size : Int)]) pk.com w3 H3.out.buf (by simp; omega) (by simp; omega)).mono ?_
  rintro e w4 ⟨rfl, hW4⟩
  obtain ⟨g4, P4, -, -⟩ := H3.out.wrote hW4
  have H4 := Lib.hid P4
  clear P4 hW4 H3 c3
  go_wp2_with fail
  refine (HH.out.1 w4 H4.out.below).mono ?_
  rintro e w5 ⟨v5, rfl, hr5, hb5⟩
  obtain ⟨A5, d5, rfl, hd5⟩ : ∃ A c, v5 = .slice A pb.length c ∧ pb.length ≤ c := by obtain ⟨A, c, e, hc, -⟩ := ReadB.reads hr5; exact ⟨A, c, e, hc⟩
  have l4 := H4.out.buf.lt
  have H5 := Lib.hid (And.intro (ReadB.bound hr5) (H4.out.call hb5))
  clear hr5 hb5 H4 HH
  go_wp2_with fail
  refine (write_any w.heap.size g4 _ pb A5 _ d5 _ w5 H5.out.2.buf H5.out.1 (by omega) (by omega) rfl (by simp; omega) (by simp [bs_length]; omega)).mono ?_
  rintro e w6 ⟨rfl, hW6⟩
  obtain ⟨g6, P6, -, -⟩ := H5.out.2.wrote hW6
  have hX : [] ++ [2, 1, pk.ver] ++ [4, (pk.com.size : Int)] ++ bs pk.com ++ pb = msgBody pk pb := rfl
  rw [hX] at P6
  have hxl : (msgBody pk pb).length ≤ 17000 ∧ 1 ≤ (msgBody pk pb).length := by rw [← hX]; simp [bs_length]; omega
  generalize hbo : msgBody pk pb = xs at *
  have HBO := Lib.hid hbo
  have T6 := T2.new P6.buf P6.below P6.h1 P6.h2
  have hs6 : (w6.alloc (.cells #[.slice none 0 0, .int .i64 0, .int .i8 0] 127)).heap.size = w6.heap.size + 1 := by simp
  have l6 := P6.buf.lt
  have H6 := Lib.hid T6
  clear hW6 P6 H5 hX hbo T6
  go_wp2_with fail
  refine (writeByte_any w6.heap.size w6.heap.size [] 48 _ H6.out.buf2 (by simp)).mono ?_
  rintro e w7 ⟨rfl, hW7⟩
  obtain ⟨g7, T7, -, hg7⟩ := H6.out.wrote hW7
  have H7 := Lib.hid T7
  clear hW7 T7 H6
  go_wp2_with fail
  refine (bufLen_any w.heap.size g6 xs w7 H7.out.buf (by omega)).mono ?_
  rintro e w8 ⟨rfl, n8, rfl⟩
  have hb8 := pw_below_drewN (Below.refl w7.heap.size w7) n8
  have T8 := H7.out.call hb8
  generalize w7.drewN n8 = w8 at *
  have H8 := Lib.hid T8
  clear hb8 T8 H7
  go_wp2_with fail
  refine (marshalLength_any xs.length w8 (by omega) (by omega)).mono ?_
  rintro e w9 ⟨v9, rfl, ho9, hb9⟩
  obtain ⟨A9, d9, rfl, hd9⟩ := Kd.R_slice ho9
  have T9 := H8.out.call hb9
  have hs8 := H8.out.buf2.lt
  have hl9 := mLen_len xs.length
  have hl9' := T9.l
  have H9 := Lib.hid (And.intro T9 (OwnB.within ho9))
  clear ho9 hb9 T9 H8
  go_wp2_with fail
  refine (write_any w6.heap.size g7 ([] ++ [48]) (mLen xs.length) A9 _ d9 _ w9 H9.out.1.buf2 H9.out.2 (by omega) (by omega) rfl (by simp) (by simp; omega)).mono ?_
  rintro e w10 ⟨rfl, hW10⟩
  obtain ⟨g10, T10, -, -⟩ := H9.out.1.wrote hW10
  have hl10 := T10.l
  have H10 := Lib.hid T10
  clear hW10 T10 H9
  go_wp2_with fail
  refine (writeTo_any w.heap.size g6 w6.heap.size g10 xs _ w.heap.size w10 H10.out.buf H10.out.buf2 hxl.2 (by simp; omega) (by omega) (by omega) (by omega) (by omega) (by omega) (by omega) (by omega) (by omega)).mono ?_
  rintro e w11 ⟨rfl, hb11, g11, B11, hg11⟩
  have hes : ([] ++ [48] ++ mLen xs.length ++ xs) = sSealed 48 xs 0 := by
    unfold sSealed
    rw [← mLen_sLen0 xs.length (by omega) (by omega)]
    rfl
  rw [hes] at B11
  have hsl := sSealed_len 48 xs
  generalize hfx : sSealed 48 xs 0 = fx at *
  have HFX := Lib.hid hfx
  have hg11' : w.heap.size ≤ g11 := by have := H10.out.below.size; omega
  have H11 := Lib.hid (And.intro B11 (H10.out.below.trans hb11))
  clear B11 hb11 hes hfx H10
  go_wp2_with fail
  refine (bytes_any w6.heap.size g11 fx w11 H11.out.1 (by omega) (by omega)).mono ?_
  rintro e w12 ⟨c12, rfl, hR12, n12, rfl⟩
  have HF := Lib.hid (And.intro (ReadB.below (ReadB.mono hR12 (fun k (hk : k = g11) => hk ▸ hg11')) (pw_below_drewN (Below.refl w11.heap.size w11) n12)) (pw_below_drewN H11.out.2 n12))
  clear hR12 H11
  go_wp2
  go_ret2
  exact ⟨_, rfl, by rw [HBO.out, HFX.out]; exact HF.out.1, HF.out.2⟩
set_option maxRecDepth 100000 in
theorem mmsgOut_any (pk : PktT) (q : Nat) (v : Value) (pb : List Int) (hp : pb.length ≤ 16000) (hp1 : 1 ≤ pb.length) (hv0 : 0 ≤ pk.ver) (hv1 : pk.ver ≤ 1) (hcom : pk.com.size ≤ 127)
    (w : World) (hq : w.heap[q]? = some (pktO pk v)) (hM : ∀ W, Below w.heap.size w W → Calls Tryd.prog 84 #[.pointer (some ⟨q, 0, none⟩)] W fun e w' => GotV W w' pb e) :
    Calls Tryd.prog 40 #[.pointer (some ⟨q, 0, none⟩)] w fun e w' => GotV w w' (sSealed 48 (msgBody pk pb) 0) e := by
  have HM := Lib.hid hM
  clear hM
  go_enter Tryd.func40, Tryd.ntmps40
  go_wp2_with fail
  refine (mmsg_any pk q v pb hp hp1 hv0 hv1 hcom w hq HM.out).mono ?_
  rintro e w' ⟨v', rfl, hr, hb⟩
  have HF := Lib.hid (And.intro hr hb)
  clear hr hb
  go_wp2
  go_ret2
  exact ⟨_, rfl, HF.out.1, HF.out.2⟩
end Go.Proofs.YtangjgclpipjdaaDoor
set_option linter.unusedVariables false
namespace Go.Proofs.YtangjgclpipjdaaDoor
open Go.RowKit Go.Proofs.YtangjgclpipjdaaDoorW.PrintWords Go.Proofs.YtangjgclpipjdaaDoorW.PrintLast Go.Proofs.YtangjgclpipjdaaDoorW.PrintMore
theorem varOk_of {v : VarT} (h : VarB v) (hf : fits1 v = true) : VarOk v := by
  unfold fits1 at hf
  have := of_decide_eq_true hf
  exact ⟨h.i0, h.i1, h.u0, h.u1, this.1, this.2⟩
theorem fits2_vars {m : MsgT} {vs : List VarT} (h : fits2 m vs = true) : ∀ v ∈ vs, fits1 v = true := by
  unfold fits2 at h
  simp only [Bool.and_eq_true] at h
  exact (of_decide_eq_true h.2.1).2
theorem bytesQ_isB (wide : Nat) (hw : wide ≤ 2) (q : VarT × Ask) (h : okQ q) (u0 : 0 ≤ q.1.u) (u1 : q.1.u ≤ 18446744073709551615) : IsB (bytesQ wide q) := by
  have hl := h.cont.len
  have hn := (sArcs_text _ _ h.name).2.1
  have a := (sealed_len 6 (sName q.2.arcs) wide).2
  have b := (sealed_len q.1.ty q.2.c wide).2
  exact sSealed_isB _ _ _ (isB_append (sSealed_isB _ _ _ (sName_isB q.2.arcs (sArcs_bounds _ _ h.name)) (by omega) (by omega)) (sSealed_isB _ _ _ (h.cont.isB u0 u1) (by omega) (by omega))) (by simp; omega) (by omega)
theorem bytesQ_len (wide : Nat) (hw : wide ≤ 2) (q : VarT × Ask) (h : okQ q) : (bytesQ wide q).length ≤ 660 := by
  have hl := h.cont.len
  have hn := (sArcs_text _ _ h.name).2.1
  have a := (sealed_len 6 (sName q.2.arcs) wide).2
  have b := (sealed_len q.1.ty q.2.c wide).2
  have c := (sealed_len 48 (sSealed 6 (sName q.2.arcs) wide ++ sSealed q.1.ty q.2.c wide) wide).2
  unfold bytesQ sVar
  simp only [List.length_append] at c ⊢
  omega
theorem flat_isB : ∀ (l : List (List Int)), (∀ x ∈ l, IsB x) → IsB l.flatten
  | [], _ => fun x hx => by simp at hx
  | a :: l, h => by
    rw [List.flatten_cons]
    exact isB_append (h a (by simp)) (flat_isB l (fun x hx => h x (by simp [hx])))
theorem bytes_flat (wide : Nat) (hw : wide ≤ 2) (qs : List (VarT × Ask)) (h : ∀ q ∈ qs, okQ q) (hu : ∀ q ∈ qs, 0 ≤ q.1.u ∧ q.1.u ≤ 18446744073709551615) : (qs.map (bytesQ wide)).flatten.length ≤ 660 * qs.length ∧ IsB (qs.map (bytesQ wide)).flatten := by
  refine ⟨?_, flat_isB _ (fun x hx => ?_)⟩
  · induction qs with
    | nil => simp
    | cons q qs ih =>
      have := bytesQ_len wide hw q (h q (by simp))
      have := ih (fun x hx => h x (by simp [hx])) (fun x hx => hu x (by simp [hx]))
      simp only [List.map_cons, List.flatten_cons, List.length_append, List.length_cons]
      omega
  · obtain ⟨q, hq, rfl⟩ := List.mem_map.1 hx
    exact bytesQ_isB wide hw q (h q hq) (hu q hq).1 (hu q hq).2
theorem gMsg_len (ver : Int) (com : List Int) (kind id st ix : Int) (list : List Int) (wide : Nat) (hw : wide ≤ 2) : (gMsg ver com kind id st ix list wide).length ≤ list.length + com.length + 100 := by
  have a := (sealed_len 2 (mInt32 ver) wide).2
  have b := (sealed_len 4 com wide).2
  have c := (sealed_len kind (gBody id st ix list wide) wide).2
  have d := (mInt32_len ver).2
  have e := gBody_len id st ix list wide
  have f := (sealed_len 48 (sSealed 2 (mInt32 ver) wide ++ (sSealed 4 com wide ++ sSealed kind (gBody id st ix list wide) wide)) wide).2
  unfold gMsg
  simp only [List.length_append] at f ⊢
  omega
theorem gMsg_isB (ver : Int) (com : List Int) (kind id st ix : Int) (list : List Int) (wide : Nat) (hw : wide ≤ 2) (hc : IsB com) (hl : IsB list) (h1 : com.length ≤ 1000) (h2 : list.length ≤ 60000) : IsB (gMsg ver com kind id st ix list wide) := by
  have a := (sealed_len 2 (mInt32 ver) wide).2
  have b := (sealed_len 4 com wide).2
  have c := (sealed_len kind (gBody id st ix list wide) wide).2
  have d := (mInt32_len ver).2
  have e := gBody_len id st ix list wide
  have hm : ∀ n : Int, IsB (sSealed 2 (mInt32 n) wide) := fun n => sSealed_isB _ _ _ (mInt32_isB n) (by have := (mInt32_len n).2; omega) (by omega)
  have hb : IsB (gBody id st ix list wide) := isB_append (hm _) (isB_append (hm _) (isB_append (hm _) (sSealed_isB _ _ _ hl (by omega) (by omega))))
  exact sSealed_isB _ _ _ (isB_append (hm _) (isB_append (sSealed_isB _ _ _ hc (by omega) (by omega)) (sSealed_isB _ _ _ hb (by omega) (by omega)))) (by simp only [List.length_append]; omega) (by omega)
/-- The message of bytes that are asked, as it is told. -/
theorem told_msg (m : MsgT) (n : Nat) (hok : MsgOk m n) (qs : List (VarT × Ask)) : msgP ⟨m.ver, bs m.com, m.kind, m.id, m.st, m.ix, qs.map partQ⟩ = m := by
  obtain ⟨ver, com, kind, id, st, ix, ent, ag, gen, spc, tm⟩ := m
  have h1 := hok.ent
  have h2 := hok.ag
  have h3 := hok.gen
  have h4 := hok.spc
  have h5 := hok.tm
  simp only at h1 h2 h3 h4 h5
  subst h1 h2 h3 h4 h5
  unfold msgP
  simp only [strOfNums_bs]
theorem told_vars (qs : List (VarT × Ask)) : (qs.map partQ).map VarP.t = qs.map toldQ := by
  rw [List.map_map]
  rfl
end Go.Proofs.YtangjgclpipjdaaDoor
