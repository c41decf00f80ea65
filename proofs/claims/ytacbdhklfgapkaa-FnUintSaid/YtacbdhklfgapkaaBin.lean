/- encoding/binary: bigEndian.PutUint64, PutUint32 into a whole block of the call's own: what the block holds then; nothing else has turned. -/
import Derived.Test.YtacbdhklfgapkaaProg
import Derived.Test.YtacbdhklfgapkaaLib
set_option linter.unusedVariables false
namespace Go.Proofs.Ytacbdhklfgapkaa
open Go.RowKit Go.Proofs.YtacbdhklfgapkaaW.PrintWords Go.Proofs.YtacbdhklfgapkaaW.PrintLast Go.Proofs.YtacbdhklfgapkaaW.PrintMore

def be64 (n : Int) : List Int := [n / 72057594037927936, n / 281474976710656 % 256, n / 1099511627776 % 256, n / 4294967296 % 256, n / 16777216 % 256, n / 65536 % 256, n / 256 % 256, n % 256]
def be32 (n : Int) : List Int := [n / 16777216, n / 65536 % 256, n / 256 % 256, n % 256]

theorem cells8 {cur : Array Value} (h : cur.size = 8) : ∃ a b c d e f g i, cur = #[a, b, c, d, e, f, g, i] := by
  obtain ⟨l⟩ := cur
  match l, h with
  | [a, b, c, d, e, f, g, i], _ => exact ⟨_, _, _, _, _, _, _, _, rfl⟩
theorem cells4 {cur : Array Value} (h : cur.size = 4) : ∃ a b c d, cur = #[a, b, c, d] := by
  obtain ⟨l⟩ := cur
  match l, h with
  | [a, b, c, d], _ => exact ⟨_, _, _, _, rfl⟩

theorem grown_trans {w w1 w2 : World} {row : Option Nat} (h : w.grownBy w1 row) (k : w1.grownBy w2 row) : w.grownBy w2 row :=
  ⟨k.os.trans h.os, k.tape.trans h.tape, k.output.trans h.output, Nat.le_trans h.size k.size, fun b hb hne => (k.block b (Nat.lt_of_lt_of_le hb h.size) hne).trans (h.block b hb hne)⟩
theorem grown_set {w W : World} {g j : Nat} {u : Value} (h : w.grownBy W (some g)) : w.grownBy (W.setCell ⟨g, j, none⟩ u) (some g) :=
  ⟨h.os, h.tape, h.output, by simpa [World.setCell] using h.size, fun k hk hne => (Below.heap_setCell _ _ _ _ (by intro e; exact hne (by rw [e]))).trans (h.block k hk hne)⟩

theorem set8 {w : World} {g t : Nat} {c0 c1 c2 c3 c4 c5 c6 c7 : Value} (h : w.heap[g]? = some (.cells #[c0, c1, c2, c3, c4, c5, c6, c7] t (0, 0))) (x0 x1 x2 x3 x4 x5 x6 x7 : Value) :
    ((((((((w.setCell ⟨g, 0, none⟩ x0).setCell ⟨g, 1, none⟩ x1).setCell ⟨g, 2, none⟩ x2).setCell ⟨g, 3, none⟩ x3).setCell ⟨g, 4, none⟩ x4).setCell ⟨g, 5, none⟩ x5).setCell ⟨g, 6, none⟩ x6).setCell ⟨g, 7, none⟩ x7).heap[g]? = some (.cells #[x0, x1, x2, x3, x4, x5, x6, x7] t (0, 0)) := by
  have b := blk_set (blk_set (blk_set (blk_set (blk_set (blk_set (blk_set (blk_set h 0 x0) 1 x1) 2 x2) 3 x3) 4 x4) 5 x5) 6 x6) 7 x7
  simpa only [List.setIfInBounds_toArray, List.set_cons_zero, List.set_cons_succ] using b
theorem set4 {w : World} {g t : Nat} {c0 c1 c2 c3 : Value} (h : w.heap[g]? = some (.cells #[c0, c1, c2, c3] t (0, 0))) (x0 x1 x2 x3 : Value) :
    ((((w.setCell ⟨g, 0, none⟩ x0).setCell ⟨g, 1, none⟩ x1).setCell ⟨g, 2, none⟩ x2).setCell ⟨g, 3, none⟩ x3).heap[g]? = some (.cells #[x0, x1, x2, x3] t (0, 0)) := by
  have b := blk_set (blk_set (blk_set (blk_set h 0 x0) 1 x1) 2 x2) 3 x3
  simpa only [List.setIfInBounds_toArray, List.set_cons_zero, List.set_cons_succ] using b
set_option maxHeartbeats 800000 in
theorem PutUint64_any (n : Int) (h0 : 0 ≤ n) (h1 : n ≤ 18446744073709551615) (g t : Nat) (cur : Array Value) (w : World) (hg : w.heap[g]? = some (.cells cur t (0, 0))) (hs : cur.size = 8) :
    Calls Try.prog 29 #[.agg #[], .slice (some ⟨g, 0, none⟩) 8 8, .int .u64 n] w fun e w' => e = .returned (.tuple #[]) ∧ w'.heap[g]? = some (.cells ((be64 n).map (Value.int .u8)).toArray t (0, 0)) ∧ w.grownBy w' (some g) := by
  obtain ⟨c0, c1, c2, c3, c4, c5, c6, c7, rfl⟩ := cells8 hs
  have k0 := blk_cell hg 0
  have k1 := blk_cell hg 1
  have k2 := blk_cell hg 2
  have k3 := blk_cell hg 3
  have k4 := blk_cell hg 4
  have k5 := blk_cell hg 5
  have k6 := blk_cell hg 6
  have k7 := blk_cell hg 7
  have z0 := blk_frozen hg 0
  have z1 := blk_frozen hg 1
  have z2 := blk_frozen hg 2
  have z3 := blk_frozen hg 3
  have z4 := blk_frozen hg 4
  have z5 := blk_frozen hg 5
  have z6 := blk_frozen hg 6
  have z7 := blk_frozen hg 7
  simp at k0 k1 k2 k3 k4 k5 k6 k7
  have HG := Lib.hid hg
  have hlt := blk_lt hg
  clear hg
  go_enter Try.func29, Try.ntmps29
  go_wp2
  go_end0
  refine ⟨rfl, ?_, ?_⟩
  · exact blk_alloc (set8 HG.out _ _ _ _ _ _ _ _) _
  · refine grown_trans ?_ (World.grownBy_alloc _ _ _)
    exact grown_set (grown_set (grown_set (grown_set (grown_set (grown_set (grown_set (grown_set (World.grownBy.refl _ _))))))))

set_option maxHeartbeats 800000 in
theorem PutUint32_any (n : Int) (h0 : 0 ≤ n) (h1 : n ≤ 4294967295) (g t : Nat) (cur : Array Value) (w : World) (hg : w.heap[g]? = some (.cells cur t (0, 0))) (hs : cur.size = 4) :
    Calls Try.prog 32 #[.agg #[], .slice (some ⟨g, 0, none⟩) 4 4, .int .u32 n] w fun e w' => e = .returned (.tuple #[]) ∧ w'.heap[g]? = some (.cells ((be32 n).map (Value.int .u8)).toArray t (0, 0)) ∧ w.grownBy w' (some g) := by
  obtain ⟨c0, c1, c2, c3, rfl⟩ := cells4 hs
  have k0 := blk_cell hg 0
  have k1 := blk_cell hg 1
  have k2 := blk_cell hg 2
  have k3 := blk_cell hg 3
  have z0 := blk_frozen hg 0
  have z1 := blk_frozen hg 1
  have z2 := blk_frozen hg 2
  have z3 := blk_frozen hg 3
  simp at k0 k1 k2 k3
  have HG := Lib.hid hg
  have hlt := blk_lt hg
  clear hg
  go_enter Try.func32, Try.ntmps32
  go_wp2
  go_end0
  refine ⟨rfl, ?_, ?_⟩
  · exact blk_alloc (set4 HG.out _ _ _ _) _
  · refine grown_trans ?_ (World.grownBy_alloc _ _ _)
    exact grown_set (grown_set (grown_set (grown_set (World.grownBy.refl _ _))))
end Go.Proofs.Ytacbdhklfgapkaa
