/- marshalLength below 2^32. -/
import Derived.Test.YtacbdhklfgapkaaProg
import Derived.Test.YtacbdhklfgapkaaBin
import Derived.Laws.CopyOwn
import Derived.Deep.RegionLaw
set_option linter.unusedVariables false
namespace Go.Proofs.Ytacbdhklfgapkaa
open Go.RowKit Go.Proofs.YtacbdhklfgapkaaW.PrintWords Go.Proofs.YtacbdhklfgapkaaW.PrintLast Go.Proofs.YtacbdhklfgapkaaW.PrintMore

def mLen (n : Int) : List Int :=
  if n ≤ 127 then [n] else if n ≤ 255 then [129, n] else if n ≤ 65535 then [130, n / 256, n % 256]
  else if n ≤ 16777215 then [131, n / 65536, n / 256 % 256, n % 256] else [132, n / 16777216, n / 65536 % 256, n / 256 % 256, n % 256]

theorem marshalLength_short (n : Int) (w : World) (h0 : 0 ≤ n) (h1 : n ≤ 127) : Calls Try.prog 24 #[.int .i64 n] w fun e w' => GotE w w' (mLen n) e := by
  have f := Lib.hid (show mLen n = [n] by unfold mLen; rw [if_pos h1])
  go_enter Try.func24, Try.ntmps24
  go_wp2
  go_ret2
  exact gotE_lit w _ [_] f.out (by simp) rfl

theorem be_cell {w : World} {g t : Nat} {xs : List Int} (h : w.heap[g]? = some (.cells (xs.map (Value.int .u8)).toArray t (0, 0))) (j : Nat) (hj : j < xs.length) : w.cell? ⟨g, j, none⟩ = some (.int .u8 (xs[j]?.getD 0)) := by
  rw [blk_cell h j]
  simp [List.getElem?_eq_getElem hj]

theorem infoU8 : (Try.prog.info? 5).map (fun i => i.size) = some 1 := by kernel_rfl
theorem len_src (s : Nat) (hs : s ≤ 8) {w1 : World} {g t : Nat} {xs ys : List Int} (h : w1.heap[g]? = some (.cells (xs.map (Value.int .u8)).toArray t (0, 0))) (hx : xs = List.replicate s 0 ++ ys) {o : Obj} :
    ∀ (j : Nat) (v : Value), (ys.map (Value.int .u8))[j]? = some v → (w1.alloc o).drew.cell? ((⟨g, s, none⟩ : Addr).add j) = some v := by
  intro j v hv
  have e : (⟨g, s, none⟩ : Addr).add j = ⟨g, s + j, none⟩ := by unfold Addr.add; split <;> simp_all
  rw [e, blk_cell (blk_drew (blk_alloc h o)) (s + j)]
  subst hx
  simp [List.getElem?_append] at hv ⊢
  exact hv
theorem len_end (w w4 : World) (g : Nat) (n : Int) (m : Nat) (ys : List Int) {c : Int} {cur : List Value} (hg : w.heap.size ≤ g) (hl : ys.length = m) (hm : mLen n = ((128 + m : Nat) : Int) :: ys) (hm8 : m ≤ 8) (hc : c = ((128 + m : Nat) : Int)) (hcur : cur = .int .u8 c :: List.replicate m (.int .u8 0))
    (h4 : w4.heap[g]? = some (.cells (splice cur 1 (ys.map (Value.int .u8))).toArray 5 (0, 0))) (hb : Below w.heap.size w w4) :
    GotE w w4 (mLen n) (.returned (.tuple #[.slice (some ⟨g, 0, none⟩) (m + 1) (m + 1), .nilIface])) := by
  have hlen : (mLen n).length = m + 1 := by rw [hm]; simp [hl]
  refine ⟨_, rfl, ?_, hb⟩
  rw [← hlen]
  refine OwnB.of_block h4 ?_ hg (by rw [hlen]; omega)
  rw [hm, hcur, hc]
  simp [splice, hl]
  omega
set_option maxHeartbeats 800000 in
theorem marshalLength_at (n : Int) (s : Nat) (ys : List Int) (w : World) (h0 : 128 ≤ n) (h1 : n ≤ 4294967295) (hs : s = 4 ∨ s = 5 ∨ s = 6 ∨ s = 7) (hl : ys.length = 8 - s) (hx : be64 n = List.replicate s 0 ++ ys) (hp : ys.getD 0 0 ≠ 0) (hm : mLen n = ((136 - s : Nat) : Int) :: ys) :
    Calls Try.prog 24 #[.int .i64 n] w fun e w' => GotE w w' (mLen n) e := by
  have hs7 : s ≤ 7 := by omega
  have HZ := Lib.hid (show ∀ j, j < s → ((be64 n)[j]?.getD 0 == 0) = true by
    intro j hj
    rw [hx]
    simp [List.getElem?_append, hj])
  have HZ2 := Lib.hid (show ((be64 n)[s]?.getD 0 == 0) = false by
    rw [hx]
    simp [List.getElem?_append] at hp ⊢
    exact hp)
  have u64 : IntKind.u64.wrap n = n := by simp [IntKind.wrap, IntKind.bits, IntKind.signed]; omega
  have HH := Lib.hid (And.intro hs (And.intro hl (And.intro hx (And.intro hp hm))))
  clear hs hl hx hp hm
  go_enter Try.func24, Try.ntmps24
  go_wp2
  go_region_with (first | (go_at_call 29; refine (PutUint64_any n (by omega) (by omega) _ 52 _ _ (blk_drew (blk_new _ _)) rfl).mono ?_; rintro e w1 ⟨rfl, hb1, hg1⟩))
  have hbel := (((Below.refl w.heap.size w).alloc (Nat.le_refl _) (.cells #[Value.int IntKind.u8 0, Value.int IntKind.u8 0, Value.int IntKind.u8 0, Value.int IntKind.u8 0, Value.int IntKind.u8 0, Value.int IntKind.u8 0, Value.int IntKind.u8 0, Value.int IntKind.u8 0] 52)).drew).grown hg1 (by simp) (fun k hk => by injection hk with hk; omega)
  have hw1 : w.heap.size < w1.heap.size := blk_lt hb1
  have HB := Lib.hid hb1
  have HBEL := Lib.hid hbel
  clear hb1 hg1 hbel
  go_wp2
  go_loop [5] (fun i => ∃ k : Nat, k ≤ s ∧ i = .int .i64 k) (fun i => 8 - (intOf i).toNat)
  case atStart => exact ⟨0, Nat.zero_le _, rfl⟩
  case round =>
    obtain ⟨k, hk, rfl⟩ := hrel
    have hc := be_cell HB.out k (by show k < 8; omega)
    by_cases hlt : k < s
    · have hzk := HZ.out k hlt
      go_wp2
      go_round
      case rel => exact ⟨k + 1, by omega, by go_num⟩
      case measure => simp [intOf]; omega
    · obtain rfl : k = s := by omega
      have hzk := HZ2.out
      have hmk5 : ∀ w, (Instr.makeSlice 22 (.int .i64 5) (.int .i64 5)).run Try.prog w = .ok (.slice (some ⟨w.heap.size, 0, none⟩) 5 5) (w.alloc (.cells #[.int .u8 0, .int .u8 0, .int .u8 0, .int .u8 0, .int .u8 0] 5)) := fun _ => by kernel_rfl
      have hmk4 : ∀ w, (Instr.makeSlice 22 (.int .i64 4) (.int .i64 4)).run Try.prog w = .ok (.slice (some ⟨w.heap.size, 0, none⟩) 4 4) (w.alloc (.cells #[.int .u8 0, .int .u8 0, .int .u8 0, .int .u8 0] 5)) := fun _ => by kernel_rfl
      have hmk3 : ∀ w, (Instr.makeSlice 22 (.int .i64 3) (.int .i64 3)).run Try.prog w = .ok (.slice (some ⟨w.heap.size, 0, none⟩) 3 3) (w.alloc (.cells #[.int .u8 0, .int .u8 0, .int .u8 0] 5)) := fun _ => by kernel_rfl
      have hmk2 : ∀ w, (Instr.makeSlice 22 (.int .i64 2) (.int .i64 2)).run Try.prog w = .ok (.slice (some ⟨w.heap.size, 0, none⟩) 2 2) (w.alloc (.cells #[.int .u8 0, .int .u8 0] 5)) := fun _ => by kernel_rfl
      obtain ⟨hs, HR⟩ := HH.out
      have HR' := Lib.hid HR
      clear HH HR hlt hk hs7 HZ HZ2
      rcases hs with rfl | rfl | rfl | rfl
      · go_wp2
        go_region_law (refine step_copy_splice rfl (.tmp 42) (.tmp 44) 22 22 rfl 5 Try.underlying22 infoU8 (some ⟨w1.heap.size, 1, none⟩) (some ⟨w.heap.size, 4, none⟩) 4 4 4 4 rfl rfl w1.heap.size 1 [.int .u8 (bits BinOp.or IntKind.i64 128 4 % 256), .int .u8 0, .int .u8 0, .int .u8 0, .int .u8 0] 5 (blk_drew (blk_new _ _)) (ys.map (Value.int .u8)) (by rw [List.length_map, HR'.out.1]; rfl) (fun _ => ⟨rfl, _, rfl, len_src 4 (by omega) HB.out HR'.out.2.1⟩) (by rw [List.length_map, HR'.out.1]; decide) (by simp [Value.oneCell']) w.heap.size w (below_drew (HBEL.out.alloc (by omega) _)) (by omega) ?_; intro w4 hg4 hb4)
        go_wp2
        go_ret2
        exact len_end w w4 w1.heap.size n 4 ys (by omega) HR'.out.1 HR'.out.2.2.2 (by decide) (by rfl) (by rfl) hg4.out hb4
      · go_wp2
        go_region_law (refine step_copy_splice rfl (.tmp 42) (.tmp 44) 22 22 rfl 5 Try.underlying22 infoU8 (some ⟨w1.heap.size, 1, none⟩) (some ⟨w.heap.size, 5, none⟩) 3 3 3 3 rfl rfl w1.heap.size 1 [.int .u8 (bits BinOp.or IntKind.i64 128 3 % 256), .int .u8 0, .int .u8 0, .int .u8 0] 5 (blk_drew (blk_new _ _)) (ys.map (Value.int .u8)) (by rw [List.length_map, HR'.out.1]; rfl) (fun _ => ⟨rfl, _, rfl, len_src 5 (by omega) HB.out HR'.out.2.1⟩) (by rw [List.length_map, HR'.out.1]; decide) (by simp [Value.oneCell']) w.heap.size w (below_drew (HBEL.out.alloc (by omega) _)) (by omega) ?_; intro w4 hg4 hb4)
        go_wp2
        go_ret2
        exact len_end w w4 w1.heap.size n 3 ys (by omega) HR'.out.1 HR'.out.2.2.2 (by decide) (by rfl) (by rfl) hg4.out hb4
      · go_wp2
        go_region_law (refine step_copy_splice rfl (.tmp 42) (.tmp 44) 22 22 rfl 5 Try.underlying22 infoU8 (some ⟨w1.heap.size, 1, none⟩) (some ⟨w.heap.size, 6, none⟩) 2 2 2 2 rfl rfl w1.heap.size 1 [.int .u8 (bits BinOp.or IntKind.i64 128 2 % 256), .int .u8 0, .int .u8 0] 5 (blk_drew (blk_new _ _)) (ys.map (Value.int .u8)) (by rw [List.length_map, HR'.out.1]; rfl) (fun _ => ⟨rfl, _, rfl, len_src 6 (by omega) HB.out HR'.out.2.1⟩) (by rw [List.length_map, HR'.out.1]; decide) (by simp [Value.oneCell']) w.heap.size w (below_drew (HBEL.out.alloc (by omega) _)) (by omega) ?_; intro w4 hg4 hb4)
        go_wp2
        go_ret2
        exact len_end w w4 w1.heap.size n 2 ys (by omega) HR'.out.1 HR'.out.2.2.2 (by decide) (by rfl) (by rfl) hg4.out hb4
      · go_wp2
        go_region_law (refine step_copy_splice rfl (.tmp 42) (.tmp 44) 22 22 rfl 5 Try.underlying22 infoU8 (some ⟨w1.heap.size, 1, none⟩) (some ⟨w.heap.size, 7, none⟩) 1 1 1 1 rfl rfl w1.heap.size 1 [.int .u8 (bits BinOp.or IntKind.i64 128 1 % 256), .int .u8 0] 5 (blk_drew (blk_new _ _)) (ys.map (Value.int .u8)) (by rw [List.length_map, HR'.out.1]; rfl) (fun _ => ⟨rfl, _, rfl, len_src 7 (by omega) HB.out HR'.out.2.1⟩) (by rw [List.length_map, HR'.out.1]; decide) (by simp [Value.oneCell']) w.heap.size w (below_drew (HBEL.out.alloc (by omega) _)) (by omega) ?_; intro w4 hg4 hb4)
        go_wp2
        go_ret2
        exact len_end w w4 w1.heap.size n 1 ys (by omega) HR'.out.1 HR'.out.2.2.2 (by decide) (by rfl) (by rfl) hg4.out hb4

theorem marshalLength_any (n : Int) (w : World) (h0 : 0 ≤ n) (h1 : n ≤ 4294967295) : Calls Try.prog 24 #[.int .i64 n] w fun e w' => GotE w w' (mLen n) e := by
  by_cases c0 : n ≤ 127
  · exact marshalLength_short n w h0 c0
  by_cases c1 : n ≤ 255
  · have hm : mLen n = [129, n] := by unfold mLen; rw [if_neg c0, if_pos c1]
    exact marshalLength_at n 7 [n] w (by omega) h1 (by omega) rfl (by unfold be64; simp; omega) (by simp; omega) (by rw [hm]; rfl)
  by_cases c2 : n ≤ 65535
  · have hm : mLen n = [130, n / 256, n % 256] := by unfold mLen; rw [if_neg c0, if_neg c1, if_pos c2]
    exact marshalLength_at n 6 [n / 256, n % 256] w (by omega) h1 (by omega) rfl (by unfold be64; simp; omega) (by simp; omega) (by rw [hm]; rfl)
  by_cases c3 : n ≤ 16777215
  · have hm : mLen n = [131, n / 65536, n / 256 % 256, n % 256] := by unfold mLen; rw [if_neg c0, if_neg c1, if_neg c2, if_pos c3]
    exact marshalLength_at n 5 [n / 65536, n / 256 % 256, n % 256] w (by omega) h1 (by omega) rfl (by unfold be64; simp; omega) (by simp; omega) (by rw [hm]; rfl)
  · have hm : mLen n = [132, n / 16777216, n / 65536 % 256, n / 256 % 256, n % 256] := by unfold mLen; rw [if_neg c0, if_neg c1, if_neg c2, if_neg c3]
    exact marshalLength_at n 4 [n / 16777216, n / 65536 % 256, n / 256 % 256, n % 256] w (by omega) h1 (by omega) rfl (by unfold be64; simp; omega) (by simp; omega) (by rw [hm]; rfl)
end Go.Proofs.Ytacbdhklfgapkaa
