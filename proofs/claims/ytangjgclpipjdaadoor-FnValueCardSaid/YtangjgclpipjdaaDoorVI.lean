/- bytes.Buffer of the call's own: what is told of one, and the walks of its methods. (*bytes.Buffer).grow: the walks. bytes.Buffer of the call's own: Write, WriteByte, Bytes. marshalLength below 2^32. marshalTLV: a tag, a length and content are written onto a buffer. -/
import Derived.Shelf.Bytes.TryGrow
import Derived.Shelf.Bytes.GrowSlice
import Derived.Lib.BufferWrite
import Derived.Shelf.RegionOpenPlain
import Derived.Test.YtangjgclpipjdaaDoorProg
import Derived.Test.YtangjgclpipjdaaDoorVA
import Derived.Test.YtangjgclpipjdaaDoorVB
import Derived.OwnWalk
import Derived.Test.YtangjgclpipjdaaDoorVC
import Derived.Laws.CopyOwn
import Derived.Deep.RegionLaw
set_option linter.unusedVariables false
namespace Go.Proofs
open Go.Shelf
def Tryd.laysTG_ren : Go.Shelf.Ren := ⟨fun | 251 => 91 | n => n, fun | 130 => 123 | 3 => 3 | 4 => 4 | 0 => 0 | 93 => 127 | 37 => 26 | 91 => 125 | 5 => 5 | n => n, fun | n => n⟩
theorem Tryd.laysTG : Go.Proofs.LaysM.n251 Tryd.prog Tryd.laysTG_ren := {
  mixed := by kernel_rfl
  f251 := Tryd.func91.trans (congrArg some (by kernel_rfl))
  t0 := Tryd.underlying0
  a0 := Tryd.isAgg0
  z0 := Tryd.sizeOf0
  v0 := Tryd.zeroValue0
  t3 := Tryd.underlying3
  a3 := Tryd.isAgg3
  z3 := Tryd.sizeOf3
  v3 := Tryd.zeroValue3
  t4 := Tryd.underlying4
  a4 := Tryd.isAgg4
  z4 := Tryd.sizeOf4
  v4 := Tryd.zeroValue4
  t37 := Tryd.underlying26
  a37 := Tryd.isAgg26
  z37 := Tryd.sizeOf26
  v37 := Tryd.zeroValue26
  t93 := Tryd.underlying127
  a93 := Tryd.isAgg127
  z93 := Tryd.sizeOf127
  v93 := Tryd.zeroValue127
  t130 := Tryd.underlying123
  a130 := Tryd.isAgg123
  z130 := Tryd.sizeOf123
  v130 := Tryd.zeroValue123
  t5 := Tryd.underlying5
  a5 := Tryd.isAgg5
  z5 := Tryd.sizeOf5
  v5 := Tryd.zeroValue5
  t91 := Tryd.underlying125
  a91 := Tryd.isAgg125
  z91 := Tryd.sizeOf125
  v91 := Tryd.zeroValue125
  i0 := by kernel_rfl
  i3 := by kernel_rfl
  i4 := by kernel_rfl
  i5 := by kernel_rfl
  i37 := by kernel_rfl
  i91 := by kernel_rfl
  i93 := by kernel_rfl
  i130 := by kernel_rfl }
def Tryd.laysGS_ren : Go.Shelf.Ren := ⟨fun | 290 => 113 | 324 => 133 | n => n, fun | 37 => 26 | 3 => 3 | 0 => 0 | 4 => 4 | 20 => 20 | 75 => 64 | 5 => 5 | 80 => 137 | 9 => 9 | n => n, fun | 14 => 11 | n => n⟩
theorem Tryd.laysGS : Go.Proofs.LaysM.n290 Tryd.prog Tryd.laysGS_ren := {
  mixed := by kernel_rfl
  f290 := Tryd.func113.trans (congrArg some (by kernel_rfl))
  f324 := Tryd.func133.trans (congrArg some (by kernel_rfl))
  t0 := Tryd.underlying0
  a0 := Tryd.isAgg0
  z0 := Tryd.sizeOf0
  v0 := Tryd.zeroValue0
  t3 := Tryd.underlying3
  a3 := Tryd.isAgg3
  z3 := Tryd.sizeOf3
  v3 := Tryd.zeroValue3
  t4 := Tryd.underlying4
  a4 := Tryd.isAgg4
  z4 := Tryd.sizeOf4
  v4 := Tryd.zeroValue4
  t20 := Tryd.underlying20
  a20 := Tryd.isAgg20
  z20 := Tryd.sizeOf20
  v20 := Tryd.zeroValue20
  t37 := Tryd.underlying26
  a37 := Tryd.isAgg26
  z37 := Tryd.sizeOf26
  v37 := Tryd.zeroValue26
  t75 := Tryd.underlying64
  a75 := Tryd.isAgg64
  z75 := Tryd.sizeOf64
  v75 := Tryd.zeroValue64
  g14 := by kernel_rfl
  t5 := Tryd.underlying5
  a5 := Tryd.isAgg5
  z5 := Tryd.sizeOf5
  v5 := Tryd.zeroValue5
  t9 := Tryd.underlying9
  a9 := Tryd.isAgg9
  z9 := Tryd.sizeOf9
  v9 := Tryd.zeroValue9
  t80 := Tryd.underlying137
  a80 := Tryd.isAgg137
  z80 := Tryd.sizeOf137
  v80 := Tryd.zeroValue137
  i0 := by kernel_rfl
  i3 := by kernel_rfl
  i4 := by kernel_rfl
  i5 := by kernel_rfl
  i9 := by kernel_rfl
  i20 := by kernel_rfl
  i37 := by kernel_rfl
  i75 := by kernel_rfl
  i80 := by kernel_rfl
  m14 := by kernel_rfl }
end Go.Proofs
namespace Go.Proofs.YtangjgclpipjdaaDoor
open Go.RowKit Go.Proofs.YtangjgclpipjdaaDoorW.PrintWords Go.Proofs.YtangjgclpipjdaaDoorW.PrintLast Go.Proofs.YtangjgclpipjdaaDoorW.PrintMore

/-- From w to w' only block b, block g and new blocks have turned. -/
structure KB (w w' : World) (b g : Nat) : Prop where
  os : w'.os = w.os
  tape : w'.tape = w.tape
  output : w'.output = w.output
  size : w.heap.size ≤ w'.heap.size
  block : ∀ k, k < w.heap.size → k ≠ b → k ≠ g → w'.heap[k]? = w.heap[k]?
theorem KB.refl (w : World) (b g : Nat) : KB w w b g := ⟨rfl, rfl, rfl, Nat.le_refl _, fun _ _ _ _ => rfl⟩
theorem KB.trans {w w1 w2 : World} {b g g' : Nat} (h : KB w w1 b g) (k : KB w1 w2 b g') (hg : g' = g ∨ w.heap.size ≤ g') : KB w w2 b g :=
  ⟨k.os.trans h.os, k.tape.trans h.tape, k.output.trans h.output, Nat.le_trans h.size k.size, fun i hi hb hg' => (k.block i (Nat.lt_of_lt_of_le hi h.size) hb (by omega)).trans (h.block i hi hb hg')⟩
theorem KB.step {w w1 w2 : World} {b g : Nat} (h : KB w w1 b g) (k : Below w1.heap.size w1 w2) : KB w w2 b g :=
  ⟨k.os.trans h.os, k.tape.trans h.tape, k.output.trans h.output, Nat.le_trans h.size k.size, fun i hi hb hg' => (k.block i (Nat.lt_of_lt_of_le hi h.size)).trans (h.block i hi hb hg')⟩
theorem KB.pre {w w1 w2 : World} {b g : Nat} (h : Below w.heap.size w w1) (k : KB w1 w2 b g) : KB w w2 b g :=
  ⟨k.os.trans h.os, k.tape.trans h.tape, k.output.trans h.output, Nat.le_trans h.size k.size, fun i hi hb hg' => (k.block i (Nat.lt_of_lt_of_le hi h.size) hb hg').trans (h.block i hi)⟩
theorem KB.setCell {w w1 : World} {b g : Nat} (h : KB w w1 b g) {p : Addr} (hp : p.block = b ∨ p.block = g ∨ w.heap.size ≤ p.block) (u : Value) : KB w (w1.setCell p u) b g :=
  ⟨h.os, h.tape, h.output, by simpa [World.setCell] using h.size, fun i hi hb hg => (Below.heap_setCell _ _ _ _ (by omega)).trans (h.block i hi hb hg)⟩
theorem KB.setRow {w w1 : World} {b g k : Nat} (h : KB w w1 b g) (hp : k = b ∨ k = g ∨ w.heap.size ≤ k) (cs : Array Value) : KB w (w1.setRow k cs) b g :=
  ⟨h.os, h.tape, h.output, by simpa using h.size, fun i hi hb hg => (setRow_other _ _ _ _ (by omega)).trans (h.block i hi hb hg)⟩
theorem KB.alloc {w w1 : World} {b g : Nat} (h : KB w w1 b g) (o : Obj) : KB w (w1.alloc o) b g := h.step ((Below.refl _ _).alloc (Nat.le_refl _) _)
theorem KB.drewN {w w1 : World} {b g : Nat} (h : KB w w1 b g) (n : Nat) : KB w (w1.drewN n) b g := h.step (pw_below_drewN (Below.refl _ _) _)
theorem KB.drew {w w1 : World} {b g : Nat} (h : KB w w1 b g) : KB w w1.drew b g := h.step (below_drew (Below.refl _ _))
theorem KB.below {w w' : World} {b g B : Nat} (h : KB w w' b g) (hb : B ≤ b) (hg : B ≤ g) (hB : B ≤ w.heap.size) : Below B w w' :=
  ⟨h.os, h.tape, h.output, h.size, fun k hk => h.block k (by omega) (by omega) (by omega)⟩
theorem KB.blk {w w' : World} {b g k : Nat} {o : Obj} (h : KB w w' b g) (hk : w.heap[k]? = some o) (h1 : k ≠ b) (h2 : k ≠ g) : w'.heap[k]? = some o :=
  (h.block k (Array.getElem?_eq_some_iff.1 hk).1 h1 h2).trans hk
theorem KB.read {w w' : World} {b g : Nat} {ok : Nat → Prop} {v : Value} {xs : List Int} (h : KB w w' b g) (hr : ReadB w ok v xs) (hb : ¬ ok b) (hg : ¬ ok g) : ReadB w' ok v xs := by
  obtain ⟨A, c, rfl, hl, hC⟩ := hr
  exact ⟨A, c, rfl, hl, fun W hW => hC W (fun k hk hlt => (hW k hk (Nat.lt_of_lt_of_le hlt h.size)).trans (h.block k hlt (fun e => hb (e ▸ hk)) (fun e => hg (e ▸ hk))))⟩

abbrev bufO (v : Value) (lr : Int) : Obj := .cells #[v, .int .i64 0, .int .i8 lr] 127 (0, 0)
/-- Block b is a bytes.Buffer that has only been written and holds bs; its row (if any; else g = b) is block g. -/
def Buf (w : World) (b g : Nat) (bs : List Int) : Prop :=
  ∃ lr : Int, (bs = [] ∧ g = b ∧ w.heap[b]? = some (bufO (.slice none 0 0) lr)) ∨
    ∃ (cap : Nat) (cur : Array Value), g ≠ b ∧ w.heap[b]? = some (bufO (.slice (some ⟨g, 0, none⟩) bs.length cap) lr) ∧
      w.heap[g]? = some (.cells cur 5 (0, 0)) ∧ cur.size = cap ∧ bs.length ≤ cap ∧ cap ≤ 9223372036854775807 ∧ cur.toList.take bs.length = bs.map (Value.int .u8)
/-- Between grow and copy: room for n more is cut. -/
def Room (w : World) (b g : Nat) (bs : List Int) (n : Nat) : Prop :=
  ∃ (lr : Int) (cap : Nat) (cur : Array Value), g ≠ b ∧ w.heap[b]? = some (bufO (.slice (some ⟨g, 0, none⟩) (bs.length + n) cap) lr) ∧
      w.heap[g]? = some (.cells cur 5 (0, 0)) ∧ cur.size = cap ∧ bs.length + n ≤ cap ∧ cap ≤ 9223372036854775807 ∧ cur.toList.take bs.length = bs.map (Value.int .u8)
theorem Buf.agree {w w' : World} {b g : Nat} {bs : List Int} (h : Buf w b g bs) (h1 : w'.heap[b]? = w.heap[b]?) (h2 : w'.heap[g]? = w.heap[g]?) : Buf w' b g bs := by
  obtain ⟨lr, ⟨e1, e2, e3⟩ | ⟨cap, cur, e1, e2, e3, e4⟩⟩ := h
  · exact ⟨lr, .inl ⟨e1, e2, h1.trans e3⟩⟩
  · exact ⟨lr, .inr ⟨cap, cur, e1, h1.trans e2, h2.trans e3, e4⟩⟩
theorem Buf.lt {w : World} {b g : Nat} {bs : List Int} (h : Buf w b g bs) : b < w.heap.size ∧ g < w.heap.size := by
  obtain ⟨lr, ⟨e1, rfl, e3⟩ | ⟨cap, cur, e1, e2, e3, e4⟩⟩ := h
  · exact ⟨blk_lt e3, blk_lt e3⟩
  · exact ⟨blk_lt e2, blk_lt e3⟩
theorem Buf.below {w w' : World} {b g : Nat} {bs : List Int} (h : Buf w b g bs) (hb : Below w.heap.size w w') : Buf w' b g bs := h.agree (hb.block _ h.lt.1) (hb.block _ h.lt.2)
theorem Buf.kept {w w' : World} {b g b' g' : Nat} {bs : List Int} (h : Buf w b g bs) (hk : KB w w' b' g') (h1 : b ≠ b') (h2 : b ≠ g') (h3 : g ≠ b') (h4 : g ≠ g') : Buf w' b g bs :=
  h.agree (hk.block _ h.lt.1 h1 h2) (hk.block _ h.lt.2 h3 h4)
theorem Buf.new (w : World) (lr : Int) : Buf (w.alloc (.cells #[.slice none 0 0, .int .i64 0, .int .i8 lr] 127)) w.heap.size w.heap.size [] := ⟨lr, .inl ⟨rfl, rfl, blk_new _ _⟩⟩
theorem Buf.last {w : World} {b g : Nat} {bs : List Int} (h : Buf w b g bs) (x : Int) : Buf (w.setCell ⟨b, 2, none⟩ (.int .i8 x)) b g bs := by
  obtain ⟨lr, ⟨e1, e2, e3⟩ | ⟨cap, cur, e1, e2, e3, e4⟩⟩ := h
  · exact ⟨x, .inl ⟨e1, e2, Lib.heap_setCell_same (i := 2) e3 _⟩⟩
  · exact ⟨x, .inr ⟨cap, cur, e1, Lib.heap_setCell_same (i := 2) e2 _, (Below.heap_setCell _ _ _ _ e1).trans e3, e4⟩⟩
theorem Buf.c2 {w : World} {b g : Nat} {bs : List Int} (h : Buf w b g bs) : (∃ lr, w.cell? ⟨b, 2, none⟩ = some (.int .i8 lr)) ∧ w.frozen? ⟨b, 2, none⟩ = false ∧ w.cell? ⟨b, 1, none⟩ = some (.int .i64 0) ∧ w.frozen? ⟨b, 0, none⟩ = false := by
  obtain ⟨lr, ⟨e1, e2, e3⟩ | ⟨cap, cur, e1, e2, e3, e4⟩⟩ := h
  · exact ⟨⟨lr, by rw [Lib.cell_of_heap e3]; rfl⟩, Lib.frozen_of_heap e3 2, by rw [Lib.cell_of_heap e3]; rfl, Lib.frozen_of_heap e3 0⟩
  · exact ⟨⟨lr, by rw [Lib.cell_of_heap e2]; rfl⟩, Lib.frozen_of_heap e2 2, by rw [Lib.cell_of_heap e2]; rfl, Lib.frozen_of_heap e2 0⟩
theorem Room.fill {w : World} {b g : Nat} {bs ys : List Int} (h : Room w b g bs ys.length) : ∃ cap cur lr, g ≠ b ∧ w.heap[b]? = some (bufO (.slice (some ⟨g, 0, none⟩) (bs.length + ys.length) cap) lr) ∧ w.heap[g]? = some (.cells cur 5 (0, 0)) ∧ cur.size = cap ∧ bs.length + ys.length ≤ cap ∧ cap ≤ 9223372036854775807 ∧
    Hid (Buf (w.setRow g (cur.toList.take bs.length ++ ys.map (Value.int .u8) ++ cur.toList.drop (bs.length + (ys.map (Value.int .u8)).length)).toArray) b g (bs ++ ys)) := by
  obtain ⟨lr, cap, cur, e1, e2, e3, e4, e5, e6, e7⟩ := h
  refine ⟨cap, cur, lr, e1, e2, e3, e4, e5, e6, Lib.hid ⟨lr, .inr ⟨cap, _, e1, ?_, setRow_heap _ _ _ _ _ _ e3, ?_, ?_, e6, ?_⟩⟩⟩
  · rw [setRow_other _ _ _ _ (Ne.symm e1), List.length_append]; exact e2
  · simp; omega
  · simp; omega
  · rw [e7]
    simp
    rw [← List.append_assoc, List.take_append_of_le_length (by simp), List.take_of_length_le (by simp)]

set_option maxRecDepth 100000 in
theorem bufLen_any (b g : Nat) (bs : List Int) (w : World) (h : Buf w b g bs) (hl : bs.length ≤ 1000000) :
    Calls Tryd.prog 85 #[.pointer (some ⟨b, 0, none⟩)] w fun e w' => e = .returned (.int .i64 bs.length) ∧ ∃ n, w' = w.drewN n := by
  obtain ⟨-, -, c1, -⟩ := h.c2
  obtain ⟨A, cap, hA⟩ : ∃ A cap, w.cell? ⟨b, 0, none⟩ = some (.slice A bs.length cap) := by
    obtain ⟨lr, ⟨e1, e2, e3⟩ | ⟨cap, cur, e1, e2, e3, e4⟩⟩ := h
    · exact ⟨none, 0, by rw [Lib.cell_of_heap e3, e1]; rfl⟩
    · exact ⟨_, cap, by rw [Lib.cell_of_heap e2]; rfl⟩
  clear h
  go_enter Tryd.func85, Tryd.ntmps85
  go_wp2_with fail
  go_quiet (fail)
  go_wp2
  go_ret
  exact ⟨rfl, _, rfl⟩

theorem growSlice_row (g l c n : Nat) (cur : Array Value) (w : World) (hg : w.heap[g]? = some (.cells cur 5 (0, 0))) (hcs : cur.size = c) (hlc : l ≤ c) (hn : 1 ≤ n) (hlim : l + n ≤ 140737488355328) (hc2 : c ≤ 140737488355328) (h1 : ∀ v ∈ cur.toList.take l, v.oneCell' = true) :
    Calls Tryd.prog 113 #[.slice (some ⟨g, 0, none⟩) l c, .int .i64 n] w fun e w' => ∃ cap2 cells, e = .returned (.slice (some ⟨w.heap.size, 0, none⟩) l cap2) ∧ w'.heap[w.heap.size]? = some (.cells cells 5 (0, 0)) ∧
      cells.size = cap2 ∧ cells.toList.take l = cur.toList.take l ∧ l + n ≤ cap2 ∧ cap2 ≤ 9223372036854775807 ∧ Below w.heap.size w w' := Any.bytes_growSlice_row Tryd.laysGS g l c n cur w hg hcs hlc hn hlim hc2 h1
theorem growSlice_nil (n : Nat) (w : World) (hn : 1 ≤ n) (hlim : n ≤ 140737488355328) :
    Calls Tryd.prog 113 #[.slice none 0 0, .int .i64 n] w fun e w' => ∃ cap2 cells, e = .returned (.slice (some ⟨w.heap.size, 0, none⟩) 0 cap2) ∧ w'.heap[w.heap.size]? = some (.cells cells 5 (0, 0)) ∧
      cells.size = cap2 ∧ n ≤ cap2 ∧ cap2 ≤ 9223372036854775807 ∧ Below w.heap.size w w' := Any.bytes_growSlice_nil Tryd.laysGS n w hn hlim
theorem tryGrow_room (b : Nat) (ao : Option Addr) (l cap n : Nat) (w : World) (c0 : w.cell? ⟨b, 0, none⟩ = some (.slice ao l cap)) (f0 : w.frozen? ⟨b, 0, none⟩ = false) (hlc : l ≤ cap) (hcap : cap ≤ 9223372036854775807) (hn : n ≤ cap - l) :
    Calls Tryd.prog 91 #[.pointer (some ⟨b, 0, none⟩), .int .i64 n] w fun e w' => e = .returned (.tuple #[.int .i64 l, .bool true]) ∧ w' = w.setCell ⟨b, 0, none⟩ (.slice ao (l + n) cap) := Any.Buffer_tryGrow_room Tryd.laysTG b ao l cap n w c0 f0 hlc hcap hn
theorem tryGrow_none (b : Nat) (ao : Option Addr) (l cap n : Nat) (w : World) (c0 : w.cell? ⟨b, 0, none⟩ = some (.slice ao l cap)) (hlc : l ≤ cap) (hcap : cap ≤ 9223372036854775807) (hn : cap - l < n) :
    Calls Tryd.prog 91 #[.pointer (some ⟨b, 0, none⟩), .int .i64 n] w fun e w' => e = .returned (.tuple #[.int .i64 0, .bool false]) ∧ w' = w := Any.Buffer_tryGrow_none Tryd.laysTG b ao l cap n w c0 hlc hcap hn
theorem growEnd {w w2 : World} {b g : Nat} {lr : Int} {A : Option Addr} {l cap cap2 n : Nat} {cells : Array Value} {bs : List Int} (hbk : w2.heap[b]? = some (bufO (.slice A l cap) lr)) (hg : w2.heap[g]? = some (.cells cells 5 (0, 0))) (hgb : g ≠ b) (hl : bs.length = l)
    (hs : cells.size = cap2) (ht : cells.toList.take l = bs.map (Value.int .u8)) (hn : l + n ≤ cap2) (hm : cap2 ≤ 9223372036854775807) (m : Nat) (hm' : l + n = m) : Room (((w2.setCell ⟨b, 0, none⟩ (.slice (some ⟨g, 0, none⟩) l cap2)).setCell ⟨b, 1, none⟩ (.int .i64 0)).setCell ⟨b, 0, none⟩ (.slice (some ⟨g, 0, none⟩) m cap2)) b g bs n := by
  subst hl
  subst hm'
  refine ⟨lr, cap2, cells, hgb, ?_, ?_, hs, hn, hm, ht⟩
  · have h1 := Lib.heap_setCell_same (i := 0) hbk (.slice (some ⟨g, 0, none⟩) bs.length cap2)
    have h2 := Lib.heap_setCell_same (i := 1) h1 (.int .i64 0)
    exact Lib.heap_setCell_same (i := 0) h2 _
  · rw [Below.heap_setCell _ _ _ _ hgb, Below.heap_setCell _ _ _ _ hgb, Below.heap_setCell _ _ _ _ hgb]; exact hg

theorem grow_kb {w w' w2 : World} {b : Nat} {k : Nat} {x y z : Value} (h : w' = w.drewN k) (hb : Below w'.heap.size w'.drew w2) : KB w (((w2.setCell ⟨b, 0, none⟩ x).setCell ⟨b, 1, none⟩ y).setCell ⟨b, 0, none⟩ z) b b :=
  (((((KB.refl w b b).drewN k).drew.step (by rw [← h]; exact hb)).setCell (.inl rfl) _).setCell (.inl rfl) _).setCell (.inl rfl) _
theorem Room.of {w : World} {b g : Nat} {bs : List Int} {n : Nat} {lr : Int} {cap : Nat} {cur : Array Value} (e1 : g ≠ b) (e2 : w.heap[b]? = some (bufO (.slice (some ⟨g, 0, none⟩) bs.length cap) lr)) (e3 : w.heap[g]? = some (.cells cur 5 (0, 0)))
    (e4 : cur.size = cap) (hn : bs.length + n ≤ cap) (e6 : cap ≤ 9223372036854775807) (e7 : cur.toList.take bs.length = bs.map (Value.int .u8)) : Room (w.setCell ⟨b, 0, none⟩ (.slice (some ⟨g, 0, none⟩) (bs.length + n) cap)) b g bs n :=
  ⟨lr, cap, cur, e1, Lib.heap_setCell_same (i := 0) e2 _, (Below.heap_setCell _ _ _ _ e1).trans e3, e4, hn, e6, e7⟩
/-- What a try to grow that failed leaves. -/
def NoRoom (w : World) (b n : Nat) : Prop := ∃ A l cap, w.cell? ⟨b, 0, none⟩ = some (.slice A l cap) ∧ cap - l < n
/-- tryGrowByReslice. -/
theorem tryGrow_any (b g : Nat) (bs : List Int) (n : Nat) (w : World) (h : Buf w b g bs) (h1 : 1 ≤ bs.length + n) :
    Calls Tryd.prog 91 #[.pointer (some ⟨b, 0, none⟩), .int .i64 n] w fun e w' =>
      (e = .returned (.tuple #[.int .i64 bs.length, .bool true]) ∧ Room w' b g bs n ∧ KB w w' b b) ∨ (e = .returned (.tuple #[.int .i64 0, .bool false]) ∧ w' = w ∧ NoRoom w b n) := by
  obtain ⟨lr, ⟨rfl, rfl, e3⟩ | ⟨cap, cur, e1, e2, e3, e4, e5, e6, e7⟩⟩ := h
  · have c0 : w.cell? ⟨g, 0, none⟩ = some (.slice none 0 0) := by rw [Lib.cell_of_heap e3]; rfl
    refine (tryGrow_none g none 0 0 n w c0 (Nat.le_refl _) (Nat.zero_le _) (by simp at h1; omega)).mono ?_
    rintro e w' ⟨rfl, rfl⟩
    exact .inr ⟨rfl, rfl, _, _, _, c0, by simp at h1; omega⟩
  · have c0 : w.cell? ⟨b, 0, none⟩ = some (.slice (some ⟨g, 0, none⟩) bs.length cap) := by rw [Lib.cell_of_heap e2]; rfl
    by_cases hr : n ≤ cap - bs.length
    · refine (tryGrow_room b _ bs.length cap n w c0 (Lib.frozen_of_heap e2 0) e5 e6 hr).mono ?_
      rintro e w' ⟨rfl, rfl⟩
      exact .inl ⟨rfl, Room.of e1 e2 e3 e4 (by omega) e6 e7, (KB.refl _ _ _).setCell (.inl rfl) _⟩
    · refine (tryGrow_none b _ bs.length cap n w c0 e5 e6 (by omega)).mono ?_
      rintro e w' ⟨rfl, rfl⟩
      exact .inr ⟨rfl, rfl, _, _, _, c0, by omega⟩
end Go.Proofs.YtangjgclpipjdaaDoor
set_option linter.unusedVariables false
namespace Go.Proofs.YtangjgclpipjdaaDoor
open Go.RowKit Go.Proofs.YtangjgclpipjdaaDoorW.PrintWords Go.Proofs.YtangjgclpipjdaaDoorW.PrintLast Go.Proofs.YtangjgclpipjdaaDoorW.PrintMore

theorem growFin {w w' w2 : World} {k b : Nat} {lr : Int} {A : Option Addr} {l cap cap2 : Nat} {cells : Array Value} {bs : List Int} (n m : Nat) (hm' : l + n = m) (h : w' = w.drewN k) (hb : Below w'.drew.heap.size w'.drew w2) (hbk : w2.heap[b]? = some (bufO (.slice A l cap) lr)) (hN : w2.heap[w'.drew.heap.size]? = some (.cells cells 5 (0, 0)))
    (hbW : b < w'.heap.size) (hl : bs.length = l) (hs : cells.size = cap2) (ht : cells.toList.take l = bs.map (Value.int .u8)) (hn : l + n ≤ cap2) (hm : cap2 ≤ 9223372036854775807) :
    ∃ g', w.heap.size ≤ g' ∧ Room (((w2.setCell ⟨b, 0, none⟩ (.slice (some ⟨w'.heap.size, 0, none⟩) l cap2)).setCell ⟨b, 1, none⟩ (.int .i64 0)).setCell ⟨b, 0, none⟩ (.slice (some ⟨w'.heap.size, 0, none⟩) m cap2)) b g' bs n ∧
      KB w (((w2.setCell ⟨b, 0, none⟩ (.slice (some ⟨w'.heap.size, 0, none⟩) l cap2)).setCell ⟨b, 1, none⟩ (.int .i64 0)).setCell ⟨b, 0, none⟩ (.slice (some ⟨w'.heap.size, 0, none⟩) m cap2)) b b := by
  have e : w'.drew.heap.size = w'.heap.size := rfl
  rw [e] at hN hb
  exact ⟨w'.heap.size, by rw [h]; exact Nat.le_refl _, growEnd (w := w) hbk hN (by omega) hl hs ht hn hm m hm', grow_kb h hb⟩
set_option maxRecDepth 100000 in
set_option maxHeartbeats 4000000 in
theorem grow_row (b g : Nat) (bs : List Int) (n : Nat) (lr : Int) (cap : Nat) (cur : Array Value) (w : World) (hgb : g ≠ b) (hbk : w.heap[b]? = some (bufO (.slice (some ⟨g, 0, none⟩) bs.length cap) lr)) (hg : w.heap[g]? = some (.cells cur 5 (0, 0))) (hcs : cur.size = cap) (hlc : bs.length ≤ cap)
    (htk : cur.toList.take bs.length = bs.map (Value.int .u8)) (hn : 1 ≤ n) (hno : cap - bs.length < n) (hl : bs.length + n ≤ 1000000) :
    Calls Tryd.prog 92 #[.pointer (some ⟨b, 0, none⟩), .int .i64 n] w fun e w' => e = .returned (.int .i64 bs.length) ∧ ∃ g', w.heap.size ≤ g' ∧ Room w' b g' bs n ∧ KB w w' b b := by
  have mixed : Tryd.prog.follows Departure.mixedOrders = true := by kernel_rfl
  have hBuf : Buf w b g bs := ⟨lr, .inr ⟨cap, cur, hgb, hbk, hg, hcs, hlc, by omega, htk⟩⟩
  have hnil : ∀ W, (binOp .eql 26 (.slice (some ⟨g, 0, none⟩) bs.length cap) (.slice none 0 0)).run Tryd.prog W = .ok (.bool false) W := fun W => Lib.run_eql_slice_some_nil W _ _ _ Tryd.underlying26
  have h1' : ∀ v ∈ cur.toList.take bs.length, v.oneCell' = true := by
    rw [htk]
    intro v hv
    obtain ⟨x, -, rfl⟩ := List.mem_map.1 hv
    rfl
  have hcap : cap ≤ 1000000 := by omega
  obtain ⟨l, hbl⟩ : ∃ l, l = bs.length := ⟨_, rfl⟩
  rw [← hbl] at hbk hlc htk hno hl hnil h1' ⊢
  have HT := Lib.hid (And.intro htk (And.intro hbl (And.intro hBuf h1')))
  clear htk hbl hBuf h1'
  go_enter Tryd.func92, Tryd.ntmps92
  go_wp2_with fail
  refine (bufLen_any b g bs w HT.out.2.2.1 (by rw [← HT.out.2.1]; omega)).mono ?_
  rintro e W0 ⟨rfl, k, hW0⟩
  rw [← HT.out.2.1]
  have hbk0 : W0.heap[b]? = some (bufO (.slice (some ⟨g, 0, none⟩) l cap) lr) := by rw [hW0]; exact hbk
  have hg0 : W0.heap[g]? = some (.cells cur 5 (0, 0)) := by rw [hW0]; exact hg
  have c0 : W0.cell? ⟨b, 0, none⟩ = some (.slice (some ⟨g, 0, none⟩) l cap) := by rw [Lib.cell_of_heap hbk0]; rfl
  have c1 : W0.cell? ⟨b, 1, none⟩ = some (.int .i64 0) := by rw [Lib.cell_of_heap hbk0]; rfl
  have f0 : W0.frozen? ⟨b, 0, none⟩ = false := Lib.frozen_of_heap hbk0 0
  have f1 : W0.frozen? ⟨b, 1, none⟩ = false := Lib.frozen_of_heap hbk0 1
  have HW0 := Lib.hid hW0
  clear hW0 hbk hg
  have hwn : IntKind.i64.wrap (n : Int) = n := by rw [IntKind.wrap_i64]; omega
  have hbW := Lib.lt_of_heap hbk0
  by_cases hl0 : l = 0
  · subst hl0
    go_wp2_with fail
    refine (tryGrow_none b _ 0 cap n _ c0 hlc (by omega) hno).mono ?_
    rintro e w' ⟨rfl, rfl⟩
    go_wp2_with fail
    go_region_with_o (go_at_call 113; refine (growSlice_row g 0 cap n cur _ ?_ hcs hlc hn (by omega) (by omega) HT.out.2.2.2).mono ?_; exact hg0; rintro e w2 ⟨cap2, cells, rfl, hN, hcsz, htk2, hcap2, hcm2, hbel⟩; have hbk2 : w2.heap[b]? = some (bufO (.slice (some ⟨g, 0, none⟩) 0 cap) lr) := (hbel.block b hbW).trans hbk0; have d0 : w2.cell? ⟨b, 0, none⟩ = some (.slice (some ⟨g, 0, none⟩) 0 cap) := (by rw [Lib.cell_of_heap hbk2]; rfl); have d1 : w2.cell? ⟨b, 1, none⟩ = some (.int .i64 0) := (by rw [Lib.cell_of_heap hbk2]; rfl); have e0 : w2.frozen? ⟨b, 0, none⟩ = false := Lib.frozen_of_heap hbk2 0; have e1 : w2.frozen? ⟨b, 1, none⟩ = false := Lib.frozen_of_heap hbk2 1)
    all_goals go_wp2
    all_goals go_ret
    all_goals exact ⟨rfl, growFin n n (Nat.zero_add n) HW0.out hbel hbk2 hN hbW HT.out.2.1.symm hcsz (htk2.trans HT.out.1) hcap2 hcm2⟩
  · skip
    go_wp2_with fail
    refine (tryGrow_none b _ l cap n _ c0 hlc (by omega) hno).mono ?_
    rintro e w' ⟨rfl, rfl⟩
    go_wp2_with fail
    go_region_with_o (go_at_call 113; refine (growSlice_row g l cap n cur _ ?_ hcs hlc hn (by omega) (by omega) HT.out.2.2.2).mono ?_; exact hg0; rintro e w2 ⟨cap2, cells, rfl, hN, hcsz, htk2, hcap2, hcm2, hbel⟩; have hbk2 : w2.heap[b]? = some (bufO (.slice (some ⟨g, 0, none⟩) l cap) lr) := (hbel.block b hbW).trans hbk0; have d0 : w2.cell? ⟨b, 0, none⟩ = some (.slice (some ⟨g, 0, none⟩) l cap) := (by rw [Lib.cell_of_heap hbk2]; rfl); have d1 : w2.cell? ⟨b, 1, none⟩ = some (.int .i64 0) := (by rw [Lib.cell_of_heap hbk2]; rfl); have e0 : w2.frozen? ⟨b, 0, none⟩ = false := Lib.frozen_of_heap hbk2 0; have e1 : w2.frozen? ⟨b, 1, none⟩ = false := Lib.frozen_of_heap hbk2 1)
    all_goals go_wp2
    all_goals go_ret
    all_goals exact ⟨rfl, growFin n (l + n) rfl HW0.out hbel hbk2 hN hbW HT.out.2.1.symm hcsz (htk2.trans HT.out.1) hcap2 hcm2⟩

theorem small_end {w : World} {b n : Nat} {lr : Int} {M : Array Value} (hbk : w.heap[b]? = some (bufO (.slice none 0 0) lr)) (hM : M.size = 64) (hn : n ≤ 64) :
    Room ((w.setCell ⟨b, 0, none⟩ (.slice (some ⟨w.heap.size, 0, none⟩) n 64)).alloc (.cells M 5)) b w.heap.size [] n := by
  have hlt := blk_lt hbk
  refine ⟨lr, 64, M, by omega, ?_, ?_, hM, by simpa using hn, by omega, by simp⟩
  · have := blk_alloc (Lib.heap_setCell_same (i := 0) hbk (.slice (some ⟨w.heap.size, 0, none⟩) n 64)) (.cells M 5)
    simpa using this
  · have := blk_new (w.setCell ⟨b, 0, none⟩ (.slice (some ⟨w.heap.size, 0, none⟩) n 64)) (.cells M 5)
    simpa [World.setCell] using this
set_option maxRecDepth 100000 in
set_option maxHeartbeats 4000000 in
theorem grow_nil_small (b n : Nat) (lr : Int) (w : World) (hbk : w.heap[b]? = some (bufO (.slice none 0 0) lr)) (hn : 1 ≤ n) (h64 : n ≤ 64) :
    Calls Tryd.prog 92 #[.pointer (some ⟨b, 0, none⟩), .int .i64 n] w fun e w' => e = .returned (.int .i64 0) ∧ ∃ g', w.heap.size ≤ g' ∧ Room w' b g' [] n ∧ KB w w' b b := by
  have hBuf : Buf w b b [] := ⟨lr, .inl ⟨rfl, rfl, hbk⟩⟩
  obtain ⟨M, hMs, hmk⟩ : ∃ M : Array Value, M.size = 64 ∧ ∀ W : World, (Instr.makeSlice 26 (.int .i64 (n : Int)) (.int .i64 64)).run Tryd.prog W = .ok (.slice (some ⟨W.heap.size, 0, none⟩) n 64) (W.alloc (.cells M 5)) := by
    obtain ⟨i0, hi, hz0, hz1, hz2⟩ : ∃ i0, Tryd.prog.info? 5 = some i0 ∧ i0.zero = some (.int .u8 0) ∧ i0.size = 1 ∧ i0.bytes = 1 := ⟨_, rfl, by kernel_rfl, by kernel_rfl, by kernel_rfl⟩
    refine ⟨madeCells (Value.int .u8 0).cells ((64 : Int).toNat * i0.size), by rw [size_madeCells, hz1]; rfl, fun W => ?_⟩
    have h := run_makeSlice (P := Tryd.prog) W 26 5 i0 (.int .u8 0) Tryd.underlying26 hi hz0 .i64 .i64 (n : Int) 64 (by omega) (by omega) (by rw [hz1]; decide) (by rw [hz2]; decide) (by decide)
    simpa using h
  have hnil : ∀ W, (binOp .eql 26 (.slice none 0 0) (.slice none 0 0)).run Tryd.prog W = .ok (.bool true) W := fun W => Lib.run_eql_slice_nil_nil W _ _ Tryd.underlying26
  have HT := Lib.hid hBuf
  clear hBuf
  go_enter Tryd.func92, Tryd.ntmps92
  go_wp2_with fail
  refine (bufLen_any b b [] w HT.out (by simp)).mono ?_
  rintro e W0 ⟨rfl, k, hW0⟩
  have hbk0 : W0.heap[b]? = some (bufO (.slice none 0 0) lr) := by rw [hW0]; exact hbk
  have c0 : W0.cell? ⟨b, 0, none⟩ = some (.slice none 0 0) := by rw [Lib.cell_of_heap hbk0]; rfl
  have c1 : W0.cell? ⟨b, 1, none⟩ = some (.int .i64 0) := by rw [Lib.cell_of_heap hbk0]; rfl
  have f0 : W0.frozen? ⟨b, 0, none⟩ = false := Lib.frozen_of_heap hbk0 0
  have f1 : W0.frozen? ⟨b, 1, none⟩ = false := Lib.frozen_of_heap hbk0 1
  have hbW0 := Lib.lt_of_heap hbk0
  have c0a : ∀ o, (W0.alloc o).cell? ⟨b, 0, none⟩ = some (.slice none 0 0) := fun o => (World.cell?_of_block (a := ⟨b, 0, none⟩) (Below.heap_alloc W0 o b hbW0)).trans c0
  have f0a : ∀ o, (W0.alloc o).frozen? ⟨b, 0, none⟩ = false := fun o => (World.frozen?_of_block (a := ⟨b, 0, none⟩) (Below.heap_alloc W0 o b hbW0)).trans f0
  have HE := Lib.hid (And.intro (small_end hbk0 hMs h64) (show KB w ((W0.setCell ⟨b, 0, none⟩ (.slice (some ⟨W0.heap.size, 0, none⟩) n 64)).alloc (.cells M 5)) b b by
    rw [hW0]
    exact ((((KB.refl w b b).drewN k).setCell (.inl rfl) _).alloc _)))
  have hle : w.heap.size ≤ W0.heap.size := by rw [hW0]; exact Nat.le_refl _
  have HL := Lib.hid hle
  clear hW0 hbk hbk0 HT hle
  go_wp2_with fail
  refine (tryGrow_none b _ 0 0 n _ c0 (Nat.le_refl _) (Nat.zero_le _) (by omega)).mono ?_
  rintro e w' ⟨rfl, rfl⟩
  go_wp2
  go_ret
  exact ⟨rfl, _, HL.out, HE.out⟩
set_option maxRecDepth 100000 in
set_option maxHeartbeats 4000000 in
theorem grow_nil_big (b n : Nat) (lr : Int) (w : World) (hbk : w.heap[b]? = some (bufO (.slice none 0 0) lr)) (h64 : 64 < n) (hl : n ≤ 1000000) :
    Calls Tryd.prog 92 #[.pointer (some ⟨b, 0, none⟩), .int .i64 n] w fun e w' => e = .returned (.int .i64 0) ∧ ∃ g', w.heap.size ≤ g' ∧ Room w' b g' [] n ∧ KB w w' b b := by
  have mixed : Tryd.prog.follows Departure.mixedOrders = true := by kernel_rfl
  have hBuf : Buf w b b [] := ⟨lr, .inl ⟨rfl, rfl, hbk⟩⟩
  have hnil : ∀ W, (binOp .eql 26 (.slice none 0 0) (.slice none 0 0)).run Tryd.prog W = .ok (.bool true) W := fun W => Lib.run_eql_slice_nil_nil W _ _ Tryd.underlying26
  have HT := Lib.hid hBuf
  clear hBuf
  go_enter Tryd.func92, Tryd.ntmps92
  go_wp2_with fail
  refine (bufLen_any b b [] w HT.out (by simp)).mono ?_
  rintro e W0 ⟨rfl, k, hW0⟩
  have hbk0 : W0.heap[b]? = some (bufO (.slice none 0 0) lr) := by rw [hW0]; exact hbk
  have c0 : W0.cell? ⟨b, 0, none⟩ = some (.slice none 0 0) := by rw [Lib.cell_of_heap hbk0]; rfl
  have c1 : W0.cell? ⟨b, 1, none⟩ = some (.int .i64 0) := by rw [Lib.cell_of_heap hbk0]; rfl
  have f0 : W0.frozen? ⟨b, 0, none⟩ = false := Lib.frozen_of_heap hbk0 0
  have f1 : W0.frozen? ⟨b, 1, none⟩ = false := Lib.frozen_of_heap hbk0 1
  have HW0 := Lib.hid hW0
  have hwn : IntKind.i64.wrap (n : Int) = n := by rw [IntKind.wrap_i64]; omega
  have hbW := Lib.lt_of_heap hbk0
  clear hW0 hbk HT
  go_wp2_with fail
  refine (tryGrow_none b _ 0 0 n _ c0 (Nat.le_refl _) (Nat.zero_le _) (by omega)).mono ?_
  rintro e w' ⟨rfl, rfl⟩
  go_wp2_with fail
  go_region_with_o (go_at_call 113; refine (growSlice_nil n _ (by omega) (by omega)).mono ?_; rintro e w2 ⟨cap2, cells, rfl, hN, hcsz, hcap2, hcm2, hbel⟩; have hbk2 : w2.heap[b]? = some (bufO (.slice none 0 0) lr) := (hbel.block b hbW).trans hbk0; have d0 : w2.cell? ⟨b, 0, none⟩ = some (.slice none 0 0) := (by rw [Lib.cell_of_heap hbk2]; rfl); have d1 : w2.cell? ⟨b, 1, none⟩ = some (.int .i64 0) := (by rw [Lib.cell_of_heap hbk2]; rfl); have e0 : w2.frozen? ⟨b, 0, none⟩ = false := Lib.frozen_of_heap hbk2 0; have e1 : w2.frozen? ⟨b, 1, none⟩ = false := Lib.frozen_of_heap hbk2 1)
  all_goals go_wp2
  all_goals go_ret
  all_goals exact ⟨rfl, growFin (bs := []) n n (Nat.zero_add n) HW0.out hbel hbk2 hN hbW rfl hcsz rfl (by rw [Nat.zero_add]; exact hcap2) hcm2⟩

/-- grow, where there is no room. -/
theorem grow_any (b g : Nat) (bs : List Int) (n : Nat) (w : World) (h : Buf w b g bs) (hno : NoRoom w b n) (h1 : 1 ≤ n) (hl : bs.length + n ≤ 1000000) :
    Calls Tryd.prog 92 #[.pointer (some ⟨b, 0, none⟩), .int .i64 n] w fun e w' => e = .returned (.int .i64 bs.length) ∧ ∃ g', w.heap.size ≤ g' ∧ Room w' b g' bs n ∧ KB w w' b b := by
  obtain ⟨A', l', cap', hc, hlt⟩ := hno
  obtain ⟨lr, ⟨rfl, rfl, e3⟩ | ⟨cap, cur, e1, e2, e3, e4, e5, e6, e7⟩⟩ := h
  · by_cases h64 : n ≤ 64
    · exact grow_nil_small g n lr w e3 h1 h64
    · exact grow_nil_big g n lr w e3 (by omega) (by simp at hl; omega)
  · have c0 : w.cell? ⟨b, 0, none⟩ = some (.slice (some ⟨g, 0, none⟩) bs.length cap) := by rw [Lib.cell_of_heap e2]; rfl
    rw [hc] at c0
    simp only [Option.some.injEq, Value.slice.injEq] at c0
    obtain ⟨-, rfl, rfl⟩ := c0
    exact grow_row b g bs n lr cap' cur w e1 e2 e3 e4 e5 e7 h1 hlt hl
end Go.Proofs.YtangjgclpipjdaaDoor
set_option linter.unusedVariables false
namespace Go.Proofs.YtangjgclpipjdaaDoor
open Go.RowKit Go.Proofs.YtangjgclpipjdaaDoorW.PrintWords Go.Proofs.YtangjgclpipjdaaDoorW.PrintLast Go.Proofs.YtangjgclpipjdaaDoorW.PrintMore

/-- What is written onto a buffer. -/
def Wrote (w w' : World) (b g : Nat) (xs : List Int) : Prop := KB w w' b g ∧ ∃ g', Buf w' b g' xs ∧ (g' = g ∨ w.heap.size ≤ g')
theorem oneCells (ys : List Int) : ∀ v ∈ ys.map (Value.int .u8), v.oneCell' = true := by
  intro v hv
  obtain ⟨x, -, rfl⟩ := List.mem_map.1 hv
  rfl
theorem KB.past {w w1 : World} {b g : Nat} (h : KB w w1 b b) : KB w w1 b g := ⟨h.os, h.tape, h.output, h.size, fun k hk h1 _ => h.block k hk h1 h1⟩
theorem last_kb (w : World) (b : Nat) (x : Value) : KB w (w.setCell ⟨b, 2, none⟩ x) b b := (KB.refl w b b).setCell (.inl rfl) _
theorem setLast_size (w : World) (b : Nat) (x : Value) : (w.setCell ⟨b, 2, none⟩ x).heap.size = w.heap.size := by simp [World.setCell]
/-- The source of a copy. -/
theorem src_of {w : World} {a : Addr} {ys : List Int} {n : Nat} (h : Kd.C (Kd.int .u8) w (some a) n ys) (hn : ys.length = n) : ∀ j v, (ys.map (Value.int .u8))[j]? = some v → w.cell? (a.add j) = some v := by
  subst hn
  intro j v hj
  have hlt : j < ys.length := by
    rcases Nat.lt_or_ge j ys.length with h' | h'
    · exact h'
    · simp [h'] at hj
  obtain ⟨ad, e, hc⟩ := cell_at h j hlt
  cases e
  rw [hc]
  simp [hlt] at hj
  rw [← hj]
  simp [Go.Proofs.YtangjgclpipjdaaDoorW.PrintWords.rd, List.getD_eq_getElem?_getD, hlt]
theorem some_of {w : World} {A : Option Addr} {ys : List Int} {n : Nat} (h : Kd.C (Kd.int .u8) w A n ys) (hn : ys.length = n) (h1 : 1 ≤ n) : ∃ a, A = some a := by
  subst hn
  obtain ⟨ad, e, -⟩ := cell_at h 0 h1
  exact ⟨ad, e⟩
theorem sizeB : (Tryd.prog.info? 5).map (·.size) = some 1 := by kernel_rfl

set_option maxRecDepth 100000 in
set_option maxHeartbeats 4000000 in
theorem write_any (b g : Nat) (bs ys : List Int) (A : Option Addr) (n c : Nat) (ok : Nat → Prop) (w : World) (h : Buf w b g bs) (hv : ReadB w ok (.slice A n c) ys) (hb : ¬ ok b) (hg : ¬ ok g) (hn : ys.length = n) (h1 : 1 ≤ bs.length + n) (hl : bs.length + n ≤ 1000000) :
    Calls Tryd.prog 67 #[.pointer (some ⟨b, 0, none⟩), .slice A n c] w fun e w' => e = .returned (.tuple #[.int .i64 n, .nilIface]) ∧ Wrote w w' b g (bs ++ ys) := by
  obtain ⟨⟨lr, c2⟩, f2, -, -⟩ := h.c2
  have hB2 := h.last 0
  have hK2 := last_kb w b (.int .i8 0)
  have hs2 := setLast_size w b (.int .i8 0)
  have hv2 := hK2.read hv hb hb
  by_cases h0 : n = 0
  · subst h0
    have hy : ys = [] := List.eq_nil_of_length_eq_zero hn
    subst hy
    have hce : ∀ d dLen dCap W, (Builtin.copy_ #[26, 26] 3 #[.slice d dLen dCap, .slice A 0 c]).run Tryd.prog W = .ok (goInt 0) W := fun d dLen dCap W => run_copy_none W _ _ _ 5 d A dLen dCap 0 c Tryd.underlying26 sizeB (by simp)
    have HH := Lib.hid (And.intro h (And.intro hB2 (And.intro hK2 hs2)))
    clear h hB2 hK2 hs2 hv hv2
    go_enter Tryd.func67, Tryd.ntmps67
    go_wp2_with fail
    refine (tryGrow_any b g bs 0 _ HH.out.2.1 h1).mono ?_
    rintro e W1 (⟨rfl, hR, hK⟩ | ⟨rfl, rfl, A', l', cap', hc, hlt⟩)
    · obtain ⟨lr1, cap, cur, r1, r2, r3, r4, r5, r6, r7⟩ := hR
      have d0 : W1.cell? ⟨b, 0, none⟩ = some (.slice (some ⟨g, 0, none⟩) bs.length cap) := by rw [Lib.cell_of_heap r2]; rfl
      have HW : Wrote w W1 b g bs := ⟨(HH.out.2.2.1.trans hK (.inl rfl)).past, g, by exact ⟨lr1, .inr ⟨cap, cur, r1, r2, r3, r4, r5, r6, r7⟩⟩, .inl rfl⟩
      have HW := Lib.hid HW
      clear hK r2 r3 r7
      go_wp2
      all_goals go_ret2
      all_goals exact ⟨rfl, by first | exact HW.out | simpa using HW.out⟩
    · omega
  · have h1n : 1 ≤ n := by omega
    obtain ⟨a, rfl⟩ := some_of hv.C hn h1n
    have HH := Lib.hid (And.intro h (And.intro hB2 (And.intro hK2 (And.intro hs2 hv2))))
    clear h hB2 hK2 hs2 hv hv2
    go_enter Tryd.func67, Tryd.ntmps67
    go_wp2_with fail
    refine (tryGrow_any b g bs n _ HH.out.2.1 h1).mono ?_
    rintro e W1 (⟨rfl, hR, hK⟩ | ⟨rfl, rfl, hno⟩)
    · have hv3 := hK.read HH.out.2.2.2.2 hb hb
      have hKW : KB w W1 b g := (HH.out.2.2.1.trans hK (.inl rfl)).past
      rw [← hn] at hR
      obtain ⟨cap, cur, lr1, r1, r2, r3, r4, r5, r6, hF⟩ := hR.fill
      rw [hn] at r2 r5
      have d0 : W1.cell? ⟨b, 0, none⟩ = some (.slice (some ⟨g, 0, none⟩) (bs.length + n) cap) := by rw [Lib.cell_of_heap r2]; rfl
      have hne : ¬ cap = bs.length := by omega
      have hcp := run_copy_row (P := Tryd.prog) W1 26 26 3 5 g bs.length n (cap - bs.length) a n c cur 5 (ys.map (Value.int .u8)) Tryd.underlying26 sizeB r3 (by rw [List.length_map, hn]; exact (Nat.min_self n).symm) (src_of hv3.C hn) (by rw [List.length_map]; omega) (oneCells ys)
      have HW : Wrote w (W1.setRow g (cur.toList.take bs.length ++ ys.map (Value.int .u8) ++ cur.toList.drop (bs.length + (ys.map (Value.int .u8)).length)).toArray) b g (bs ++ ys) := ⟨hKW.setRow (.inr (.inl rfl)) _, g, hF.out, .inl rfl⟩
      have hcl : (ys.map (Value.int .u8)).length = n := by rw [List.length_map, hn]
      rw [hcl] at hcp HW
      generalize (W1.setRow g (cur.toList.take bs.length ++ ys.map (Value.int .u8) ++ cur.toList.drop (bs.length + n)).toArray) = W2 at hcp HW
      have HW := Lib.hid HW
      clear hF r2 r3 hv3 hKW hK HH hcl hR
      go_wp2
      go_ret2
      exact ⟨rfl, HW.out⟩
    · go_wp2_with fail
      refine (grow_any b g bs n _ HH.out.2.1 hno h1n hl).mono ?_
      rintro e W1 ⟨rfl, g', hg', hR, hK⟩
      rw [HH.out.2.2.2.1] at hg'
      have hv3 := hK.read HH.out.2.2.2.2 hb hb
      have hKW : KB w W1 b g := (HH.out.2.2.1.trans hK (.inl rfl)).past
      rw [← hn] at hR
      obtain ⟨cap, cur, lr1, r1, r2, r3, r4, r5, r6, hF⟩ := hR.fill
      rw [hn] at r2 r5
      have d0 : W1.cell? ⟨b, 0, none⟩ = some (.slice (some ⟨g', 0, none⟩) (bs.length + n) cap) := by rw [Lib.cell_of_heap r2]; rfl
      have hne : ¬ cap = bs.length := by omega
      have hcp := run_copy_row (P := Tryd.prog) W1 26 26 3 5 g' bs.length n (cap - bs.length) a n c cur 5 (ys.map (Value.int .u8)) Tryd.underlying26 sizeB r3 (by rw [List.length_map, hn]; exact (Nat.min_self n).symm) (src_of hv3.C hn) (by rw [List.length_map]; omega) (oneCells ys)
      have HW : Wrote w (W1.setRow g' (cur.toList.take bs.length ++ ys.map (Value.int .u8) ++ cur.toList.drop (bs.length + (ys.map (Value.int .u8)).length)).toArray) b g (bs ++ ys) := ⟨hKW.setRow (.inr (.inr hg')) _, g', hF.out, .inr hg'⟩
      have hcl : (ys.map (Value.int .u8)).length = n := by rw [List.length_map, hn]
      rw [hcl] at hcp HW
      generalize (W1.setRow g' (cur.toList.take bs.length ++ ys.map (Value.int .u8) ++ cur.toList.drop (bs.length + n)).toArray) = W2 at hcp HW
      have HW := Lib.hid HW
      clear hF r2 r3 hv3 hKW hK HH hcl hR hno
      go_wp2
      go_ret2
      exact ⟨rfl, HW.out⟩

theorem Room.poke {w : World} {b g : Nat} {bs : List Int} (h : Room w b g bs 1) (x : Int) : ∃ cap cur lr, g ≠ b ∧ w.heap[b]? = some (bufO (.slice (some ⟨g, 0, none⟩) (bs.length + 1) cap) lr) ∧ w.heap[g]? = some (.cells cur 5 (0, 0)) ∧ cur.size = cap ∧ bs.length + 1 ≤ cap ∧ cap ≤ 9223372036854775807 ∧
    Hid (Buf (w.setCell ⟨g, bs.length, none⟩ (.int .u8 x)) b g (bs ++ [x])) := by
  obtain ⟨lr, cap, cur, e1, e2, e3, e4, e5, e6, e7⟩ := h
  refine ⟨cap, cur, lr, e1, e2, e3, e4, e5, e6, Lib.hid ⟨lr, .inr ⟨cap, _, e1, ?_, Lib.heap_setCell_same (i := bs.length) e3 _, ?_, ?_, e6, ?_⟩⟩⟩
  · rw [Below.heap_setCell _ _ _ _ (Ne.symm e1), List.length_append]; exact e2
  · simpa using e4
  · simpa using e5
  · have hll : bs.length < cur.toList.length := by have : cur.toList.length = cur.size := Array.length_toList; omega
    rw [List.length_append, List.length_singleton, Array.toList_setIfInBounds, List.take_add_one, List.take_set_of_le (Nat.le_refl _), List.getElem?_set_self hll, e7]
    simp

set_option maxRecDepth 100000 in
set_option maxHeartbeats 4000000 in
theorem writeByte_any (b g : Nat) (bs : List Int) (x : Int) (w : World) (h : Buf w b g bs) (hl : bs.length + 1 ≤ 1000000) :
    Calls Tryd.prog 58 #[.pointer (some ⟨b, 0, none⟩), .int .u8 x] w fun e w' => e = .returned .nilIface ∧ Wrote w w' b g (bs ++ [x]) := by
  obtain ⟨⟨lr, c2⟩, f2, -, -⟩ := h.c2
  have hB2 := h.last 0
  have hK2 := last_kb w b (.int .i8 0)
  have hs2 := setLast_size w b (.int .i8 0)
  have hT : ∀ W, Buf W b g bs → Calls Tryd.prog 91 #[.pointer (some ⟨b, 0, none⟩), .int .i64 1] W _ := fun W hW => tryGrow_any b g bs 1 W hW (by omega)
  have hG : ∀ W, Buf W b g bs → NoRoom W b 1 → Calls Tryd.prog 92 #[.pointer (some ⟨b, 0, none⟩), .int .i64 1] W _ := fun W hW hn => grow_any b g bs 1 W hW hn (Nat.le_refl 1) hl
  have HH := Lib.hid (And.intro h (And.intro hB2 (And.intro hK2 hs2)))
  clear h hB2 hK2 hs2
  go_enter Tryd.func58, Tryd.ntmps58
  go_wp2_with fail
  refine (hT _ HH.out.2.1).mono ?_
  rintro e W1 (⟨rfl, hR, hK⟩ | ⟨rfl, rfl, hno⟩)
  · have hKW : KB w W1 b g := (HH.out.2.2.1.trans hK (.inl rfl)).past
    obtain ⟨cap, cur, lr1, r1, r2, r3, r4, r5, r6, hF⟩ := hR.poke x
    have d0 : W1.cell? ⟨b, 0, none⟩ = some (.slice (some ⟨g, 0, none⟩) (bs.length + 1) cap) := by rw [Lib.cell_of_heap r2]; rfl
    have hlt : bs.length < cur.size := by omega
    have dg : W1.cell? ⟨g, bs.length, none⟩ = some cur[bs.length] := by rw [Lib.cell_of_heap r3, Array.getElem?_eq_getElem hlt]
    have fg : W1.frozen? ⟨g, bs.length, none⟩ = false := Lib.frozen_of_heap r3 _
    have HW : Wrote w (W1.setCell ⟨g, bs.length, none⟩ (.int .u8 x)) b g (bs ++ [x]) := ⟨hKW.setCell (.inr (.inl rfl)) _, g, hF.out, .inl rfl⟩
    have HW := Lib.hid HW
    clear hF r2 r3 hKW hK HH hR hT hG
    go_wp2
    go_ret
    exact ⟨rfl, HW.out⟩
  · go_wp2_with fail
    refine (hG _ HH.out.2.1 hno).mono ?_
    rintro e W1 ⟨rfl, g', hg', hR, hK⟩
    rw [HH.out.2.2.2] at hg'
    have hKW : KB w W1 b g := (HH.out.2.2.1.trans hK (.inl rfl)).past
    obtain ⟨cap, cur, lr1, r1, r2, r3, r4, r5, r6, hF⟩ := hR.poke x
    have d0 : W1.cell? ⟨b, 0, none⟩ = some (.slice (some ⟨g', 0, none⟩) (bs.length + 1) cap) := by rw [Lib.cell_of_heap r2]; rfl
    have hlt : bs.length < cur.size := by omega
    have dg : W1.cell? ⟨g', bs.length, none⟩ = some cur[bs.length] := by rw [Lib.cell_of_heap r3, Array.getElem?_eq_getElem hlt]
    have fg : W1.frozen? ⟨g', bs.length, none⟩ = false := Lib.frozen_of_heap r3 _
    have HW : Wrote w (W1.setCell ⟨g', bs.length, none⟩ (.int .u8 x)) b g (bs ++ [x]) := ⟨hKW.setCell (.inr (.inr hg')) _, g', hF.out, .inr hg'⟩
    have HW := Lib.hid HW
    clear hF r2 r3 hKW hK HH hR hT hG hno
    go_wp2
    go_ret
    exact ⟨rfl, HW.out⟩

/-- A row whose front holds bytes. -/
theorem readB_front {w : World} {g cap n : Nat} {t : TypeId} {ok : Nat → Prop} {cur : Array Value} {xs : List Int} (h : w.heap[g]? = some (.cells cur t (0, 0))) (ht : cur.toList.take n = xs.map (Value.int .u8)) (hn : xs.length = n) (hc : n ≤ cap) (hm : n ≤ 9223372036854775807) (hok : ok g) :
    ReadB w ok (.slice (some ⟨g, 0, none⟩) n cap) xs := by
  subst hn
  refine ⟨some ⟨g, 0, none⟩, cap, rfl, hc, fun W' hW => ?_⟩
  have h' : W'.heap[g]? = some (.cells cur t (0, 0)) := (hW g hok (blk_lt h)).trans h
  refine Kd.C_of_reads (enc := Value.int .u8) (d := (0 : Int)) ⟨rfl, hm, fun _ => ⟨_, rfl, fun j hj => ?_⟩⟩
  have e : (⟨g, 0, none⟩ : Addr).add j = ⟨g, 0 + j, none⟩ := by unfold Addr.add; split <;> simp_all
  rw [e, Nat.zero_add, blk_cell h' j]
  have h2 : (cur.toList.take xs.length)[j]? = (xs.map (Value.int .u8))[j]? := by rw [ht]
  rw [List.getElem?_take_of_lt hj] at h2
  simp only [Array.getElem?_toList] at h2
  rw [h2]
  simp [hj]
theorem Buf.read {w : World} {b g : Nat} {bs : List Int} (h : Buf w b g bs) (h1 : 1 ≤ bs.length) : ∃ cap, w.cell? ⟨b, 0, none⟩ = some (.slice (some ⟨g, 0, none⟩) bs.length cap) ∧ bs.length ≤ cap ∧ cap ≤ 9223372036854775807 ∧ ReadB w (fun k => k = g) (.slice (some ⟨g, 0, none⟩) bs.length cap) bs := by
  obtain ⟨lr, ⟨rfl, e2, e3⟩ | ⟨cap, cur, e1, e2, e3, e4, e5, e6, e7⟩⟩ := h
  · simp at h1
  · exact ⟨cap, by rw [Lib.cell_of_heap e2]; rfl, e5, e6, readB_front e3 e7 rfl e5 (by omega) rfl⟩

set_option maxRecDepth 100000 in
theorem bytes_any (b g : Nat) (bs : List Int) (w : World) (h : Buf w b g bs) (h1 : 1 ≤ bs.length) (hl : bs.length ≤ 1000000) :
    Calls Tryd.prog 59 #[.pointer (some ⟨b, 0, none⟩)] w fun e w' => ∃ cap, e = .returned (.slice (some ⟨g, 0, none⟩) bs.length cap) ∧ ReadB w (fun k => k = g) (.slice (some ⟨g, 0, none⟩) bs.length cap) bs ∧ ∃ n, w' = w.drewN n := by
  have mixed : Tryd.prog.follows Departure.mixedOrders = true := by kernel_rfl
  obtain ⟨-, -, c1, -⟩ := h.c2
  obtain ⟨cap, c0, hc, hm, hR⟩ := h.read h1
  have HR := Lib.hid hR
  clear h hR
  go_enter Tryd.func59, Tryd.ntmps59
  go_wp2
  go_region_o
  all_goals (go_wp2; go_ret; exact ⟨cap, rfl, HR.out, 1, rfl⟩)
end Go.Proofs.YtangjgclpipjdaaDoor
set_option linter.unusedVariables false
namespace Go.Proofs.YtangjgclpipjdaaDoor
open Go.RowKit Go.Proofs.YtangjgclpipjdaaDoorW.PrintWords Go.Proofs.YtangjgclpipjdaaDoorW.PrintLast Go.Proofs.YtangjgclpipjdaaDoorW.PrintMore

def mLen (n : Int) : List Int :=
  if n ≤ 127 then [n] else if n ≤ 255 then [129, n] else if n ≤ 65535 then [130, n / 256, n % 256]
  else if n ≤ 16777215 then [131, n / 65536, n / 256 % 256, n % 256] else [132, n / 16777216, n / 65536 % 256, n / 256 % 256, n % 256]

theorem marshalLength_short (n : Int) (w : World) (h0 : 0 ≤ n) (h1 : n ≤ 127) : Calls Tryd.prog 66 #[.int .i64 n] w fun e w' => GotE w w' (mLen n) e := by
  have f := Lib.hid (show mLen n = [n] by unfold mLen; rw [if_pos h1])
  go_enter Tryd.func66, Tryd.ntmps66
  go_wp2
  go_ret2
  exact gotE_lit w _ [_] f.out (by simp) rfl

theorem be_cell {w : World} {g t : Nat} {xs : List Int} (h : w.heap[g]? = some (.cells (xs.map (Value.int .u8)).toArray t (0, 0))) (j : Nat) (hj : j < xs.length) : w.cell? ⟨g, j, none⟩ = some (.int .u8 (xs[j]?.getD 0)) := by
  rw [blk_cell h j]
  simp [List.getElem?_eq_getElem hj]

theorem infoU8 : (Tryd.prog.info? 5).map (fun i => i.size) = some 1 := by kernel_rfl
theorem len_src (s : Nat) (hs : s ≤ 8) {w1 : World} {g t : Nat} {xs ys : List Int} (h : w1.heap[g]? = some (.cells (xs.map (Value.int .u8)).toArray t (0, 0))) (hx : xs = List.replicate s 0 ++ ys) {o : Obj} :
    ∀ (j : Nat) (v : Value), (ys.map (Value.int .u8))[j]? = some v → (w1.alloc o).drew.cell? ((⟨g, s, none⟩ : Addr).add j) = some v := by
  intro j v hv
  have e : (⟨g, s, none⟩ : Addr).add j = ⟨g, s + j, none⟩ := by unfold Addr.add; split <;> simp_all
  rw [e, blk_cell (blk_drew (blk_alloc h o)) (s + j)]
  subst hx
  simp [List.getElem?_append] at hv ⊢
  exact hv
theorem len_end (w w4 : World) (g : Nat) (n : Int) (m : Nat) (ys : List Int) {c : Int} {cur : List Value} (hg : w.heap.size ≤ g) (hl : ys.length = m) (hm : mLen n = ((128 + m : Nat) : Int) :: ys) (hm8 : m ≤ 8) (hc : c = ((128 + m : Nat) : Int)) (hcur : cur = .int .u8 c :: List.replicate m (.int .u8 0))
    (h4 : w4.heap[g]? = some (.cells (splice cur 1 (ys.map (Value.int .u8))).toArray 5 (0, 0))) (hb : Below w.heap.size w w4) :
    GotE w w4 (mLen n) (.returned (.tuple #[.slice (some ⟨g, 0, none⟩) (m + 1) (m + 1), .nilIface])) := by
  have hlen : (mLen n).length = m + 1 := by rw [hm]; simp [hl]
  refine ⟨_, rfl, ?_, hb⟩
  rw [← hlen]
  refine OwnB.of_block h4 ?_ hg (by rw [hlen]; omega)
  rw [hm, hcur, hc]
  simp [splice, hl]
  omega
set_option maxHeartbeats 800000 in
theorem marshalLength_at (n : Int) (s : Nat) (ys : List Int) (w : World) (h0 : 128 ≤ n) (h1 : n ≤ 4294967295) (hs : s = 4 ∨ s = 5 ∨ s = 6 ∨ s = 7) (hl : ys.length = 8 - s) (hx : be64 n = List.replicate s 0 ++ ys) (hp : ys.getD 0 0 ≠ 0) (hm : mLen n = ((136 - s : Nat) : Int) :: ys) :
    Calls Tryd.prog 66 #[.int .i64 n] w fun e w' => GotE w w' (mLen n) e := by
  have hs7 : s ≤ 7 := by omega
  have HZ := Lib.hid (show ∀ j, j < s → ((be64 n)[j]?.getD 0 == 0) = true by
    intro j hj
    rw [hx]
    simp [List.getElem?_append, hj])
  have HZ2 := Lib.hid (show ((be64 n)[s]?.getD 0 == 0) = false by
    rw [hx]
    simp [List.getElem?_append] at hp ⊢
    exact hp)
  have u64 : IntKind.u64.wrap n = n := by simp [IntKind.wrap, IntKind.bits, IntKind.signed]; omega
  have HH := Lib.hid (And.intro hs (And.intro hl (And.intro hx (And.intro hp hm))))
  clear hs hl hx hp hm
  go_enter Tryd.func66, Tryd.ntmps66
  go_wp2
  go_region_with (first | (go_at_call 94; refine (PutUint64_any n (by omega) (by omega) _ 182 _ _ (blk_drew (blk_new _ _)) rfl).mono ?_; rintro e w1 ⟨rfl, hb1, hg1⟩))
  have hbel := (((Below.refl w.heap.size w).alloc (Nat.le_refl _) (.cells #[Value.int IntKind.u8 0, Value.int IntKind.u8 0, Value.int IntKind.u8 0, Value.int IntKind.u8 0, Value.int IntKind.u8 0, Value.int IntKind.u8 0, Value.int IntKind.u8 0, Value.int IntKind.u8 0] 182)).drew).grown hg1 (by simp) (fun k hk => by injection hk with hk; omega)
  have hw1 : w.heap.size < w1.heap.size := blk_lt hb1
  have HB := Lib.hid hb1
  have HBEL := Lib.hid hbel
  clear hb1 hg1 hbel
  go_wp2
  go_loop [5] (fun i => ∃ k : Nat, k ≤ s ∧ i = .int .i64 k) (fun i => 8 - (intOf i).toNat)
  case atStart => exact ⟨0, Nat.zero_le _, rfl⟩
  case round =>
    obtain ⟨k, hk, rfl⟩ := hrel
    have hc := be_cell HB.out k (by show k < 8; omega)
    by_cases hlt : k < s
    · have hzk := HZ.out k hlt
      go_wp2
      go_round
      case rel => exact ⟨k + 1, by omega, by go_num⟩
      case measure => simp [intOf]; omega
    · obtain rfl : k = s := by omega
      have hzk := HZ2.out
      have hmk5 : ∀ w, (Instr.makeSlice 26 (.int .i64 5) (.int .i64 5)).run Tryd.prog w = .ok (.slice (some ⟨w.heap.size, 0, none⟩) 5 5) (w.alloc (.cells #[.int .u8 0, .int .u8 0, .int .u8 0, .int .u8 0, .int .u8 0] 5)) := fun _ => by kernel_rfl
      have hmk4 : ∀ w, (Instr.makeSlice 26 (.int .i64 4) (.int .i64 4)).run Tryd.prog w = .ok (.slice (some ⟨w.heap.size, 0, none⟩) 4 4) (w.alloc (.cells #[.int .u8 0, .int .u8 0, .int .u8 0, .int .u8 0] 5)) := fun _ => by kernel_rfl
      have hmk3 : ∀ w, (Instr.makeSlice 26 (.int .i64 3) (.int .i64 3)).run Tryd.prog w = .ok (.slice (some ⟨w.heap.size, 0, none⟩) 3 3) (w.alloc (.cells #[.int .u8 0, .int .u8 0, .int .u8 0] 5)) := fun _ => by kernel_rfl
      have hmk2 : ∀ w, (Instr.makeSlice 26 (.int .i64 2) (.int .i64 2)).run Tryd.prog w = .ok (.slice (some ⟨w.heap.size, 0, none⟩) 2 2) (w.alloc (.cells #[.int .u8 0, .int .u8 0] 5)) := fun _ => by kernel_rfl
      obtain ⟨hs, HR⟩ := HH.out
      have HR' := Lib.hid HR
      clear HH HR hlt hk hs7 HZ HZ2
      rcases hs with rfl | rfl | rfl | rfl
      · go_wp2
        go_region_law (refine step_copy_splice rfl (.tmp 42) (.tmp 44) 26 26 rfl 5 Tryd.underlying26 infoU8 (some ⟨w1.heap.size, 1, none⟩) (some ⟨w.heap.size, 4, none⟩) 4 4 4 4 rfl rfl w1.heap.size 1 [.int .u8 (bits BinOp.or IntKind.i64 128 4 % 256), .int .u8 0, .int .u8 0, .int .u8 0, .int .u8 0] 5 (blk_drew (blk_new _ _)) (ys.map (Value.int .u8)) (by rw [List.length_map, HR'.out.1]; rfl) (fun _ => ⟨rfl, _, rfl, len_src 4 (by omega) HB.out HR'.out.2.1⟩) (by rw [List.length_map, HR'.out.1]; decide) (by simp [Value.oneCell']) w.heap.size w (below_drew (HBEL.out.alloc (by omega) _)) (by omega) ?_; intro w4 hg4 hb4)
        go_wp2
        go_ret2
        exact len_end w w4 w1.heap.size n 4 ys (by omega) HR'.out.1 HR'.out.2.2.2 (by decide) (by rfl) (by rfl) hg4.out hb4
      · go_wp2
        go_region_law (refine step_copy_splice rfl (.tmp 42) (.tmp 44) 26 26 rfl 5 Tryd.underlying26 infoU8 (some ⟨w1.heap.size, 1, none⟩) (some ⟨w.heap.size, 5, none⟩) 3 3 3 3 rfl rfl w1.heap.size 1 [.int .u8 (bits BinOp.or IntKind.i64 128 3 % 256), .int .u8 0, .int .u8 0, .int .u8 0] 5 (blk_drew (blk_new _ _)) (ys.map (Value.int .u8)) (by rw [List.length_map, HR'.out.1]; rfl) (fun _ => ⟨rfl, _, rfl, len_src 5 (by omega) HB.out HR'.out.2.1⟩) (by rw [List.length_map, HR'.out.1]; decide) (by simp [Value.oneCell']) w.heap.size w (below_drew (HBEL.out.alloc (by omega) _)) (by omega) ?_; intro w4 hg4 hb4)
        go_wp2
        go_ret2
        exact len_end w w4 w1.heap.size n 3 ys (by omega) HR'.out.1 HR'.out.2.2.2 (by decide) (by rfl) (by rfl) hg4.out hb4
      · go_wp2
        go_region_law (refine step_copy_splice rfl (.tmp 42) (.tmp 44) 26 26 rfl 5 Tryd.underlying26 infoU8 (some ⟨w1.heap.size, 1, none⟩) (some ⟨w.heap.size, 6, none⟩) 2 2 2 2 rfl rfl w1.heap.size 1 [.int .u8 (bits BinOp.or IntKind.i64 128 2 % 256), .int .u8 0, .int .u8 0] 5 (blk_drew (blk_new _ _)) (ys.map (Value.int .u8)) (by rw [List.length_map, HR'.out.1]; rfl) (fun _ => ⟨rfl, _, rfl, len_src 6 (by omega) HB.out HR'.out.2.1⟩) (by rw [List.length_map, HR'.out.1]; decide) (by simp [Value.oneCell']) w.heap.size w (below_drew (HBEL.out.alloc (by omega) _)) (by omega) ?_; intro w4 hg4 hb4)
        go_wp2
        go_ret2
        exact len_end w w4 w1.heap.size n 2 ys (by omega) HR'.out.1 HR'.out.2.2.2 (by decide) (by rfl) (by rfl) hg4.out hb4
      · go_wp2
        go_region_law (refine step_copy_splice rfl (.tmp 42) (.tmp 44) 26 26 rfl 5 Tryd.underlying26 infoU8 (some ⟨w1.heap.size, 1, none⟩) (some ⟨w.heap.size, 7, none⟩) 1 1 1 1 rfl rfl w1.heap.size 1 [.int .u8 (bits BinOp.or IntKind.i64 128 1 % 256), .int .u8 0] 5 (blk_drew (blk_new _ _)) (ys.map (Value.int .u8)) (by rw [List.length_map, HR'.out.1]; rfl) (fun _ => ⟨rfl, _, rfl, len_src 7 (by omega) HB.out HR'.out.2.1⟩) (by rw [List.length_map, HR'.out.1]; decide) (by simp [Value.oneCell']) w.heap.size w (below_drew (HBEL.out.alloc (by omega) _)) (by omega) ?_; intro w4 hg4 hb4)
        go_wp2
        go_ret2
        exact len_end w w4 w1.heap.size n 1 ys (by omega) HR'.out.1 HR'.out.2.2.2 (by decide) (by rfl) (by rfl) hg4.out hb4

theorem marshalLength_any (n : Int) (w : World) (h0 : 0 ≤ n) (h1 : n ≤ 4294967295) : Calls Tryd.prog 66 #[.int .i64 n] w fun e w' => GotE w w' (mLen n) e := by
  by_cases c0 : n ≤ 127
  · exact marshalLength_short n w h0 c0
  by_cases c1 : n ≤ 255
  · have hm : mLen n = [129, n] := by unfold mLen; rw [if_neg c0, if_pos c1]
    exact marshalLength_at n 7 [n] w (by omega) h1 (by omega) rfl (by unfold be64; simp; omega) (by simp; omega) (by rw [hm]; rfl)
  by_cases c2 : n ≤ 65535
  · have hm : mLen n = [130, n / 256, n % 256] := by unfold mLen; rw [if_neg c0, if_neg c1, if_pos c2]
    exact marshalLength_at n 6 [n / 256, n % 256] w (by omega) h1 (by omega) rfl (by unfold be64; simp; omega) (by simp; omega) (by rw [hm]; rfl)
  by_cases c3 : n ≤ 16777215
  · have hm : mLen n = [131, n / 65536, n / 256 % 256, n % 256] := by unfold mLen; rw [if_neg c0, if_neg c1, if_neg c2, if_pos c3]
    exact marshalLength_at n 5 [n / 65536, n / 256 % 256, n % 256] w (by omega) h1 (by omega) rfl (by unfold be64; simp; omega) (by simp; omega) (by rw [hm]; rfl)
  · have hm : mLen n = [132, n / 16777216, n / 65536 % 256, n / 256 % 256, n % 256] := by unfold mLen; rw [if_neg c0, if_neg c1, if_neg c2, if_neg c3]
    exact marshalLength_at n 4 [n / 16777216, n / 65536 % 256, n / 256 % 256, n % 256] w (by omega) h1 (by omega) rfl (by unfold be64; simp; omega) (by simp; omega) (by rw [hm]; rfl)
end Go.Proofs.YtangjgclpipjdaaDoor
set_option linter.unusedVariables false
namespace Go.Proofs.YtangjgclpipjdaaDoor
open Go.RowKit Go.Proofs.YtangjgclpipjdaaDoorW.PrintWords Go.Proofs.YtangjgclpipjdaaDoorW.PrintLast Go.Proofs.YtangjgclpipjdaaDoorW.PrintMore

theorem mLen_sLen0 (n : Int) (h0 : 0 ≤ n) (h1 : n ≤ 4294967295) : mLen n = sLen n 0 := by
  unfold mLen sLen lenBytes
  by_cases c0 : n ≤ 127
  · rw [if_pos c0, if_pos (by omega)]
  have e1 : ¬ (n < 128 ∧ 0 = 0) := by omega
  have e2 : ¬ n ≤ 0 := by omega
  rw [if_neg e1]
  simp only [if_neg c0, if_neg e2]
  by_cases c1 : n ≤ 255
  · simp only [if_pos c1]; rfl
  simp only [if_neg c1]
  by_cases c2 : n ≤ 65535
  · simp only [if_pos c2]; rfl
  simp only [if_neg c2]
  by_cases c3 : n ≤ 16777215
  · simp only [if_pos c3]; rfl
  simp only [if_neg c3]; rfl
theorem ReadB.bound {w : World} {ok : Nat → Prop} {v : Value} {xs : List Int} (h : ReadB w ok v xs) : ReadB w (fun k => ok k ∧ k < w.heap.size) v xs := by
  obtain ⟨A, c, rfl, hl, hC⟩ := h
  exact ⟨A, c, rfl, hl, fun W hW => hC W (fun k hk hlt => hW k ⟨hk, hlt⟩ hlt)⟩
theorem not_ok {w : World} {ok : Nat → Prop} {g g2 : Nat} (hg : ¬ ok g) (h : g2 = g ∨ w.heap.size ≤ g2) : ¬ (ok g2 ∧ g2 < w.heap.size) := by
  rintro ⟨h1, h2⟩
  rcases h with rfl | h
  · exact hg h1
  · omega
theorem Wrote.after {w w1 w2 : World} {b g g1 : Nat} {ys : List Int} (K1 : KB w w1 b g) (hg1 : g1 = g ∨ w.heap.size ≤ g1) (h : Wrote w1 w2 b g1 ys) : Wrote w w2 b g ys := by
  obtain ⟨K2, g2, B2, hg2⟩ := h
  exact ⟨K1.trans K2 hg1, g2, B2, by have := K1.size; omega⟩
theorem Wrote.pre {w w1 w2 : World} {b g : Nat} {ys : List Int} (hb : Below w.heap.size w w1) (h : Wrote w1 w2 b g ys) : Wrote w w2 b g ys := by
  obtain ⟨K2, g2, B2, hg2⟩ := h
  exact ⟨KB.pre hb K2, g2, B2, by have := hb.size; omega⟩
theorem OwnB.within {W : World} {B : Nat} {v : Value} {xs : List Int} (h : OwnB W B v xs) : ReadB W (fun k => B ≤ k ∧ k < W.heap.size) v xs := Kd.R_V (base' := 0) (Kd.R_mono (Kd.R_bound h) (fun _ hk => ⟨hk.2.1, hk.2.2.1⟩))
theorem mLen_len (n : Int) : (mLen n).length ≤ 5 := by
  unfold mLen
  repeat' split
  all_goals simp

set_option maxRecDepth 100000 in
set_option maxHeartbeats 4000000 in
theorem tlv_any (b g : Nat) (bs ys : List Int) (tag : Int) (A : Option Addr) (n c : Nat) (ok : Nat → Prop) (w : World) (h : Buf w b g bs) (hv : ReadB w ok (.slice A n c) ys) (hb : ¬ ok b) (hg : ¬ ok g) (hn : ys.length = n) (t0 : 0 ≤ tag) (t1 : tag ≤ 255) (hl : bs.length + n ≤ 900000) :
    Calls Tryd.prog 57 #[.pointer (some ⟨b, 0, none⟩), .int .u8 tag, .slice A n c] w fun e w' => e = .returned .nilIface ∧ Wrote w w' b g (bs ++ sSealed tag ys 0) := by
  have hlt := h.lt
  have hes : bs ++ sSealed tag ys 0 = bs ++ [tag] ++ mLen n ++ ys := by
    unfold sSealed
    rw [hn, ← mLen_sLen0 n (by omega) (by omega), show tag % 256 = tag by omega]
    simp
  have hml := mLen_len n
  rw [hes]
  have HH := Lib.hid (And.intro h hv)
  clear h hv hes
  go_enter Tryd.func57, Tryd.ntmps57
  go_wp2_with fail
  refine (marshalLength_any n w (by omega) (by omega)).mono ?_
  rintro e w1 ⟨v, rfl, ho, hbw⟩
  obtain ⟨A2, c2, rfl, hc2⟩ := Kd.R_slice ho
  have hL := OwnB.within ho
  have hB1 := HH.out.1.below hbw
  have hV1 := (HH.out.2.bound).below hbw
  have HS := Lib.hid (And.intro hL (And.intro hB1 (And.intro hV1 hbw)))
  clear ho hbw HH hL hB1 hV1
  go_wp2_with fail
  refine (writeByte_any b g bs tag w1 HS.out.2.1 (by omega)).mono ?_
  rintro e w2 ⟨rfl, K2, g2, B2, hg2⟩
  have hs1 := HS.out.2.2.2.size
  have hL2 := K2.read HS.out.1 (by omega) (by omega)
  have hV2 := K2.read HS.out.2.2.1 (by rintro ⟨h1, -⟩; exact hb h1) (by rintro ⟨h1, -⟩; exact hg h1)
  have hbg2 := B2.lt
  have HS2 := Lib.hid (And.intro hL2 (And.intro B2 (And.intro hV2 (And.intro HS.out.2.2.2 (And.intro K2 hg2)))))
  clear HS hL2 B2 hV2 K2
  go_wp2_with fail
  refine (write_any b g2 (bs ++ [tag]) (mLen n) A2 _ c2 _ w2 HS2.out.2.1 HS2.out.1 (by omega) (by omega) rfl (by simp; omega) (by simp; omega)).mono ?_
  rintro e w3 ⟨rfl, K3, g3, B3, hg3⟩
  have hV3 := K3.read HS2.out.2.2.1 (by rintro ⟨h1, -⟩; exact hb h1) (not_ok hg (by omega))
  have hs2 := HS2.out.2.2.2.2.1.size
  have HS3 := Lib.hid (And.intro B3 (And.intro hV3 (And.intro HS2.out.2.2.2.1 (And.intro HS2.out.2.2.2.2.1 K3))))
  clear HS2 B3 hV3 K3
  go_wp2_with fail
  refine (write_any b g3 (bs ++ [tag] ++ mLen n) ys A n c _ w3 HS3.out.1 HS3.out.2.1 (by rintro ⟨h1, -⟩; exact hb h1) (not_ok hg (by omega)) hn (by simp; omega) (by simp; omega)).mono ?_
  rintro e w4 ⟨rfl, hW⟩
  have HF := Lib.hid (((hW.after HS3.out.2.2.2.2 hg3).after HS3.out.2.2.2.1 hg2).pre HS3.out.2.2.1)
  clear hW HS3
  go_wp2
  go_ret
  exact ⟨rfl, HF.out⟩
end Go.Proofs.YtangjgclpipjdaaDoor
