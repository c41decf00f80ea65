/- net/netip: an address of four bytes made and told. net/netip: an address of four bytes told; zzAddress. net/netip: AddrFrom4, AddrFromSlice, String; zzAddress: the walks. -/
import Derived.Test.YtangjgclpipjdaaDoorVD
import Derived.LaidEql
import Derived.Laws.Pointers
import Derived.Test.YtangjgclpipjdaaDoorVB
set_option linter.unusedVariables false
namespace Go.Proofs.YtangjgclpipjdaaDoor
open Go.RowKit Go.Proofs.YtangjgclpipjdaaDoorW.PrintWords Go.Proofs.YtangjgclpipjdaaDoorW.PrintLast Go.Proofs.YtangjgclpipjdaaDoorW.PrintMore

/-- netip.Addr as a value: a version 4 address of the number n. -/
abbrev ipV (n : Int) (z : Addr) : Value := .agg #[.int .u64 0, .int .u64 (281470681743360 + n), .pointer (some z)]
/-- The package's variables z4, z0. -/
def ZTab (z : Addr) (w : World) : Prop := w.cell? ⟨13, 0, none⟩ = some (.pointer (some z)) ∧ w.cell? ⟨9, 0, none⟩ = some (.pointer none)
theorem cell_up' {W W' : World} {a : Addr} {v : Value} (c : W.cell? a = some v) (hb : Below W.heap.size W W') : W'.cell? a = some v := (hb.cell (World.block_lt_of_cell? _ _ c)).trans c
theorem ZTab.on {z : Addr} {w w' : World} (h : ZTab z w) (hb : Below w.heap.size w w') : ZTab z w' := ⟨cell_up' h.1 hb, cell_up' h.2 hb⟩

theorem cell_al {W : World} {a : Addr} {v : Value} (c : W.cell? a = some v) (o : Obj) : (W.alloc o).cell? a = some v := cell_up' c ((Below.refl _ _).alloc (Nat.le_refl _) o)
abbrev ipO (n : Int) (z : Addr) : Obj := .cells #[.int .u64 0, .int .u64 (281470681743360 + n), .pointer (some z)] 158
def ip4 (a b c d : Int) : Int := a * 16777216 + b * 65536 + c * 256 + d

theorem eq_nil (d : Nat) (W : World) : ∀ a : Addr, (Op.equalIn (d + 1) 154 (.pointer (some a)) (.pointer none)).run Tryd.prog W = .ok false W := fun a =>
  (run_equalIn_pointer_nil (P := Tryd.prog) W d 154 (some a) (by kernel_rfl)).trans rfl
theorem eq_self (d : Nat) (W : World) : ∀ a : Addr, (Op.equalIn (d + 1) 154 (.pointer (some a)) (.pointer (some a))).run Tryd.prog W = .ok true W := fun a => by
  have h := Tryd.underlying154
  obtain ⟨i, hi⟩ := Option.isSome_iff_exists.1 (show (Tryd.prog.info? 201).isSome = true by kernel_rfl)
  simp [Op.equalIn, run_underlying h, sizeOf, typeInfo, hi, Result.andThen, run_sameAddr_same]
theorem OwnB.blk {w : World} {B : Nat} {v : Value} {xs : List Int} (h : OwnB w B v xs) (k : Nat) (hk : v.ownBlock = some k) : B ≤ k := ((Kd.R_bound h).1 k hk).2.1
theorem v4_any (a b c d : Int) (z : Addr) (i x : Int) (w : World) (ha : 0 ≤ a ∧ a ≤ 255) (hb : 0 ≤ b ∧ b ≤ 255) (hc : 0 ≤ c ∧ c ≤ 255) (hd : 0 ≤ d ∧ d ≤ 255) (hi : (i = 0 ∧ x = a) ∨ (i = 1 ∧ x = b) ∨ (i = 2 ∧ x = c) ∨ (i = 3 ∧ x = d)) : Calls Tryd.prog 142 #[ipV (ip4 a b c d) z, .int .u8 i] w fun e w' => e = .returned (.int .u8 x) ∧ Below w.heap.size w w' := by
  obtain ⟨n, hn⟩ : ∃ n, n = ip4 a b c d := ⟨_, rfl⟩
  rw [← hn]
  have HN := Lib.hid (hn.trans (by unfold ip4; rfl : ip4 a b c d = a * 16777216 + b * 65536 + c * 256 + d))
  clear hn
  rcases hi with ⟨rfl, rfl⟩ | ⟨rfl, rfl⟩ | ⟨rfl, rfl⟩ | ⟨rfl, rfl⟩
  all_goals
    go_enter Tryd.func142, Tryd.ntmps142
    go_wp2
    go_ret
    have h := HN.out
    exact ⟨congrArg (fun t => Ending.returned (Value.int .u8 t)) (by omega), (Below.refl _ _).alloc (Nat.le_refl _) _⟩
set_option maxRecDepth 100000 in
theorem isValid_any (n : Int) (z : Addr) (w : World) (hz : ZTab z w) : Calls Tryd.prog 120 #[ipV n z] w fun e w' => e = .returned (.bool true) ∧ Below w.heap.size w w' := by
  have z1 := cell_al hz.1 (ipO n z)
  have z2 := cell_al hz.2 (ipO n z)
  have q1 := fun W => eq_nil 9998 W z
  have q2 := fun W => eq_self 9998 W z
  simp only [Nat.reduceAdd] at q1 q2
  go_enter Tryd.func120, Tryd.ntmps120
  go_wp2
  go_ret
  exact ⟨rfl, (Below.refl _ _).alloc (Nat.le_refl _) _⟩
set_option maxRecDepth 100000 in
theorem is6_any (n : Int) (z : Addr) (w : World) (hz : ZTab z w) : Calls Tryd.prog 140 #[ipV n z] w fun e w' => e = .returned (.bool false) ∧ Below w.heap.size w w' := by
  have z1 := cell_al hz.1 (ipO n z)
  have z2 := cell_al hz.2 (ipO n z)
  have q1 := fun W => eq_nil 9998 W z
  have q2 := fun W => eq_self 9998 W z
  simp only [Nat.reduceAdd] at q1 q2
  go_enter Tryd.func140, Tryd.ntmps140
  go_wp2
  go_ret
  exact ⟨rfl, (Below.refl _ _).alloc (Nat.le_refl _) _⟩
theorem is4In6_any (n : Int) (z : Addr) (w : World) (hz : ZTab z w) : Calls Tryd.prog 119 #[ipV n z] w fun e w' => e = .returned (.bool false) ∧ Below w.heap.size w w' := by
  have hz2 := hz.on ((Below.refl w.heap.size w).alloc (Nat.le_refl _) (ipO n z))
  have HZ := Lib.hid hz2
  clear hz hz2
  go_enter Tryd.func119, Tryd.ntmps119
  go_wp2_with fail
  refine (is6_any n z _ HZ.out).mono ?_
  rintro e w1 ⟨rfl, hb⟩
  have HB := Lib.hid (below_step ((Below.refl w.heap.size w).alloc (Nat.le_refl _) (ipO n z)) hb)
  clear hb
  go_wp2
  go_ret
  exact ⟨rfl, HB.out⟩
theorem unmap_any (n : Int) (z : Addr) (w : World) (hz : ZTab z w) : Calls Tryd.prog 100 #[ipV n z] w fun e w' => e = .returned (ipV n z) ∧ Below w.heap.size w w' := by
  have b1 := ((Below.refl w.heap.size w).alloc (Nat.le_refl _) (ipO n z)).alloc (by simp) (.cells #[.int .u64 0, .int .u64 0, .pointer none] 158)
  have hz2 := hz.on b1
  have hp : ((w.alloc (ipO n z)).alloc (.cells #[.int .u64 0, .int .u64 0, .pointer none] 158)).heap[w.heap.size]? = some (ipO n z) := blk_alloc (blk_new w (ipO n z)) _
  have hr : ((w.alloc (ipO n z)).alloc (.cells #[.int .u64 0, .int .u64 0, .pointer none] 158)).heap[w.heap.size + 1]? = some (.cells #[.int .u64 0, .int .u64 0, .pointer none] 158) := by
    have := blk_new (w.alloc (ipO n z)) (.cells #[.int .u64 0, .int .u64 0, .pointer none] 158)
    rw [show (w.alloc (ipO n z)).heap.size = w.heap.size + 1 by simp] at this
    exact this
  have HZ := Lib.hid (And.intro hz2 (And.intro b1 (And.intro hp hr)))
  clear hz hz2 b1 hp hr
  go_enter Tryd.func100, Tryd.ntmps100
  go_wp2_with fail
  refine (is4In6_any n z _ HZ.out.1).mono ?_
  rintro e w1 ⟨rfl, hb⟩
  have hp := blk_below HZ.out.2.2.1 hb
  have hr := blk_below HZ.out.2.2.2 hb
  have HB := Lib.hid (And.intro (below_step HZ.out.2.1 hb) hr)
  have p0 : w1.cell? ⟨w.heap.size, 0, none⟩ = some (.int .u64 0) := (blk_cell hp 0).trans rfl
  have p1 : w1.cell? ⟨w.heap.size, 1, none⟩ = some (.int .u64 (281470681743360 + n)) := (blk_cell hp 1).trans rfl
  have p2 : w1.cell? ⟨w.heap.size, 2, none⟩ = some (.pointer (some z)) := (blk_cell hp 2).trans rfl
  have r0 : w1.cell? ⟨w.heap.size + 1, 0, none⟩ = some (.int .u64 0) := (blk_cell hr 0).trans rfl
  have r1 : w1.cell? ⟨w.heap.size + 1, 1, none⟩ = some (.int .u64 0) := (blk_cell hr 1).trans rfl
  have r2 : w1.cell? ⟨w.heap.size + 1, 2, none⟩ = some (.pointer none) := (blk_cell hr 2).trans rfl
  have f0 := blk_frozen hr 0
  have f1 := blk_frozen hr 1
  have f2 := blk_frozen hr 2
  clear hb hp hr HZ
  go_wp2
  have q0 := blk_put (cs' := #[.int .u64 0, .int .u64 0, .pointer none]) HB.out.2 0 (.int .u64 0) rfl
  have q1 := blk_put (cs' := #[.int .u64 0, .int .u64 (281470681743360 + n), .pointer none]) q0 1 (.int .u64 (281470681743360 + n)) rfl
  have q2 := blk_put (cs' := #[.int .u64 0, .int .u64 (281470681743360 + n), .pointer (some z)]) q1 2 (.pointer (some z)) rfl
  exact bodyPost_ret (results_cell_row rfl _ _ (w.heap.size + 1) 158 #[.int .u64 0, .int .u64 (281470681743360 + n), .pointer (some z)] (0, 0) _ rfl q2 Tryd.underlying158 rfl (by kernel_rfl)) rfl ⟨rfl, below_set (below_set (below_set HB.out.1 (by omega)) (by omega)) (by omega)⟩
/-- From w to w' the slice v has become v' by appending alone: its own block may have turned, no other old one; the new slice lies where the old one lay or in new memory. -/
def App (w : World) (v : Value) (w' : World) (v' : Value) : Prop := w.grownBy w' v.ownBlock ∧ (v'.ownBlock = v.ownBlock ∨ ∃ b, v'.ownBlock = some b ∧ w.heap.size ≤ b)
theorem App.app {W w1 : World} {v v1 : Value} {o : Obj} (hg : (W.alloc o).grownBy w1 v.ownBlock) (hat : v1.ownBlock = v.ownBlock ∨ ∃ b, v1.ownBlock = some b ∧ (W.alloc o).heap.size ≤ b) : App W v w1 v1 :=
  ⟨(World.grownBy_alloc W o _).trans hg, hat.imp id (fun ⟨b, h1, h2⟩ => ⟨b, h1, by simp at h2; omega⟩)⟩
theorem App.trans {w w1 w2 : World} {v v1 v2 : Value} (h : App w v w1 v1) (k : App w1 v1 w2 v2) : App w v w2 v2 := by
  refine ⟨⟨k.1.os.trans h.1.os, k.1.tape.trans h.1.tape, k.1.output.trans h.1.output, Nat.le_trans h.1.size k.1.size, fun b hb hne => (k.1.block b (Nat.lt_of_lt_of_le hb h.1.size) ?_).trans (h.1.block b hb hne)⟩, ?_⟩
  · rcases h.2 with e | ⟨b', e, hb'⟩
    · rw [e]; exact hne
    · rw [e]; intro h; injection h with h; omega
  · rcases k.2 with e | ⟨b', e, hb'⟩
    · rw [e]; exact h.2
    · exact .inr ⟨b', e, Nat.le_trans h.1.size hb'⟩
theorem App.below {B : Nat} {w w' : World} {v v' : Value} {xs : List Int} (h : App w v w' v') (ho : OwnB w B v xs) (hB : B ≤ w.heap.size) : Below B w w' := (Below.refl B w).grown h.1 hB (fun k hk => OwnB.blk ho k hk)
theorem App.refl (w : World) (v : Value) : App w v w v := ⟨⟨rfl, rfl, rfl, Nat.le_refl _, fun _ _ _ => rfl⟩, .inl rfl⟩
theorem dig (j : Nat) (h9 : j ≤ 9) (h : j < ByteArray.size ⟨#[48, 49, 50, 51, 52, 53, 54, 55, 56, 57, 97, 98, 99, 100, 101, 102]⟩) : (((⟨#[48, 49, 50, 51, 52, 53, 54, 55, 56, 57, 97, 98, 99, 100, 101, 102]⟩ : ByteArray)[j]'h).toNat : Int) = 48 + j := by
  match j, h9 with
  | 0, _ => rfl
  | 1, _ => rfl
  | 2, _ => rfl
  | 3, _ => rfl
  | 4, _ => rfl
  | 5, _ => rfl
  | 6, _ => rfl
  | 7, _ => rfl
  | 8, _ => rfl
  | 9, _ => rfl
set_option maxRecDepth 100000 in
theorem appendDecimal_any (B : Nat) (x : Int) (x0 : 0 ≤ x) (x1 : x ≤ 255) (v : Value) (xs : List Int) (w : World) (ho : OwnB w B v xs) (hB : B ≤ w.heap.size) (hl : xs.length ≤ 1000) :
    Calls Tryd.prog 141 #[v, .int .u8 x] w fun e w' => ∃ v', e = .returned v' ∧ OwnB w' B v' (xs ++ dec x.toNat) ∧ App w v w' v' := by
  obtain ⟨A, c, rfl, hcc, hC⟩ := Kd.R_reads ho
  have HO := Lib.hid ho
  clear ho hC
  have hj : (x % 10).toNat ≤ 9 := by omega
  have hd0 := dec_step x.toNat
  have hd1 := dec_step (x.toNat / 10)
  have hd2 := dec_step (x.toNat / 10 / 10)
  have e0 : ((48 + x.toNat % 10 : Nat) : Int) = 48 + ((x % 10).toNat : Int) := by omega
  have e1 : ((48 + x.toNat / 10 % 10 : Nat) : Int) = 48 + ((x / 10 % 10).toNat : Int) := by omega
  by_cases h100 : 100 ≤ x
  · have e2 : ((48 + x.toNat / 10 / 10 % 10 : Nat) : Int) = 48 + ((x / 100).toNat : Int) := by omega
    rw [if_neg (by omega), e0] at hd0
    rw [if_neg (by omega), e1] at hd1
    rw [if_pos (by omega), e2] at hd2
    have HD := Lib.hid (show dec x.toNat = [48 + ((x / 100).toNat : Int)] ++ [48 + ((x / 10 % 10).toNat : Int)] ++ [48 + ((x % 10).toNat : Int)] by rw [hd0, hd1, hd2]; rfl)
    clear hd0 hd1 hd2 e0 e1 e2
    go_enter Tryd.func141, Tryd.ntmps141
    go_wp2_with (at_builtin; refine app_bytes rfl (.tmp 7) (.tmp 11) 26 rfl Tryd.underlying26 infoB B (.slice A xs.length c) xs [48 + (x / 100).toNat] (some ⟨w.heap.size, 0, none⟩) 1 1 rfl rfl (Kd.R_alloc HO.out _) (lit_C w [48 + (x / 100).toNat] 1 rfl (by simp) (by show [Value.int .u8 _] = [Value.int .u8 _]; rw [dig _ (by omega)])) (by simp; omega) (by omega) ?_; intro v1 w1 ho1 hg1 hat1; refine Hid.out ?_)
    have b1 : App w (.slice A xs.length c) w1 v1 := App.app hg1 hat1
    have hs1 := b1.1.size
    obtain ⟨A1, c1, rfl, hcc1, -⟩ := Kd.R_reads ho1
    have HO1 := Lib.hid (And.intro ho1 b1)
    have hl1 : (xs ++ [48 + ((x / 100).toNat : Int)]).length ≤ 1001 := by simp; omega
    obtain ⟨xs1, hx1⟩ : ∃ xs1, xs1 = xs ++ [48 + ((x / 100).toNat : Int)] := ⟨_, rfl⟩
    rw [← hx1] at HO1 hcc1 hl1 ⊢
    have HX1 := Lib.hid hx1
    clear hx1
    clear ho1 b1 hg1 hat1
    refine Lib.hid ?_
    go_wp2_with (at_builtin; refine app_bytes rfl (.tmp 15) (.tmp 20) 26 rfl Tryd.underlying26 infoB B (.slice A1 xs1.length c1) xs1 [48 + (x / 10 % 10).toNat] (some ⟨w1.heap.size, 0, none⟩) 1 1 rfl rfl (Kd.R_alloc HO1.out.1 _) (lit_C w1 [48 + (x / 10 % 10).toNat] 1 rfl (by simp) (by show [Value.int .u8 _] = [Value.int .u8 _]; rw [dig _ (by omega)])) (by simp; omega) (by omega) ?_; intro v2 w2 ho2 hg2 hat2; refine Hid.out ?_)
    have b2 := HO1.out.2.trans (App.app hg2 hat2)
    have hs2 := b2.1.size
    obtain ⟨A2, c2, rfl, hcc2, -⟩ := Kd.R_reads ho2
    have HO2 := Lib.hid (And.intro ho2 b2)
    have hl2 : (xs1 ++ [48 + ((x / 10 % 10).toNat : Int)]).length ≤ 1002 := by simp; omega
    have HX2 := Lib.hid (show xs1 ++ [48 + ((x / 10 % 10).toNat : Int)] ++ [48 + ((x % 10).toNat : Int)] = xs ++ dec x.toNat by rw [HD.out, HX1.out]; simp)
    generalize xs1 ++ [48 + ((x / 10 % 10).toNat : Int)] = xs2 at *
    clear ho2 b2 hg2 hat2
    refine Lib.hid ?_
    go_wp2_with (at_builtin; refine app_bytes rfl (.tmp 22) (.tmp 26) 26 rfl Tryd.underlying26 infoB B (.slice A2 xs2.length c2) xs2 [48 + (x % 10).toNat] (some ⟨w2.heap.size, 0, none⟩) 1 1 rfl rfl (Kd.R_alloc HO2.out.1 _) (lit_C w2 [48 + (x % 10).toNat] 1 rfl (by simp) (by show [Value.int .u8 _] = [Value.int .u8 _]; rw [dig _ (by omega)])) (by simp; omega) (by omega) ?_; intro v3 w3 ho3 hg3 hat3)
    go_ret
    have b3 := HO2.out.2.trans (App.app hg3 hat3)
    exact ⟨_, rfl, by rw [← HX2.out]; exact ho3, b3⟩
  by_cases h10 : 10 ≤ x
  · rw [if_neg (by omega), e0] at hd0
    rw [if_pos (by omega), e1] at hd1
    have e10 : x / 10 % 10 = x / 10 := by omega
    have HD := Lib.hid (show dec x.toNat = [48 + ((x / 10 % 10).toNat : Int)] ++ [48 + ((x % 10).toNat : Int)] by rw [hd0, hd1]; rfl)
    clear hd0 hd1 hd2 e0 e1 e10
    obtain ⟨xs1, HX1⟩ : ∃ xs1, Hid (xs1 = xs) := ⟨_, Lib.hid rfl⟩
    have HO1 : Hid (OwnB w B (.slice A xs1.length c) xs1 ∧ App w (.slice A xs1.length c) w (.slice A xs1.length c)) := Lib.hid (by rw [HX1.out]; exact ⟨HO.out, App.refl _ _⟩)
    have hl1 : xs1.length ≤ 1000 := by rw [HX1.out]; exact hl
    have hlx : xs.length = xs1.length := by rw [HX1.out]
    rw [hlx] at *
    clear hlx HO
    have hn100 : ¬ (100 ≤ x) := h100
    go_enter Tryd.func141, Tryd.ntmps141
    go_wp2_with (at_builtin; refine app_bytes rfl (.tmp 15) (.tmp 20) 26 rfl Tryd.underlying26 infoB B (.slice A xs1.length c) xs1 [48 + (x / 10 % 10).toNat] (some ⟨w.heap.size, 0, none⟩) 1 1 rfl rfl (Kd.R_alloc HO1.out.1 _) (lit_C w [48 + (x / 10 % 10).toNat] 1 rfl (by simp) (by show [Value.int .u8 _] = [Value.int .u8 _]; rw [dig _ (by omega)])) (by simp; omega) (by omega) ?_; intro v2 w2 ho2 hg2 hat2; refine Hid.out ?_)
    have b2 := HO1.out.2.trans (App.app hg2 hat2)
    have hs2 := b2.1.size
    obtain ⟨A2, c2, rfl, hcc2, -⟩ := Kd.R_reads ho2
    have HO2 := Lib.hid (And.intro ho2 b2)
    have hl2 : (xs1 ++ [48 + ((x / 10 % 10).toNat : Int)]).length ≤ 1002 := by simp; omega
    have HX2 := Lib.hid (show xs1 ++ [48 + ((x / 10 % 10).toNat : Int)] ++ [48 + ((x % 10).toNat : Int)] = xs ++ dec x.toNat by rw [HD.out, HX1.out]; simp)
    generalize xs1 ++ [48 + ((x / 10 % 10).toNat : Int)] = xs2 at *
    clear ho2 b2 hg2 hat2
    refine Lib.hid ?_
    go_wp2_with (at_builtin; refine app_bytes rfl (.tmp 22) (.tmp 26) 26 rfl Tryd.underlying26 infoB B (.slice A2 xs2.length c2) xs2 [48 + (x % 10).toNat] (some ⟨w2.heap.size, 0, none⟩) 1 1 rfl rfl (Kd.R_alloc HO2.out.1 _) (lit_C w2 [48 + (x % 10).toNat] 1 rfl (by simp) (by show [Value.int .u8 _] = [Value.int .u8 _]; rw [dig _ (by omega)])) (by simp; omega) (by omega) ?_; intro v3 w3 ho3 hg3 hat3)
    go_ret
    have b3 := HO2.out.2.trans (App.app hg3 hat3)
    exact ⟨_, rfl, by rw [← HX2.out]; exact ho3, b3⟩
  · rw [if_pos (by omega), e0] at hd0
    have HD := Lib.hid (show dec x.toNat = [48 + ((x % 10).toNat : Int)] by rw [hd0]; rfl)
    clear hd0 hd1 hd2 e0 e1
    go_enter Tryd.func141, Tryd.ntmps141
    go_wp2_with (at_builtin; refine app_bytes rfl (.tmp 22) (.tmp 26) 26 rfl Tryd.underlying26 infoB B (.slice A xs.length c) xs [48 + (x % 10).toNat] (some ⟨w.heap.size, 0, none⟩) 1 1 rfl rfl (Kd.R_alloc HO.out _) (lit_C w [48 + (x % 10).toNat] 1 rfl (by simp) (by show [Value.int .u8 _] = [Value.int .u8 _]; rw [dig _ (by omega)])) (by simp; omega) (by omega) ?_; intro v3 w3 ho3 hg3 hat3)
    go_ret
    have b3 : App w (.slice A xs.length c) w3 v3 := App.app hg3 hat3
    exact ⟨_, rfl, by rw [HD.out]; exact ho3, b3⟩
end Go.Proofs.YtangjgclpipjdaaDoor
set_option linter.unusedVariables false
namespace Go.Proofs.YtangjgclpipjdaaDoor
open Go.RowKit Go.Proofs.YtangjgclpipjdaaDoorW.PrintWords Go.Proofs.YtangjgclpipjdaaDoorW.PrintLast Go.Proofs.YtangjgclpipjdaaDoorW.PrintMore

theorem ip_cells {W : World} {g : Nat} {n : Int} {z : Addr} (h : W.heap[g]? = some (ipO n z)) : W.cell? ⟨g, 0, none⟩ = some (.int .u64 0) ∧ W.cell? ⟨g, 1, none⟩ = some (.int .u64 (281470681743360 + n)) ∧ W.cell? ⟨g, 2, none⟩ = some (.pointer (some z)) :=
  ⟨(blk_cell h 0).trans rfl, (blk_cell h 1).trans rfl, (blk_cell h 2).trans rfl⟩
/-- Where appendTo4 stands: the receiver's block, the row, how it came about since W0. -/
structure T4 (W0 : World) (g : Nat) (v0 : Value) (B : Nat) (n : Int) (z : Addr) (v : Value) (xs : List Int) (W : World) : Prop where
  ip : W.heap[g]? = some (ipO n z)
  own : OwnB W B v xs
  app : App W0 v0 W v
theorem App.call {W W' : World} (v : Value) (hb : Below W.heap.size W W') : App W v W' v := ⟨⟨hb.os, hb.tape, hb.output, hb.size, fun k hk _ => hb.block k hk⟩, .inl rfl⟩
theorem T4.call {W0 W W' : World} {g B : Nat} {v0 v : Value} {n : Int} {z : Addr} {xs : List Int} (h : T4 W0 g v0 B n z v xs W) (hb : Below W.heap.size W W') : T4 W0 g v0 B n z v xs W' := ⟨blk_below h.ip hb, OwnB.below h.own hb, h.app.trans (App.call v hb)⟩
theorem T4.step {W0 W W' : World} {g B : Nat} {v0 v v' : Value} {n : Int} {z : Addr} {xs ys : List Int} (h : T4 W0 g v0 B n z v xs W) (hg : g < W0.heap.size) (h0 : v0.ownBlock ≠ some g) (k : App W v W' v') (ho : OwnB W' B v' ys) : T4 W0 g v0 B n z v' ys W' := by
  refine ⟨blk_grown h.ip k.1 ?_, ho, h.app.trans k⟩
  rcases h.app.2 with e | ⟨b, e, hb⟩
  · rw [e]; exact fun h => h0 h.symm
  · rw [e]; intro h; injection h with h; omega
theorem App.al (w : World) (v : Value) (o : Obj) : App w v (w.alloc o) v := ⟨World.grownBy_alloc w o _, .inl rfl⟩
theorem OwnB.lt {w : World} {B : Nat} {v : Value} {xs : List Int} (h : OwnB w B v xs) (k : Nat) (hk : v.ownBlock = some k) : k < w.heap.size := ((Kd.R_bound h).1 k hk).2.2.1
set_option maxRecDepth 100000 in
theorem appendTo4_any (a b c d : Int) (z : Addr) (B : Nat) (v : Value) (xs : List Int) (w : World) (ha : 0 ≤ a ∧ a ≤ 255) (hb : 0 ≤ b ∧ b ≤ 255) (hc : 0 ≤ c ∧ c ≤ 255) (hd : 0 ≤ d ∧ d ≤ 255) (ho : OwnB w B v xs) (hB : B ≤ w.heap.size) (hl : xs.length ≤ 10) :
    Calls Tryd.prog 121 #[ipV (ip4 a b c d) z, v] w fun e w' => ∃ v', e = .returned v' ∧ OwnB w' B v' (xs ++ dec a.toNat ++ [46] ++ dec b.toNat ++ [46] ++ dec c.toNat ++ [46] ++ dec d.toNat) ∧ Below B w w' := by
  obtain ⟨n, hn⟩ : ∃ n, n = ip4 a b c d := ⟨_, rfl⟩
  have HV := Lib.hid (fun i x W hi => v4_any a b c d z i x W ha hb hc hd hi)
  have hla := dec_len a ha.1 (by omega)
  have hlb := dec_len b hb.1 (by omega)
  have hlc := dec_len c hc.1 (by omega)
  have hld := dec_len d hd.1 (by omega)
  rw [← hn] at HV ⊢
  clear hn
  have hp := blk_new w (ipO n z)
  have hv0 : v.ownBlock ≠ some w.heap.size := fun e => by have := OwnB.lt ho _ e; omega
  have hsz : (w.alloc (ipO n z)).heap.size = w.heap.size + 1 := by simp
  have HEND := Lib.hid (fun (W' : World) (v' : Value) (k : App (w.alloc (ipO n z)) v W' v') => App.below (App.trans (App.al w v (ipO n z)) k) ho hB)
  obtain ⟨A0, c0, hv, hcc0, -⟩ := Kd.R_reads ho
  obtain ⟨l0, hl0⟩ : ∃ l0, l0 = xs := ⟨_, rfl⟩
  have HL0 := Lib.hid hl0
  have T0 : T4 (w.alloc (ipO n z)) w.heap.size v B n z v l0 (w.alloc (ipO n z)) := ⟨hp, by rw [hl0]; exact Kd.R_alloc ho _, App.refl _ _⟩
  have hle0 : l0.length ≤ 10 := by rw [hl0]; exact hl
  rw [hv, ← hl0]
  rw [← hl0] at hv hcc0
  subst hv
  clear ho hp hl0
  have H0 := Lib.hid T0
  obtain ⟨p0, p1, p2⟩ := ip_cells T0.ip
  clear T0
  go_enter Tryd.func121, Tryd.ntmps121
  go_wp2_with fail
  refine (HV.out 0 a _ (by simp)).mono ?_
  rintro e u0 ⟨rfl, hbu⟩
  have G0 := Lib.hid (H0.out.call hbu)
  clear hbu p0 p1 p2 H0
  go_wp2_with fail
  refine (appendDecimal_any B a ha.1 ha.2 _ l0 u0 G0.out.own (by have := G0.out.app.1.size; omega) (by omega)).mono ?_
  rintro e t0 ⟨vv, rfl, hov, hap⟩
  obtain ⟨l1, hl1⟩ : ∃ l, l = l0 ++ dec a.toNat := ⟨_, rfl⟩
  rw [← hl1] at hov
  have hle1 : l1.length ≤ 30 := by rw [hl1]; simp; omega
  have HL1 := Lib.hid hl1
  clear hl1
  obtain ⟨A1, c1, rfl, hcc1, -⟩ := Kd.R_reads hov
  have T1 := G0.out.step (by omega) hv0 hap hov
  have H1 := Lib.hid T1
  clear hov hap G0 T1
  go_wp2_with (at_builtin; refine app_bytes rfl (.tmp 9) (.tmp 10) 26 rfl Tryd.underlying26 infoB B (.slice A1 l1.length c1) l1 [46] (some ⟨t0.heap.size, 0, none⟩) 1 1 rfl rfl (Kd.R_alloc H1.out.own _) (lit_C t0 [46] 1 rfl (by simp) (by rfl)) (by have := H1.out.app.1.size; simp; omega) (by omega) ?_; intro vv s0 hov hgv hatv; refine Hid.out ?_)
  obtain ⟨l2, hl2⟩ : ∃ l, l = l1 ++ [46] := ⟨_, rfl⟩
  rw [← hl2] at hov
  have hle2 : l2.length ≤ 31 := by rw [hl2]; simp; omega
  have HL2 := Lib.hid hl2
  clear hl2
  have T2 := H1.out.step (by omega) hv0 (App.app hgv hatv) hov
  obtain ⟨A2, c2, rfl, hcc2, -⟩ := Kd.R_reads hov
  have H2 := Lib.hid T2
  obtain ⟨p0, p1, p2⟩ := ip_cells T2.ip
  clear hov hgv hatv H1 T2
  refine Lib.hid ?_
  go_wp2_with fail
  refine (HV.out 1 b _ (by simp)).mono ?_
  rintro e u1 ⟨rfl, hbu⟩
  have G1 := Lib.hid (H2.out.call hbu)
  clear hbu p0 p1 p2 H2
  go_wp2_with fail
  refine (appendDecimal_any B b hb.1 hb.2 _ l2 u1 G1.out.own (by have := G1.out.app.1.size; omega) (by omega)).mono ?_
  rintro e t1 ⟨vv, rfl, hov, hap⟩
  obtain ⟨l3, hl3⟩ : ∃ l, l = l2 ++ dec b.toNat := ⟨_, rfl⟩
  rw [← hl3] at hov
  have hle3 : l3.length ≤ 51 := by rw [hl3]; simp; omega
  have HL3 := Lib.hid hl3
  clear hl3
  obtain ⟨A3, c3, rfl, hcc3, -⟩ := Kd.R_reads hov
  have T3 := G1.out.step (by omega) hv0 hap hov
  have H3 := Lib.hid T3
  clear hov hap G1 T3
  go_wp2_with (at_builtin; refine app_bytes rfl (.tmp 16) (.tmp 17) 26 rfl Tryd.underlying26 infoB B (.slice A3 l3.length c3) l3 [46] (some ⟨t1.heap.size, 0, none⟩) 1 1 rfl rfl (Kd.R_alloc H3.out.own _) (lit_C t1 [46] 1 rfl (by simp) (by rfl)) (by have := H3.out.app.1.size; simp; omega) (by omega) ?_; intro vv s1 hov hgv hatv; refine Hid.out ?_)
  obtain ⟨l4, hl4⟩ : ∃ l, l = l3 ++ [46] := ⟨_, rfl⟩
  rw [← hl4] at hov
  have hle4 : l4.length ≤ 52 := by rw [hl4]; simp; omega
  have HL4 := Lib.hid hl4
  clear hl4
  have T4 := H3.out.step (by omega) hv0 (App.app hgv hatv) hov
  obtain ⟨A4, c4, rfl, hcc4, -⟩ := Kd.R_reads hov
  have H4 := Lib.hid T4
  obtain ⟨p0, p1, p2⟩ := ip_cells T4.ip
  clear hov hgv hatv H3 T4
  refine Lib.hid ?_
  go_wp2_with fail
  refine (HV.out 2 c _ (by simp)).mono ?_
  rintro e u2 ⟨rfl, hbu⟩
  have G2 := Lib.hid (H4.out.call hbu)
  clear hbu p0 p1 p2 H4
  go_wp2_with fail
  refine (appendDecimal_any B c hc.1 hc.2 _ l4 u2 G2.out.own (by have := G2.out.app.1.size; omega) (by omega)).mono ?_
  rintro e t2 ⟨vv, rfl, hov, hap⟩
  obtain ⟨l5, hl5⟩ : ∃ l, l = l4 ++ dec c.toNat := ⟨_, rfl⟩
  rw [← hl5] at hov
  have hle5 : l5.length ≤ 72 := by rw [hl5]; simp; omega
  have HL5 := Lib.hid hl5
  clear hl5
  obtain ⟨A5, c5, rfl, hcc5, -⟩ := Kd.R_reads hov
  have T5 := G2.out.step (by omega) hv0 hap hov
  have H5 := Lib.hid T5
  clear hov hap G2 T5
  go_wp2_with (at_builtin; refine app_bytes rfl (.tmp 23) (.tmp 24) 26 rfl Tryd.underlying26 infoB B (.slice A5 l5.length c5) l5 [46] (some ⟨t2.heap.size, 0, none⟩) 1 1 rfl rfl (Kd.R_alloc H5.out.own _) (lit_C t2 [46] 1 rfl (by simp) (by rfl)) (by have := H5.out.app.1.size; simp; omega) (by omega) ?_; intro vv s2 hov hgv hatv; refine Hid.out ?_)
  obtain ⟨l6, hl6⟩ : ∃ l, l = l5 ++ [46] := ⟨_, rfl⟩
  rw [← hl6] at hov
  have hle6 : l6.length ≤ 73 := by rw [hl6]; simp; omega
  have HL6 := Lib.hid hl6
  clear hl6
  have T6 := H5.out.step (by omega) hv0 (App.app hgv hatv) hov
  obtain ⟨A6, c6, rfl, hcc6, -⟩ := Kd.R_reads hov
  have H6 := Lib.hid T6
  obtain ⟨p0, p1, p2⟩ := ip_cells T6.ip
  clear hov hgv hatv H5 T6
  refine Lib.hid ?_
  go_wp2_with fail
  refine (HV.out 3 d _ (by simp)).mono ?_
  rintro e u3 ⟨rfl, hbu⟩
  have G3 := Lib.hid (H6.out.call hbu)
  clear hbu p0 p1 p2 H6
  go_wp2_with fail
  refine (appendDecimal_any B d hd.1 hd.2 _ l6 u3 G3.out.own (by have := G3.out.app.1.size; omega) (by omega)).mono ?_
  rintro e t3 ⟨vv, rfl, hov, hap⟩
  obtain ⟨l7, hl7⟩ : ∃ l, l = l6 ++ dec d.toNat := ⟨_, rfl⟩
  rw [← hl7] at hov
  have hle7 : l7.length ≤ 93 := by rw [hl7]; simp; omega
  have HL7 := Lib.hid hl7
  clear hl7
  obtain ⟨A7, c7, rfl, hcc7, -⟩ := Kd.R_reads hov
  have hend := HEND.out _ _ (G3.out.app.trans hap)
  have hfin := Lib.hid (And.intro hov hend)
  clear hov hap hend G3
  go_wp2
  go_ret
  refine ⟨_, rfl, ?_, hfin.out.2⟩
  rw [show l0 ++ dec a.toNat ++ [46] ++ dec b.toNat ++ [46] ++ dec c.toNat ++ [46] ++ dec d.toNat = l7 by rw [HL7.out, HL6.out, HL5.out, HL4.out, HL3.out, HL2.out, HL1.out]]
  exact hfin.out.1
end Go.Proofs.YtangjgclpipjdaaDoor
set_option linter.unusedVariables false
namespace Go.Proofs.YtangjgclpipjdaaDoor
open Go.RowKit Go.Proofs.YtangjgclpipjdaaDoorW.PrintWords Go.Proofs.YtangjgclpipjdaaDoorW.PrintLast Go.Proofs.YtangjgclpipjdaaDoorW.PrintMore

set_option maxRecDepth 100000 in
theorem addrFrom4_any (a b c d : Int) (z : Addr) (w : World) (ha : 0 ≤ a ∧ a ≤ 255) (hb : 0 ≤ b ∧ b ≤ 255) (hc : 0 ≤ c ∧ c ≤ 255) (hd : 0 ≤ d ∧ d ≤ 255) (hz : ZTab z w) :
    Calls Tryd.prog 117 #[.agg #[.int .u8 a, .int .u8 b, .int .u8 c, .int .u8 d]] w fun e w' => e = .returned (ipV (ip4 a b c d) z) ∧ Below w.heap.size w w' := by
  have o1 : bits .or .u64 281470681743360 (a * 16777216) = 281470681743360 + a * 16777216 := by
    rw [u64_or _ _ (by omega) (by omega) (by omega) (by omega), nat_join 32 _ _ (by omega) (by omega)]; omega
  have o2 : bits .or .u64 (281470681743360 + a * 16777216) (b * 65536) = 281470681743360 + a * 16777216 + b * 65536 := by
    rw [u64_or _ _ (by omega) (by omega) (by omega) (by omega), nat_join 24 _ _ (by omega) (by omega)]; omega
  have o3 : bits .or .u64 (281470681743360 + a * 16777216 + b * 65536) (c * 256) = 281470681743360 + a * 16777216 + b * 65536 + c * 256 := by
    rw [u64_or _ _ (by omega) (by omega) (by omega) (by omega), nat_join 16 _ _ (by omega) (by omega)]; omega
  have o4 : bits .or .u64 (281470681743360 + a * 16777216 + b * 65536 + c * 256) d = 281470681743360 + a * 16777216 + b * 65536 + c * 256 + d := by
    rw [u64_or _ _ (by omega) (by omega) (by omega) (by omega), nat_join 8 _ _ (by omega) (by omega)]; omega
  have e4 : 281470681743360 + a * 16777216 + b * 65536 + c * 256 + d = 281470681743360 + ip4 a b c d := by unfold ip4; omega
  have hz2 := cell_al (cell_al hz.1 (.cells #[.int .u8 a, .int .u8 b, .int .u8 c, .int .u8 d] 186)) (.cells #[.int .u64 0, .int .u64 0, .pointer none] 158)
  have HE := Lib.hid e4
  clear e4
  go_enter Tryd.func117, Tryd.ntmps117
  go_wp2
  have hr := blk_new (w.alloc (.cells #[.int .u8 a, .int .u8 b, .int .u8 c, .int .u8 d] 186)) (ipO (ip4 a b c d) z)
  rw [show (w.alloc (.cells #[.int .u8 a, .int .u8 b, .int .u8 c, .int .u8 d] 186)).heap.size = w.heap.size + 1 by simp] at hr
  rw [HE.out]
  exact bodyPost_ret (results_cell_row rfl _ _ (w.heap.size + 1) 158 #[.int .u64 0, .int .u64 (281470681743360 + ip4 a b c d), .pointer (some z)] (0, 0) _ rfl hr Tryd.underlying158 rfl (by kernel_rfl)) rfl ⟨rfl, ((Below.refl w.heap.size w).alloc (Nat.le_refl _) _).alloc (by simp) _⟩
set_option maxRecDepth 100000 in
theorem ipString_any (a b c d : Int) (z : Addr) (w : World) (ha : 0 ≤ a ∧ a ≤ 255) (hb : 0 ≤ b ∧ b ≤ 255) (hc : 0 ≤ c ∧ c ≤ 255) (hd : 0 ≤ d ∧ d ≤ 255) (hz : ZTab z w) :
    Calls Tryd.prog 101 #[ipV (ip4 a b c d) z] w fun e w' => e = .returned (.string (strOfNums (dots [a, b, c, d]))) ∧ Below w.heap.size w w' := by
  obtain ⟨ds, hds⟩ : ∃ ds, ds = dots [a, b, c, d] := ⟨_, rfl⟩
  have HDS := Lib.hid (show [] ++ dec a.toNat ++ [46] ++ dec b.toNat ++ [46] ++ dec c.toNat ++ [46] ++ dec d.toNat = ds by rw [hds]; simp [dots])
  rw [← hds]
  clear hds
  have hp := blk_new w (ipO (ip4 a b c d) z)
  have hb0 := (Below.refl w.heap.size w).alloc (Nat.le_refl _) (ipO (ip4 a b c d) z)
  have H0 := Lib.hid (And.intro hp (And.intro hb0 (hz.on hb0)))
  clear hz hp hb0
  go_enter Tryd.func101, Tryd.ntmps101
  go_wp2_with fail
  refine (isValid_any _ z _ H0.out.2.2).mono ?_
  rintro e w1 ⟨rfl, hb1⟩
  obtain ⟨p0, p1, p2⟩ := ip_cells (blk_below H0.out.1 hb1)
  have z1 := (H0.out.2.2.on hb1).1
  have q1 := fun W => eq_self 9998 W z
  simp only [Nat.reduceAdd] at q1
  have H1 := Lib.hid (And.intro (blk_below H0.out.1 hb1) (below_step H0.out.2.1 hb1))
  clear hb1
  obtain ⟨w2, hmk, ho2, hb2⟩ := make_own2 w1 15 (by omega)
  rw [show ((15 : Nat) : Int) = 15 from rfl] at hmk
  obtain ⟨p0', p1', p2'⟩ := ip_cells (blk_below H1.out.1 hb2)
  have H2 := Lib.hid (And.intro (blk_below H1.out.1 hb2) (And.intro (below_step H1.out.2 hb2) ho2))
  have hs2 := hb2.size
  have hs1 : w.heap.size < w1.heap.size := blk_lt H1.out.1
  clear hb2 ho2
  go_wp2_with fail
  refine (appendTo4_any a b c d z w1.heap.size _ [] w2 ha hb hc hd H2.out.2.2 hs2 (by simp)).mono ?_
  rintro e w3 ⟨v3, rfl, ho3, hb3⟩
  rw [HDS.out] at ho3
  have hcv := ho3.string (P := Tryd.prog) Tryd.underlying26 Tryd.underlying5 Tryd.underlying9
  have HF := Lib.hid (H2.out.2.1.trans (hb3.mono (by omega)))
  clear hb3
  go_wp2
  go_ret
  exact ⟨rfl, HF.out⟩

theorem results_ct {P : Program} {fn : Func} {p u : Tmp} {ty : TypeId} (h : fn.results = #[.cell p ty, .tmp u]) (tmps : Array Value) (w : World) (g : Nat) (t : TypeId) (cs : Array Value) (fr : Nat × Nat) (d : TypeDesc)
    (hp : tmps.getD p undef = .pointer (some ⟨g, 0, none⟩)) (hg : w.heap[g]? = some (.cells cs t fr))
    (hu : P.underlying ty = some d) (hd : (match d with | .struct _ | .array _ _ => true | _ => false) = true) (hi : (P.info? ty).map (·.size) = some cs.size) :
    (results fn tmps).run P w = .ok (.tuple #[.agg cs, tmps.getD u undef]) w := by
  have hp' : tmps[p]?.getD undef = .pointer (some ⟨g, 0, none⟩) := by simpa using hp
  simp [results, h, hp', asAddr, run_loadVar_row w g t ty cs fr d hg hu hd hi]
set_option maxRecDepth 100000 in
theorem addrFromSlice_any (a b c d : Int) (z : Addr) (A : Option Addr) (cc : Nat) (w : World) (ha : 0 ≤ a ∧ a ≤ 255) (hb : 0 ≤ b ∧ b ≤ 255) (hc : 0 ≤ c ∧ c ≤ 255) (hd : 0 ≤ d ∧ d ≤ 255) (hz : ZTab z w) (hcc : 4 ≤ cc) (hC : Kd.C (Kd.int .u8) w A 4 [a, b, c, d]) :
    Calls Tryd.prog 99 #[.slice A 4 cc] w fun e w' => e = .returned (.tuple #[ipV (ip4 a b c d) z, .bool true]) ∧ Below w.heap.size w w' := by
  obtain ⟨ad, rfl, c0⟩ := cell_at (xs := [a, b, c, d]) hC 0 (by simp)
  obtain ⟨ad1, e1, c1⟩ := cell_at (xs := [a, b, c, d]) hC 1 (by simp)
  obtain rfl : ad = ad1 := by injection e1
  obtain ⟨ad2, e2, c2⟩ := cell_at (xs := [a, b, c, d]) hC 2 (by simp)
  obtain rfl : ad = ad2 := by injection e2
  obtain ⟨ad3, e3, c3⟩ := cell_at (xs := [a, b, c, d]) hC 3 (by simp)
  obtain rfl : ad = ad3 := by injection e3
  have k0 : w.cell? (ad.add 0) = some (.int .u8 a) := c0
  have k1 : w.cell? (ad.add 1) = some (.int .u8 b) := c1
  have k2 : w.cell? (ad.add 2) = some (.int .u8 c) := c2
  have k3 : w.cell? (ad.add 3) = some (.int .u8 d) := c3
  have q0 := cell_al k0 (.cells #[.int .u64 0, .int .u64 0, .pointer none] 158)
  have q1 := cell_al k1 (.cells #[.int .u64 0, .int .u64 0, .pointer none] 158)
  have q2 := cell_al k2 (.cells #[.int .u64 0, .int .u64 0, .pointer none] 158)
  have q3 := cell_al k3 (.cells #[.int .u64 0, .int .u64 0, .pointer none] 158)
  rw [Addr.add_zero'] at q0
  simp only [Go.Addr.add, Nat.reduceEqDiff, if_false] at q1 q2 q3
  have harr := fun W => run_arrayAt (P := Tryd.prog) W 186 5 4 (some ad) 4 cc Tryd.underlying186 (Nat.le_refl _)
  have hb0 := (Below.refl w.heap.size w).alloc (Nat.le_refl _) (.cells #[.int .u64 0, .int .u64 0, .pointer none] 158)
  have hr := blk_new w (.cells #[.int .u64 0, .int .u64 0, .pointer none] 158)
  have HB := Lib.hid (And.intro hb0 (And.intro hr (hz.on hb0)))
  clear hb0 hr hz hC c0 c1 c2 c3 k0 k1 k2 k3 e1 e2 e3
  go_enter Tryd.func99, Tryd.ntmps99
  go_wp2_with fail
  refine (addrFrom4_any a b c d z _ ha hb hc hd HB.out.2.2).mono ?_
  rintro e w1 ⟨rfl, hb1⟩
  have hr := blk_below HB.out.2.1 hb1
  have r0 : w1.cell? ⟨w.heap.size, 0, none⟩ = some (.int .u64 0) := (blk_cell hr 0).trans rfl
  have r1 : w1.cell? ⟨w.heap.size, 1, none⟩ = some (.int .u64 0) := (blk_cell hr 1).trans rfl
  have r2 : w1.cell? ⟨w.heap.size, 2, none⟩ = some (.pointer none) := (blk_cell hr 2).trans rfl
  have f0 := blk_frozen hr 0
  have f1 := blk_frozen hr 1
  have f2 := blk_frozen hr 2
  have H1 := Lib.hid (And.intro hr (below_step HB.out.1 hb1))
  clear hr hb1
  go_wp2
  have g0 := blk_put (cs' := #[.int .u64 0, .int .u64 0, .pointer none]) H1.out.1 0 (.int .u64 0) rfl
  have g1 := blk_put (cs' := #[.int .u64 0, .int .u64 (281470681743360 + ip4 a b c d), .pointer none]) g0 1 (.int .u64 (281470681743360 + ip4 a b c d)) rfl
  have g2 := blk_put (cs' := #[.int .u64 0, .int .u64 (281470681743360 + ip4 a b c d), .pointer (some z)]) g1 2 (.pointer (some z)) rfl
  exact bodyPost_ret (results_ct rfl _ _ w.heap.size 158 #[.int .u64 0, .int .u64 (281470681743360 + ip4 a b c d), .pointer (some z)] (0, 0) _ rfl g2 Tryd.underlying158 rfl (by kernel_rfl)) rfl ⟨rfl, below_set (below_set (below_set H1.out.2 (by omega)) (by omega)) (by omega)⟩
set_option maxRecDepth 100000 in
theorem zzAddress_any (a b c d : Int) (z : Addr) (A : Option Addr) (cc : Nat) (w : World) (ha : 0 ≤ a ∧ a ≤ 255) (hb : 0 ≤ b ∧ b ≤ 255) (hc : 0 ≤ c ∧ c ≤ 255) (hd : 0 ≤ d ∧ d ≤ 255) (hz : ZTab z w) (hcc : 4 ≤ cc) (hC : Kd.C (Kd.int .u8) w A 4 [a, b, c, d]) :
    Calls Tryd.prog 75 #[.slice A 4 cc] w fun e w' => e = .returned (.string (strOfNums (dots [a, b, c, d]))) ∧ Below w.heap.size w w' := by
  have HD := Lib.hid (fun W hz => ipString_any a b c d z W ha hb hc hd hz)
  have H1 := Lib.hid (fun W => addrFromSlice_any a b c d z A cc W ha hb hc hd)
  obtain ⟨ds, hds⟩ : ∃ ds, ds = strOfNums (dots [a, b, c, d]) := ⟨_, rfl⟩
  rw [← hds] at HD ⊢
  clear hds
  have HZ := Lib.hid (And.intro hz hC)
  clear hz hC
  go_enter Tryd.func75, Tryd.ntmps75
  go_wp2_with fail
  refine (H1.out w HZ.out.1 hcc HZ.out.2).mono ?_
  rintro e w1 ⟨rfl, hb1⟩
  have hr := blk_new w1
  have H2 := Lib.hid (And.intro hb1 (HZ.out.1.on hb1))
  clear hb1 hr
  go_wp2_with fail
  have b2 := (Below.refl w1.heap.size w1).alloc (Nat.le_refl _) (ipO (ip4 a b c d) z)
  refine (unmap_any (ip4 a b c d) z _ (H2.out.2.on b2)).mono ?_
  rintro e w3 ⟨rfl, hb3⟩
  have H3 := Lib.hid (And.intro (below_step (below_step H2.out.1 b2) hb3) ((H2.out.2.on b2).on hb3))
  clear hb3 b2
  go_wp2_with fail
  refine (HD.out _ H3.out.2).mono ?_
  rintro e w4 ⟨rfl, hb4⟩
  have H4 := Lib.hid (below_step H3.out.1 hb4)
  clear hb4
  go_wp2
  go_ret
  exact ⟨rfl, H4.out⟩
end Go.Proofs.YtangjgclpipjdaaDoor
