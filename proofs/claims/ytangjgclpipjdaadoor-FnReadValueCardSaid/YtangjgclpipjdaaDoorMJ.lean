/- What is read back of the contents: plain. decodeValue at whatever value is asked. ZZReadValue, impl.ReadValue: the walks. -/
import Derived.Test.YtangjgclpipjdaaDoorME
import Derived.Test.YtangjgclpipjdaaDoorMC
import Derived.Test.YtangjgclpipjdaaDoorMB
import Derived.Test.YtangjgclpipjdaaDoorMD
import Derived.Test.YtangjgclpipjdaaDoorMI
import Derived.Test.YtangjgclpipjdaaDoorMF
set_option linter.unusedVariables false
namespace Go.Proofs.YtangjgclpipjdaaDoor
open Go.RowKit Go.Proofs.YtangjgclpipjdaaDoorW.PrintWords Go.Proofs.YtangjgclpipjdaaDoorW.PrintLast Go.Proofs.YtangjgclpipjdaaDoorW.PrintMore

theorem mInt32_isB (n : Int) : IsB (mInt32 n) := by
  intro x hx
  unfold mInt32 at hx
  split at hx
  · simp at hx; omega
  split at hx
  · simp at hx; omega
  split at hx
  · simp at hx; omega
  · simp at hx; omega
theorem sVal_mInt32 (n : Int) (h0 : -2147483648 ≤ n) (h1 : n ≤ 2147483647) : sVal (mInt32 n) = n := by
  unfold sVal mInt32
  split
  · simp only [Go.Proofs.YtangjgclpipjdaaDoorW.PrintWords.rd, beVal, Int.toNat_zero, List.getD_cons_zero]
    unfold wrap64
    split <;> omega
  split
  · simp only [Go.Proofs.YtangjgclpipjdaaDoorW.PrintWords.rd, beVal, Int.toNat_zero, List.getD_cons_zero]
    unfold wrap64
    split <;> omega
  split
  · simp only [Go.Proofs.YtangjgclpipjdaaDoorW.PrintWords.rd, beVal, Int.toNat_zero, List.getD_cons_zero]
    unfold wrap64
    split <;> omega
  · simp only [Go.Proofs.YtangjgclpipjdaaDoorW.PrintWords.rd, beVal, Int.toNat_zero, List.getD_cons_zero]
    unfold wrap64
    split <;> omega
theorem bs_isB (s : ByteArray) : IsB (bs s) := by
  intro x hx
  unfold bs at hx
  obtain ⟨b, -, rfl⟩ := List.mem_map.1 hx
  have := b.toNat_lt
  omega
theorem b128_isB (n : Int) (h0 : 0 ≤ n) (h1 : n ≤ 4294967295) : IsB (b128 n) := by
  intro x hx
  unfold b128 at hx
  split at hx
  · simp at hx; omega
  split at hx
  · simp at hx; omega
  split at hx
  · simp at hx; omega
  split at hx
  · simp at hx; omega
  · simp at hx; omega
theorem b128s_isB (l : List Int) (h : ∀ x ∈ l, 0 ≤ x ∧ x ≤ 4294967295) : IsB (b128s l) := by
  induction l with
  | nil => intro x hx; simp [b128s] at hx
  | cons a l ih =>
    rw [b128s_cons]
    have ha := h a (by simp)
    exact isB_append (b128_isB a ha.1 ha.2) (ih (fun x hx => h x (by simp [hx])))
theorem sName_isB (arcs : List Int) (h : ∀ x ∈ arcs, 0 ≤ x ∧ x ≤ 4294967295) : IsB (sName arcs) := by
  unfold sName
  exact isB_cons (by omega) (by omega) (b128s_isB _ (fun x hx => h x (List.mem_of_mem_drop hx)))
theorem uBytes_isB' (n : Int) (h0 : 0 ≤ n) (h1 : n ≤ 18446744073709551615) : IsB (uBytes n) := by
  intro x hx
  obtain ⟨i, hi, rfl⟩ := List.getElem_of_mem hx
  have := uBytes_isB n h0 h1 (i : Int)
  unfold Go.Proofs.YtangjgclpipjdaaDoorW.PrintWords.rd at this
  rw [Int.toNat_natCast, List.getD_eq_getElem?_getD, List.getElem?_eq_getElem hi] at this
  exact this
theorem sUint_isB (n : Int) (h0 : 0 ≤ n) (h1 : n ≤ 18446744073709551615) : IsB (sUint n) := by
  unfold sUint
  split
  · exact isB_cons (by omega) (by omega) (uBytes_isB' n h0 h1)
  · exact uBytes_isB' n h0 h1
theorem beVal_uBytes (n : Int) (h0 : 0 ≤ n) (h1 : n ≤ 18446744073709551615) : beVal (uBytes n) 0 = n := by
  unfold uBytes
  repeat' split
  all_goals simp only [beVal]
  all_goals omega
theorem sUint_val (n : Int) (h0 : 0 ≤ n) (h1 : n ≤ 18446744073709551615) : beVal (sUint n) 0 = n ∧ 1 ≤ (sUint n).length ∧ ((sUint n).length ≤ 8 ∨ ((sUint n).length = 9 ∧ rd (sUint n) 0 = 0)) := by
  have hb := beVal_uBytes n h0 h1
  have hl := uBytes_len n
  unfold sUint
  split
  · refine ⟨?_, by simp, ?_⟩
    · show beVal (uBytes n) (0 * 256 + 0) = n
      simpa using hb
    · by_cases h : (uBytes n).length = 8
      · exact .inr ⟨by simp [h], rfl⟩
      · exact .inl (by simp only [List.length_cons]; omega)
  · exact ⟨hb, hl.1, .inl hl.2⟩
theorem Cont.isB {ty i u : Int} {tx : ByteArray} {c : List Int} {i' u' : Int} {tx' : List Int} (h : Cont ty i u (bs tx) c i' u' tx') (u0 : 0 ≤ u) (u1 : u ≤ 18446744073709551615) : IsB c := by
  cases h with
  | int h h0 h1 => exact mInt32_isB i
  | oct h h0 => exact bs_isB tx
  | null h => intro x hx; simp at hx
  | oid h arcs ha => exact sName_isB arcs (sArcs_bounds _ _ ha)
  | addr h out ha => intro x hx; exact (sAddr_text _ _ ha).2.2 x hx
  | u32 h h0 => exact sUint_isB u u0 u1
  | u64 h => exact sUint_isB u u0 u1
end Go.Proofs.YtangjgclpipjdaaDoor
set_option linter.unusedVariables false
namespace Go.Proofs.YtangjgclpipjdaaDoor
open Go.RowKit Go.Proofs.YtangjgclpipjdaaDoorW.PrintWords Go.Proofs.YtangjgclpipjdaaDoorW.PrintLast Go.Proofs.YtangjgclpipjdaaDoorW.PrintMore

/-- The variables of the library and of the package that are read. -/
structure Tabs (z : Addr) (w : World) : Prop where
  pow : PowTab w
  asn : AsnTab w
  z4 : ZTab z w
theorem Tabs.on {z : Addr} {w w' : World} (h : Tabs z w) (hb : Below w.heap.size w w') : Tabs z w' := ⟨h.pow.on hb, h.asn.on hb, h.z4.on hb⟩
theorem C_keptA {W W' : World} {ad : Addr} {n : Nat} {xs : List Int} (h : Kd.C (Kd.int .u8) W (some ad) n xs) {g : Nat} (hne : ad.block ≠ g) (hk : Kept W W' (fun k => k = g)) : Kd.C (Kd.int .u8) W' (some ad) n xs := by
  obtain ⟨h1, h2, h3⟩ := Kd.reads_of_C (enc := Value.int .u8) (d := (0 : Int)) h
  refine Kd.C_of_reads (h1 := fun _ => rfl) (d := (0 : Int)) ⟨h1, h2, fun hn => ?_⟩
  obtain ⟨a, e, hc⟩ := h3 hn
  refine ⟨a, e, fun j hj => ?_⟩
  injection e with e
  subst e
  have hb : (ad.add j).block = ad.block := by unfold Addr.add; split <;> rfl
  exact cell_kept (hc j hj) hk (by rw [hb]; exact hne)
theorem bs_strOfNums (xs : List Int) (h : IsB xs) : bs (strOfNums xs) = xs := by
  unfold bs strOfNums
  simp only [List.map_map]
  refine (List.map_congr_left (g := id) fun x hx => ?_).trans (List.map_id _)
  have := h x hx
  simp only [Function.comp]
  rw [UInt8.toNat_ofNat']
  simp only [id]
  omega
theorem dec_isB (n : Nat) : IsB (dec n) := by
  intro x hx
  obtain ⟨b, -, rfl⟩ := List.mem_map.1 hx
  have := b.toNat_lt
  omega
theorem sDot_isB (arcs : List Int) : IsB (sDot arcs) := by
  intro x hx
  unfold sDot at hx
  obtain ⟨l, hl, hx⟩ := List.mem_flatten.1 hx
  obtain ⟨n, -, rfl⟩ := List.mem_map.1 hl
  rcases List.mem_cons.1 hx with rfl | h
  · omega
  · exact dec_isB _ x h
theorem sealed_isB' (t : Int) (c rest : List Int) (wide : Nat) (hw : wide ≤ 3) (hc : IsB c) (hr : IsB rest) (h : c.length ≤ 4294967295) : IsB (sSealed t c wide ++ rest) := isB_append (sSealed_isB t c wide hc h (by omega)) hr
theorem decode_any {ty i u : Int} {tx : ByteArray} {c : List Int} {i' u' : Int} {tx' : List Int} (hc : Cont ty i u (bs tx) c i' u' tx') (u0 : 0 ≤ u) (u1 : u ≤ 18446744073709551615) (wide : Nat) (hw : wide ≤ 3) (xs : List Int) (hxs : xs = sSealed ty c wide)
    (A : Option Addr) (cc : Nat) (hcc : xs.length ≤ cc) (w : World) (hr : Kd.C (Kd.int .u8) w A xs.length xs) (z : Addr) (hT : Tabs z w)
    (gx g : Nat) (hgx : w.heap[gx]? = some (.cells #[] 103 (0, 0))) (hg : w.heap[g]? = some (vbO .nilIface 0)) (hA : ∀ ad, A = some ad → ad.block ≠ g) (gz4 : g ≠ 13) (gz0 : g ≠ 9) :
    Calls Tryd.prog 49 #[.pointer (some ⟨gx, 0, none⟩), .slice A xs.length cc, .pointer (some ⟨g, 0, none⟩)] w fun e w' => e = .returned .nilIface ∧ ∃ V, Decoded w w' g V ty ∧ ToldIn w' V i' u' tx' := by
  have hB := hc.isB u0 u1
  have hcl := hc.len
  have hsl := sealed_len ty c wide
  have hx : xs.length ≤ 100000 := by rw [hxs]; omega
  have hL : (sSealed ty c wide).length = xs.length := by rw [hxs]
  obtain ⟨A', c', hE⟩ : ∃ A' c', Elem ty c xs (sSealed ty c wide).length A cc A' c' := by
    have := elem_of ty c [] wide hw (by omega) A cc (by rw [List.append_nil, ← hxs]; exact hcc) (by rw [List.append_nil]; exact sSealed_isB ty c wide hB (by omega) (by omega))
    rw [List.append_nil, ← hxs] at this
    rw [hxs]
    rw [hxs] at this
    exact this
  have fin : ∀ {V : Value} {t : Int}, ToldIn w V i' u' tx' → (∀ w', KeptG w w' g → ToldIn w' V i' u' tx') → t = ty → Calls Tryd.prog 49 #[.pointer (some ⟨gx, 0, none⟩), .slice A xs.length cc, .pointer (some ⟨g, 0, none⟩)] w (fun e w' => e = .returned .nilIface ∧ Decoded w w' g V t) →
      Calls Tryd.prog 49 #[.pointer (some ⟨gx, 0, none⟩), .slice A xs.length cc, .pointer (some ⟨g, 0, none⟩)] w fun e w' => e = .returned .nilIface ∧ ∃ V, Decoded w w' g V ty ∧ ToldIn w' V i' u' tx' := by
    intro V t _ h2 ht hC
    refine hC.mono ?_
    rintro e w' ⟨rfl, hD⟩
    exact ⟨rfl, V, ht ▸ hD, h2 w' hD.2⟩
  cases hc with
  | int h h0 h1 =>
    subst h
    have hl := mInt32_len i
    refine fin ?_ ?_ rfl (dec_int .nilIface A cc xs _ _ A' c' g hB hl.1 (by omega) hE hx hL w hr hT.asn gx hgx hg hA)
    · rw [sVal_mInt32 i h0 h1]; exact .int i (by omega) (by omega)
    · intro w' _; rw [sVal_mInt32 i h0 h1]; exact .int i (by omega) (by omega)
  | oct h h0 =>
    subst h
    obtain ⟨ad, rfl, -⟩ := hE.head w hr
    have hlb : (bs tx).length ≤ 100000 := by omega
    refine fin (.bytes A' c' _ hlb (hE.reads w hr)) (fun w' hk => .bytes A' c' _ hlb (hE.reads w' (C_keptA hr (hA ad rfl) hk.kept))) rfl (dec_oct _ (some ad) cc xs _ A' c' g hE hx hL w hr gx hgx hg hA)
  | null h =>
    rcases h with rfl | rfl | rfl | rfl
    · exact fin .nil (fun _ _ => .nil) rfl (dec_null5 [] A cc xs _ A' c' g hE hx hL w hr gx hgx hg hA)
    · exact fin .nil (fun _ _ => .nil) rfl (dec_null128 [] A cc xs _ A' c' g hE hx hL w hr gx hgx hg hA)
    · exact fin .nil (fun _ _ => .nil) rfl (dec_null129 [] A cc xs _ A' c' g hE hx hL w hr gx hgx hg hA)
    · exact fin .nil (fun _ _ => .nil) rfl (dec_null130 [] A cc xs _ A' c' g hE hx hL w hr gx hgx hg hA)
  | oid h arcs ha =>
    subst h
    have hbd := sArcs_bounds _ _ ha
    have hao := (sArcs_text _ _ ha).1
    obtain ⟨x, y, l, rfl⟩ : ∃ x y l, arcs = x :: y :: l := by
      rcases arcs with _ | ⟨x, _ | ⟨y, l⟩⟩
      · have := hao.1; simp at this
      · have := hao.1; simp at this
      · exact ⟨x, y, l, rfl⟩
    have x0 := (hbd x (by simp)).1
    have y0 := (hbd y (by simp)).1
    have x2 : x ≤ 2 := hao.2.2.1
    have y2 : y < 40 := hao.2.2.2
    have hll : l.length ≤ 58 := by have := hao.2.1; simp at this; omega
    have hs := bs_strOfNums (sDot (x :: y :: l)) (sDot_isB _)
    have hin : ∀ w', ToldIn w' (.iface 9 (.string (strOfNums (sDot (x :: y :: l))))) 0 0 (sDot (x :: y :: l)) := fun w' => by
      have := ToldIn.str (w := w') (strOfNums (sDot (x :: y :: l)))
      rwa [hs] at this
    exact fin (hin w) (fun w' _ => hin w') rfl (dec_oid x y l _ _ x0 x2 y0 y2 (fun q hq => hbd q (by simp [hq])) (by omega) rfl rfl A cc xs _ A' c' g hE hx hL w hr hT.pow gx hgx hg hA)
  | addr h out ha =>
    subst h
    obtain ⟨h4, htx, hbd⟩ := sAddr_text _ _ ha
    obtain ⟨a, b, e, d, rfl⟩ : ∃ a b e d, c = [a, b, e, d] := by
      rcases c with _ | ⟨a, _ | ⟨b, _ | ⟨e, _ | ⟨d, _ | ⟨f, l⟩⟩⟩⟩⟩
      · simp at h4
      · simp at h4
      · simp at h4
      · simp at h4
      · exact ⟨a, b, e, d, rfl⟩
      · simp at h4
    exact fin (.str tx) (fun w' _ => .str tx) rfl (dec_addr a b e d z tx (hbd a (by simp)) (hbd b (by simp)) (hbd e (by simp)) (hbd d (by simp)) (by rw [← htx, strOfNums_bs]) A cc xs _ A' c' g hE hx hL w hr gx hgx hg hA hT.z4 gz4 gz0)
  | u32 h h0 =>
    obtain ⟨hv, hl1, hl9⟩ := sUint_val u u0 u1
    rcases h with rfl | rfl | rfl
    · refine fin ?_ ?_ rfl (dec_cnt _ hB hl1 hl9 (by omega) A cc xs _ A' c' g hE hx hL w hr gx hgx hg hA)
      · rw [hv]; exact .uint u u0 u1
      · intro w' _; rw [hv]; exact .uint u u0 u1
    · refine fin ?_ ?_ rfl (dec_gau _ hB hl1 hl9 (by omega) A cc xs _ A' c' g hE hx hL w hr gx hgx hg hA)
      · rw [hv]; exact .uint u u0 u1
      · intro w' _; rw [hv]; exact .uint u u0 u1
    · refine fin ?_ ?_ rfl (dec_tick _ hB hl1 hl9 (by omega) A cc xs _ A' c' g hE hx hL w hr gx hgx hg hA)
      · rw [hv]; exact .u32 u u0 h0
      · intro w' _; rw [hv]; exact .u32 u u0 h0
  | u64 h =>
    subst h
    obtain ⟨hv, hl1, hl9⟩ := sUint_val u u0 u1
    refine fin ?_ ?_ rfl (dec_c64 _ hB hl1 hl9 (by omega) A cc xs _ A' c' g hE hx hL w hr gx hgx hg hA)
    · rw [hv]; exact .u64 u u0 u1
    · intro w' _; rw [hv]; exact .u64 u u0 u1
end Go.Proofs.YtangjgclpipjdaaDoor
set_option linter.unusedVariables false
namespace Go.Proofs.YtangjgclpipjdaaDoor
open Go.RowKit Go.Proofs.YtangjgclpipjdaaDoorW.PrintWords Go.Proofs.YtangjgclpipjdaaDoorW.PrintLast Go.Proofs.YtangjgclpipjdaaDoorW.PrintMore

theorem Cont.ty {ty i u : Int} {tx c : List Int} {i' u' : Int} {tx' : List Int} (h : Cont ty i u tx c i' u' tx') : 0 ≤ ty ∧ ty ≤ 255 := by
  cases h <;> omega
theorem ToldIn.below {w w' : World} {v : Value} {i u : Int} {tx : List Int} (h : ToldIn w v i u tx) (hb : Below w.heap.size w w') : ToldIn w' v i u tx := by
  cases h with
  | nil => exact .nil
  | int n h0 h1 => exact .int _ h0 h1
  | uint n h0 h1 => exact .uint _ h0 h1
  | u32 n h0 h1 => exact .u32 _ h0 h1
  | u64 n h0 h1 => exact .u64 _ h0 h1
  | bytes A c xs hl h => exact .bytes A c _ hl (Kd.C_below h hb)
  | str s => exact .str s
set_option maxRecDepth 100000 in
theorem zzReadValue_any {ty i u : Int} {tx : ByteArray} {c : List Int} {i' u' : Int} {tx' : List Int} (hc : Cont ty i u (bs tx) c i' u' tx') (u0 : 0 ≤ u) (u1 : u ≤ 18446744073709551615) (wide : Nat) (hw : wide ≤ 3) (xs : List Int) (hxs : xs = sSealed ty c wide)
    (A : Option Addr) (cc : Nat) (hcc : xs.length ≤ cc) (w : World) (hr : Kd.C (Kd.int .u8) w A xs.length xs) (z : Addr) (hT : Tabs z w) :
    Calls Tryd.prog 36 #[.slice A xs.length cc] w fun e w' => ∃ V, e = .returned (.tuple #[V, .int .u8 ty, .nilIface]) ∧ ToldIn w' V i' u' tx' ∧ Below w.heap.size w w' := by
  have ht := hc.ty
  have HD := Lib.hid (fun w hr hT => decode_any hc u0 u1 wide hw xs hxs A cc hcc w hr z hT)
  have hx2 : 2 ≤ xs.length := by have := sealed_len ty c wide; rw [hxs]; omega
  have hA : ∀ ad, A = some ad → ad.block < w.heap.size := by
    intro ad e
    obtain ⟨ad', e', g⟩ := cell_at hr 0 (by omega)
    rw [Addr.add_zero'] at g
    rw [e] at e'
    injection e' with e'
    rw [e']
    exact World.block_lt_of_cell? _ _ g
  have b0 := ((Below.refl w.heap.size w).alloc (Nat.le_refl _) (vbO .nilIface 0)).alloc (by simp) (.cells #[] 103)
  have hg : ((w.alloc (vbO .nilIface 0)).alloc (.cells #[] 103)).heap[w.heap.size]? = some (vbO .nilIface 0) := blk_alloc (blk_new w (vbO .nilIface 0)) _
  have hgx : ((w.alloc (vbO .nilIface 0)).alloc (.cells #[] 103)).heap[w.heap.size + 1]? = some (.cells #[] 103) := by
    have := blk_new (w.alloc (vbO .nilIface 0)) (.cells #[] 103)
    rw [show (w.alloc (vbO .nilIface 0)).heap.size = w.heap.size + 1 by simp] at this
    exact this
  have z4 : 13 < w.heap.size := World.block_lt_of_cell? _ _ hT.z4.1
  have z0 : 9 < w.heap.size := World.block_lt_of_cell? _ _ hT.z4.2
  have HC := Lib.hid (HD.out _ (Kd.C_below hr b0) (hT.on b0) _ _ hgx hg (fun ad e => by have := hA ad e; omega) (by omega) (by omega))
  have HB := Lib.hid b0
  clear hc hxs hr hT HD hA hg hgx z4 z0 b0
  go_enter Tryd.func36, Tryd.ntmps36
  go_wp2_with fail
  refine HC.out.mono ?_
  rintro e w1 ⟨rfl, V, ⟨hv, hk⟩, hin⟩
  have c0 : w1.cell? ⟨w.heap.size, 0, none⟩ = some V := (blk_cell hv 0).trans rfl
  have c1 : w1.cell? ⟨w.heap.size, 1, none⟩ = some (.int .u8 ty) := (blk_cell hv 1).trans rfl
  have hbel : Below w.heap.size w w1 := HB.out.grown hk (by have := HB.out.size; omega) (fun k hk => by injection hk with hk; omega)
  have H1 := Lib.hid (And.intro hin hbel)
  clear hin hbel hk hv
  go_wp2_with fail
  go_quiet (fail)
  go_wp2
  go_ret3
  exact ⟨V, rfl, H1.out.1.below (pw_below_drewN (Below.refl _ _) _), pw_below_drewN H1.out.2 _⟩

set_option maxRecDepth 100000 in
theorem implReadValue_any {ty i u : Int} {tx : ByteArray} {c : List Int} {i' u' : Int} {tx' : List Int} (hc : Cont ty i u (bs tx) c i' u' tx') (u0 : 0 ≤ u) (u1 : u ≤ 18446744073709551615) (wide : Nat) (hw : wide ≤ 3) (xs : List Int) (hxs : xs = sSealed ty c wide)
    (A : Option Addr) (cc : Nat) (hcc : xs.length ≤ cc) (w : World) (hr : Kd.C (Kd.int .u8) w A xs.length xs) (z : Addr) (hT : Tabs z w) :
    Calls Tryd.prog 13 #[.slice A xs.length cc] w fun e w' => e = .returned (.tuple #[varV ⟨#[]⟩ ty i' u' (strOfNums tx'), .bool true]) ∧ Below w.heap.size w w' := by
  have ht := hc.ty
  have hl : (xs.length : Int) ≤ 600 := by have := sealed_len ty c wide; have := hc.len; rw [hxs]; omega
  have HD := Lib.hid (fun A cc hcc w hr hT => zzReadValue_any hc u0 u1 wide hw xs hxs A cc hcc w hr z hT)
  have b0 := (Below.refl w.heap.size w).alloc (Nat.le_refl _) (varO ⟨#[]⟩ 0 0 0 ⟨#[]⟩)
  have H0 := Lib.hid (And.intro (readB_of hcc (Kd.C_below hr b0)) (And.intro (hT.on b0) (And.intro (blk_new w (varO ⟨#[]⟩ 0 0 0 ⟨#[]⟩)) b0)))
  clear hc hxs hr hT b0
  go_enter Tryd.func13, Tryd.ntmps13
  go_wp2_with fail
  refine (Clone_any _ xs _ _ H0.out.1 (by omega)).mono ?_
  rintro e w1 ⟨v, rfl, ho, hb⟩
  obtain ⟨A1, cc1, rfl, hcc1, hC1⟩ := Kd.R_reads ho
  have H1 := Lib.hid (And.intro hC1 (And.intro (H0.out.2.1.on hb) (And.intro (blk_below H0.out.2.2.1 hb) (below_step H0.out.2.2.2 hb))))
  clear ho hb hC1 H0
  go_wp2_with fail
  refine (HD.out A1 cc1 hcc1 w1 H1.out.1 H1.out.2.1).mono ?_
  rintro e w2 ⟨V, rfl, hin, hb2⟩
  have hr2 := blk_below H1.out.2.2.1 hb2
  have H2 := Lib.hid (And.intro hin (And.intro hr2 (below_step H1.out.2.2.2 hb2)))
  obtain ⟨r0, r1, r2, r3, r4, rf0, rf1, rf2, rf3, rf4⟩ := var_cells hr2
  clear hin hb2 hr2 H1
  go_wp2_with fail
  refine (told_any ⟨#[]⟩ ty ht.1 ht.2 V i' u' tx' w2 H2.out.1).mono ?_
  rintro e w3 ⟨rfl, hb3⟩
  have hr3 := blk_below H2.out.2.1 hb3
  have H3 := Lib.hid (And.intro hr3 (below_step H2.out.2.2 hb3))
  clear r0 r1 r2 r3 r4 rf0 rf1 rf2 rf3 rf4 hb3 H2
  obtain ⟨r0, r1, r2, r3, r4, rf0, rf1, rf2, rf3, rf4⟩ := var_cells hr3
  clear hr3
  go_wp2
  exact bodyPost_ret (results_ct rfl _ _ w.heap.size 24 #[.string ⟨#[]⟩, .int .i64 ty, .int .i64 i', .int .u64 u', .string (strOfNums tx')] (0, 0) _ rfl (setVar_new H3.out.1 _ _ _ _ _) Tryd.underlying24 rfl infoVar) rfl ⟨rfl, setVar_below H3.out.2 (Nat.le_refl _) _ _ _ _ _⟩
end Go.Proofs.YtangjgclpipjdaaDoor
