/- The lemmas and walks that FnDecode and FnCut and FnRead rests on, part 14: Elem Raw2 Open Pkt0 Pkt Hdr WOf SOfIntFnValue. -/
import Derived.OwnWalk
import Derived.Test.YtangjgclpipjdaaDoorProg
import Derived.Shelf.RegionOpenPlain
import Derived.Test.YtangjgclpipjdaaDoorQM6
import Derived.Test.YtangjgclpipjdaaDoorQM7
import Derived.Test.YtangjgclpipjdaaDoorQM10
import Derived.Test.YtangjgclpipjdaaDoorQM11
import Derived.Test.YtangjgclpipjdaaDoorQM13
set_option linter.unusedVariables false
namespace Go.Proofs.YtangjgclpipjdaaDoor
open Go.RowKit Go.Proofs.YtangjgclpipjdaaDoorW.PrintWords Go.Proofs.YtangjgclpipjdaaDoorW.PrintLast Go.Proofs.YtangjgclpipjdaaDoorW.PrintMore
theorem sNext_open {b c rest : List Int} {t : Int} (h : sNext b t = some (c, rest)) : sOpen b = some (t, c, rest) := by
  unfold sNext at h
  rcases ho : sOpen b with _ | ⟨t', c', r'⟩
  · rw [ho] at h; simp at h
  · rw [ho] at h
    simp only at h
    split at h
    · rename_i ht
      simp only [Option.some.injEq, Prod.mk.injEq] at h
      rw [ht, h.1, h.2]
    · simp at h
theorem elem_open {t : Int} {c rest xs : List Int} (ho : sOpen xs = some (t, c, rest)) (A : Option Addr) (cc : Nat) (hcc : xs.length ≤ cc) (hb : IsB xs) :
    ∃ A' c', Elem t c xs (xs.length - rest.length) A cc A' c' := by
  unfold sOpen at ho
  split at ho
  case isFalse => simp at ho
  rename_i hok
  simp only [Option.some.injEq, Prod.mk.injEq] at ho
  obtain ⟨rfl, rfl, rfl⟩ := ho
  obtain ⟨g1, g2, g3⟩ := pLen_ge xs hb hok
  obtain ⟨N1, hN1⟩ : ∃ N : Nat, (pLen xs).1 = N := ⟨_, (Int.toNat_of_nonneg (by omega)).symm⟩
  obtain ⟨N2, hN2⟩ : ∃ N : Nat, (pLen xs).2 = N := ⟨_, (Int.toNat_of_nonneg (by omega)).symm⟩
  have hp : pLen xs = ((N1 : Int), (N2 : Int)) := Prod.ext hN1 hN2
  rw [hN1, hN2] at g2
  rw [hN1] at g3
  rw [hN2] at g1
  rw [hN1, hN2, Int.toNat_natCast, Int.toNat_natCast]
  have hL : xs.length - (xs.drop N1).length = N1 := by simp; omega
  rw [hL]
  have hcl : ((xs.take N1).drop N2).length = N1 - N2 := by simp; omega
  have hB0 := hb.rd 0
  obtain ⟨a1, a2, a3, a4, -⟩ := hok
  obtain ⟨i, hi, hsz⟩ := infoU8e
  obtain ⟨A', h1, h2, h3⟩ := print_mid_of (P := Tryd.prog) (Value.int .u8) (0 : Int) 26 5 .i64 .i64 Tryd.underlying26 hi hsz A cc xs ((N1 : Int) - ((xs.take N1).drop N2).length) N1 (by omega) (by omega) (by omega) hcc
  have e1 : (((N1 : Int) - ((xs.take N1).drop N2).length).toNat) = N2 := by omega
  have e2 : ((N1 : Int).toNat) = N1 := by omega
  rw [e1, e2] at h1 h2 h3
  refine ⟨A', _, ?_, h1, fun w hr => Kd.C_of_reads (h1 := fun _ => rfl) (h2 w (Kd.reads_of_C hr)), fun w hr => ?_, h3, a1, by omega, by omega⟩
  · intro w hr
    refine (parseLength_any A cc xs w hr hb a1 a2 (by omega) a4).mono ?_
    rintro e w' ⟨rfl, rfl⟩
    rw [hp]
    exact ⟨by rw [show (N1 : Int) - ((xs.take N1).drop N2).length = N2 by omega], rfl⟩
  · obtain ⟨ad, rfl, g⟩ := cell_at hr 0 (by omega)
    refine ⟨ad, rfl, ?_⟩
    rw [Addr.add_zero'] at g
    rw [show rd xs 0 % 256 = rd xs 0 by omega]
    exact g
theorem sVal_bound (xs : List Int) : -9223372036854775808 ≤ sVal xs ∧ sVal xs ≤ 9223372036854775807 := by
  unfold sVal wrap64
  split <;> omega
theorem uPart_val (c : List Int) (hB : IsB c) (h : 1 ≤ (uPart c).length ∧ (uPart c).length ≤ 8) : beVal c 0 = beVal (uPart c) 0 ∧ 1 ≤ c.length ∧ (c.length ≤ 8 ∨ (c.length = 9 ∧ rd c 0 = 0)) ∧ 0 ≤ beVal c 0 ∧ beVal c 0 < 18446744073709551616 := by
  have key : ∀ l : List Int, IsB l → l.length ≤ 8 → 0 ≤ beVal l 0 ∧ beVal l 0 < 18446744073709551616 := fun l hl h8 => by
    have := beVal_bound l hl 0 (Int.le_refl 0)
    have hp : (256 : Int) ^ l.length ≤ 18446744073709551616 := by
      have : l.length = 0 ∨ l.length = 1 ∨ l.length = 2 ∨ l.length = 3 ∨ l.length = 4 ∨ l.length = 5 ∨ l.length = 6 ∨ l.length = 7 ∨ l.length = 8 := by omega
      rcases this with h | h | h | h | h | h | h | h | h <;> rw [h] <;> decide
    omega
  unfold uPart at *
  split
  · rename_i hz
    rw [if_pos hz] at h
    cases c with
    | nil => simp at hz
    | cons x l =>
      have hx : x = 0 := hz.2
      subst hx
      have e : beVal (0 :: l) 0 = beVal l 0 := rfl
      have hl : ((0 :: l).drop 1) = l := rfl
      rw [hl] at h ⊢
      have hk := key l (fun y hy => hB y (by simp [hy])) h.2
      refine ⟨e, by simp, .inr hz, ?_, ?_⟩
      · rw [e]; exact hk.1
      · rw [e]; exact hk.2
  · rename_i hz
    rw [if_neg hz] at h
    have hk := key c hB h.2
    exact ⟨rfl, h.1, .inl h.2, hk.1, hk.2⟩
theorem dots_isB : ∀ (l : List Int), IsB (dots l)
  | [] => fun x hx => by simp [dots] at hx
  | [a] => dec_isB _
  | a :: b :: l => by
    unfold dots
    exact isB_append (dec_isB _) (isB_cons (by omega) (by omega) (dots_isB (b :: l)))
/-- decodeValue at a whole element of any type that is read. -/
theorem decT_any {ty i' u' : Int} {tx' c : List Int} (hT : sTold ty c = some (i', u', tx')) (h67 : ty = 67 → u' ≤ 4294967295) (hB : IsB c) (hcl : c.length ≤ 50000) (xs : List Int) (L : Nat) (A : Option Addr) (cc : Nat) (A' : Option Addr) (c' : Nat) (hE : Elem ty c xs L A cc A' c') (hL : L = xs.length) (hx : xs.length ≤ 100000)
    (w : World) (hr : Kd.C (Kd.int .u8) w A xs.length xs) (z : Addr) (hTab : Tabs z w)
    (gx g : Nat) (hgx : w.heap[gx]? = some (.cells #[] 103 (0, 0))) (hg : w.heap[g]? = some (vbO .nilIface 0)) (hA : ∀ ad, A = some ad → ad.block ≠ g) (gz4 : g ≠ 13) (gz0 : g ≠ 9) :
    Calls Tryd.prog 49 #[.pointer (some ⟨gx, 0, none⟩), .slice A xs.length cc, .pointer (some ⟨g, 0, none⟩)] w fun e w' => e = .returned .nilIface ∧ ∃ V, Decoded w w' g V ty ∧ ∀ W, Kd.C (Kd.int .u8) W A xs.length xs → ToldIn W V i' u' tx' := by
  have fin : ∀ {V : Value} {t : Int}, (∀ W, Kd.C (Kd.int .u8) W A xs.length xs → ToldIn W V i' u' tx') → t = ty → Calls Tryd.prog 49 #[.pointer (some ⟨gx, 0, none⟩), .slice A xs.length cc, .pointer (some ⟨g, 0, none⟩)] w (fun e w' => e = .returned .nilIface ∧ Decoded w w' g V t) →
      Calls Tryd.prog 49 #[.pointer (some ⟨gx, 0, none⟩), .slice A xs.length cc, .pointer (some ⟨g, 0, none⟩)] w fun e w' => e = .returned .nilIface ∧ ∃ V, Decoded w w' g V ty ∧ ∀ W, Kd.C (Kd.int .u8) W A xs.length xs → ToldIn W V i' u' tx' := by
    intro V t h2 ht hC
    refine hC.mono ?_
    rintro e w' ⟨rfl, hD⟩
    exact ⟨rfl, V, ht ▸ hD, h2⟩
  unfold sTold at hT
  split at hT
  · rename_i h; subst h
    split at hT
    case isFalse => simp at hT
    rename_i hl
    simp only [Option.some.injEq, Prod.mk.injEq] at hT
    obtain ⟨rfl, rfl, rfl⟩ := hT
    have hb := sVal_bound c
    exact fin (fun _ _ => .int _ hb.1 hb.2) rfl (dec_int .nilIface A cc xs _ _ A' c' g hB hl.1 hl.2 hE hx hL w hr hTab.asn gx hgx hg hA)
  split at hT
  · rename_i h; subst h
    simp only [Option.some.injEq, Prod.mk.injEq] at hT
    obtain ⟨rfl, rfl, rfl⟩ := hT
    obtain ⟨ad, rfl, -⟩ := hE.head w hr
    exact fin (fun W hW => .bytes A' c' _ (by omega) (hE.reads W hW)) rfl (dec_oct _ (some ad) cc xs _ A' c' g hE hx hL w hr gx hgx hg hA)
  split at hT
  · rename_i h
    split at hT
    case isFalse => simp at hT
    rename_i hl
    simp only [Option.some.injEq, Prod.mk.injEq] at hT
    obtain ⟨rfl, rfl, rfl⟩ := hT
    rcases h with rfl | rfl | rfl | rfl
    · exact fin (fun _ _ => .nil) rfl (dec_null5 _ A cc xs _ A' c' g hE hx hL w hr gx hgx hg hA)
    · exact fin (fun _ _ => .nil) rfl (dec_null128 _ A cc xs _ A' c' g hE hx hL w hr gx hgx hg hA)
    · exact fin (fun _ _ => .nil) rfl (dec_null129 _ A cc xs _ A' c' g hE hx hL w hr gx hgx hg hA)
    · exact fin (fun _ _ => .nil) rfl (dec_null130 _ A cc xs _ A' c' g hE hx hL w hr gx hgx hg hA)
  split at hT
  · rename_i h; subst h
    split at hT
    case isFalse => simp at hT
    rename_i hf
    simp only [Option.some.injEq, Prod.mk.injEq] at hT
    obtain ⟨rfl, rfl, rfl⟩ := hT
    obtain ⟨x, y, l, ha, hc, x0, x2, y0, y2, hbd, hll⟩ := sOf_text c hB (sOf c).1 (Prod.ext rfl hf)
    rw [ha] at hc hll fin ⊢
    have hs := bs_strOfNums (sDot (x :: y :: l)) (sDot_isB _)
    have hin : ∀ w', ToldIn w' (.iface 9 (.string (strOfNums (sDot (x :: y :: l))))) 0 0 (sDot (x :: y :: l)) := fun w' => by
      have := ToldIn.str (w := w') (strOfNums (sDot (x :: y :: l)))
      rwa [hs] at this
    exact fin (fun w' _ => hin w') rfl (dec_oid x y l _ _ x0 x2 y0 y2 hbd (by simp at hll; omega) rfl hc A cc xs _ A' c' g hE hx hL w hr hTab.pow gx hgx hg hA)
  split at hT
  · rename_i h; subst h
    split at hT
    case isFalse => simp at hT
    rename_i hl
    simp only [Option.some.injEq, Prod.mk.injEq] at hT
    obtain ⟨rfl, rfl, rfl⟩ := hT
    obtain ⟨a, b, e, d, rfl⟩ : ∃ a b e d, c = [a, b, e, d] := by
      rcases c with _ | ⟨a, _ | ⟨b, _ | ⟨e, _ | ⟨d, _ | ⟨f, l⟩⟩⟩⟩⟩
      · simp at hl
      · simp at hl
      · simp at hl
      · simp at hl
      · exact ⟨a, b, e, d, rfl⟩
      · simp at hl
    have hs := bs_strOfNums (dots [a, b, e, d]) (dots_isB _)
    have hin : ∀ w', ToldIn w' (.iface 9 (.string (strOfNums (dots [a, b, e, d])))) 0 0 (dots [a, b, e, d]) := fun w' => by
      have := ToldIn.str (w := w') (strOfNums (dots [a, b, e, d]))
      rwa [hs] at this
    exact fin (fun w' _ => hin w') rfl (dec_addr a b e d z _ (hB a (by simp)) (hB b (by simp)) (hB e (by simp)) (hB d (by simp)) rfl A cc xs _ A' c' g hE hx hL w hr gx hgx hg hA hTab.z4 gz4 gz0)
  split at hT
  · rename_i h
    split at hT
    case isFalse => simp at hT
    rename_i hl
    simp only [Option.some.injEq, Prod.mk.injEq] at hT
    obtain ⟨rfl, rfl, rfl⟩ := hT
    obtain ⟨hv, hl1, hl9, v0, v1⟩ := uPart_val c hB hl
    rw [← hv] at h67 fin ⊢
    rcases h with rfl | rfl | rfl | rfl
    · exact fin (fun _ _ => .uint _ v0 (by omega)) rfl (dec_cnt _ hB hl1 hl9 (by omega) A cc xs _ A' c' g hE hx hL w hr gx hgx hg hA)
    · exact fin (fun _ _ => .uint _ v0 (by omega)) rfl (dec_gau _ hB hl1 hl9 (by omega) A cc xs _ A' c' g hE hx hL w hr gx hgx hg hA)
    · have h32 := h67 rfl
      exact fin (fun _ _ => .u32 _ v0 h32) rfl (dec_tick _ hB hl1 hl9 (by omega) A cc xs _ A' c' g hE hx hL w hr gx hgx hg hA)
    · exact fin (fun _ _ => .u64 _ v0 (by omega)) rfl (dec_c64 _ hB hl1 hl9 (by omega) A cc xs _ A' c' g hE hx hL w hr gx hgx hg hA)
  · simp at hT
end Go.Proofs.YtangjgclpipjdaaDoor
set_option linter.unusedVariables false
namespace Go.Proofs.YtangjgclpipjdaaDoor
open Go.RowKit Go.Proofs.YtangjgclpipjdaaDoorW.PrintWords Go.Proofs.YtangjgclpipjdaaDoorW.PrintLast Go.Proofs.YtangjgclpipjdaaDoorW.PrintMore
set_option maxRecDepth 100000 in
theorem parseRaw_int (A : Option Addr) (cc : Nat) (xs c : List Int) (L : Nat) (A' : Option Addr) (c' : Nat) (msg : ByteArray) (hB : IsB c) (c1 : 1 ≤ c.length) (c8 : c.length ≤ 8) (hE : Elem 2 c xs L A cc A' c') (hx : xs.length ≤ 100000) (w : World) (hr : Kd.C (Kd.int .u8) w A xs.length xs) :
    Calls Tryd.prog 74 #[.agg #[], .slice A xs.length cc, .string msg] w fun e w' => e = .returned (.tuple #[.iface 3 (.int .i64 (sVal c)), .int .i64 L, .nilIface]) ∧ Below w.heap.size w w' := by
  have two := hE.two
  have hll := hE.len
  have hcl := hE.clen
  have hcut := hE.cut
  have HE := Lib.hid (And.intro hE (And.intro hr hB))
  obtain ⟨ad, rfl, c0⟩ := hE.head w hr
  clear hE hr hB
  go_enter Tryd.func74, Tryd.ntmps74
  have b0w := ((Below.refl w.heap.size w).alloc (Nat.le_refl _) (.cells #[] 88)).alloc (by simp) (.cells #[.iface 9 (.string msg)] 20)
  go_wp2_with fail
  refine (printf_any _ _ _).mono ?_
  rintro e w1 ⟨rfl, hb1⟩
  have b1 := below_step b0w hb1
  have H1 := Lib.hid (And.intro b1 (Kd.C_below HE.out.2.1 b1))
  have c1' := (b1.cell (World.block_lt_of_cell? _ _ c0)).trans c0
  have L0 : (0 : Int) ≤ L := by omega
  have L1 : (L : Int) ≤ xs.length := by omega
  have L2 : (L : Int) - c.length ≤ L := by omega
  have L3 : (0 : Int) ≤ (L : Int) - c.length := by omega
  clear hb1 b1 b0w c0
  go_wp2_with fail
  refine (HE.out.1.parse _ H1.out.2).mono ?_
  rintro e w2 ⟨rfl, rfl⟩
  go_wp2_with fail
  refine (parseInt_any A' c' c _ (HE.out.1.reads _ H1.out.2) HE.out.2.2 c1 c8).mono ?_
  rintro e w3 ⟨rfl, hb3⟩
  have H3 := Lib.hid (below_step H1.out.1 hb3)
  clear hb3
  go_wp2
  go_ret3
  exact ⟨rfl, H3.out⟩
set_option maxRecDepth 100000 in
theorem parseRaw_oct (A : Option Addr) (cc : Nat) (xs c : List Int) (L : Nat) (A' : Option Addr) (c' : Nat) (msg : ByteArray) (hE : Elem 4 c xs L A cc A' c') (hx : xs.length ≤ 100000) (w : World) (hr : Kd.C (Kd.int .u8) w A xs.length xs) :
    Calls Tryd.prog 74 #[.agg #[], .slice A xs.length cc, .string msg] w fun e w' => e = .returned (.tuple #[.iface 9 (.string (strOfNums c)), .int .i64 L, .nilIface]) ∧ Below w.heap.size w w' := by
  obtain ⟨s, hs⟩ : ∃ s, s = strOfNums c := ⟨_, rfl⟩
  rw [← hs]
  have HS := Lib.hid hs
  clear hs
  have two := hE.two
  have hll := hE.len
  have hcl := hE.clen
  have hcut := hE.cut
  have HE := Lib.hid (And.intro hE hr)
  obtain ⟨ad, rfl, c0⟩ := hE.head w hr
  clear hE hr
  go_enter Tryd.func74, Tryd.ntmps74
  have b0w := ((Below.refl w.heap.size w).alloc (Nat.le_refl _) (.cells #[] 88)).alloc (by simp) (.cells #[.iface 9 (.string msg)] 20)
  go_wp2_with fail
  refine (printf_any _ _ _).mono ?_
  rintro e w1 ⟨rfl, hb1⟩
  have b1 := below_step b0w hb1
  have H1 := Lib.hid (And.intro b1 (Kd.C_below HE.out.2 b1))
  have c1' := (b1.cell (World.block_lt_of_cell? _ _ c0)).trans c0
  have L0 : (0 : Int) ≤ L := by omega
  have L1 : (L : Int) ≤ xs.length := by omega
  have L2 : (L : Int) - c.length ≤ L := by omega
  have L3 : (0 : Int) ≤ (L : Int) - c.length := by omega
  clear hb1 b1 b0w c0
  go_wp2_with fail
  refine (HE.out.1.parse _ H1.out.2).mono ?_
  rintro e w2 ⟨rfl, rfl⟩
  have hcv := Kd.C_string (P := Tryd.prog) Tryd.underlying26 Tryd.underlying5 Tryd.underlying9 (HE.out.1.reads _ H1.out.2) (c := c')
  rw [← HS.out] at hcv
  go_wp2
  go_ret3
  exact ⟨rfl, H1.out.1⟩
theorem parseRaw_name (A : Option Addr) (cc : Nat) (xs c : List Int) (L : Nat) (A' : Option Addr) (c' : Nat) (msg : ByteArray) (hB : IsB c) (arcs : List Int) (hn : sOf c = (arcs, true)) (hE : Elem 6 c xs L A cc A' c') (hx : xs.length ≤ 100000) (w : World) (hr : Kd.C (Kd.int .u8) w A xs.length xs) (ht : PowTab w) :
    Calls Tryd.prog 74 #[.agg #[], .slice A xs.length cc, .string msg] w fun e w' => e = .returned (.tuple #[.iface 9 (.string (strOfNums (sDot arcs))), .int .i64 L, .nilIface]) ∧ Below w.heap.size w w' := by
  obtain ⟨x, y, l, rfl, rfl, x0, x2, y0, y2, hbd, hll⟩ := sOf_text c hB arcs hn
  exact parseRaw_oid A cc xs L A' c' msg x y l x0 x2 y0 y2 hbd (by simp at hll; omega) hE hx w hr ht
end Go.Proofs.YtangjgclpipjdaaDoor
set_option linter.unusedVariables false
namespace Go.Proofs.YtangjgclpipjdaaDoor
open Go.RowKit Go.Proofs.YtangjgclpipjdaaDoorW.PrintWords Go.Proofs.YtangjgclpipjdaaDoorW.PrintLast Go.Proofs.YtangjgclpipjdaaDoorW.PrintMore
/-- A cut of a slice: wherever the slice reads as xs, the cut reads as x. -/
def Cut (A : Option Addr) (xs : List Int) (A1 : Option Addr) (c1 : Nat) (x : List Int) : Prop := x.length ≤ c1 ∧ ∀ W, Kd.C (Kd.int .u8) W A xs.length xs → Kd.C (Kd.int .u8) W A1 x.length x
def GotO (A : Option Addr) (xs : List Int) (w w' : World) (e : Ending) : Prop := Below w.heap.size w w' ∧
  ((sOpen xs = none ∧ e = .returned (.tuple #[.int .i64 0, .slice none 0 0, .slice none 0 0, .bool false])) ∨
   ∃ t x y A1 c1 A2 c2, sOpen xs = some (t, x, y) ∧ e = .returned (.tuple #[.int .i64 t, .slice A1 x.length c1, .slice A2 y.length c2, .bool true]) ∧ Cut A xs A1 c1 x ∧ Cut A xs A2 c2 y)
theorem infoSz : ∃ i, Tryd.prog.info? 5 = some i ∧ i.size = 1 := by
  have h := infoB
  cases hi : Tryd.prog.info? 5 with
  | none => rw [hi] at h; simp at h
  | some i => rw [hi] at h; simp at h; exact ⟨i, rfl, h.2.1⟩
theorem results_tmp4 {fn : Func} {t u v x : Tmp} (h : fn.results = #[.tmp t, .tmp u, .tmp v, .tmp x]) (tmps : Array Value) (P : Program) (w : World) :
    (results fn tmps).run P w = .ok (.tuple #[tmps.getD t undef, tmps.getD u undef, tmps.getD v undef, tmps.getD x undef]) w := by
  simp [results, h]
set_option maxRecDepth 100000 in
/-- The two cuts at a place and behind it, as the program makes them. -/
theorem open_cuts (A : Option Addr) (c : Nat) (xs : List Int) (hc : xs.length ≤ c) (at_ tot : Nat) (h1 : at_ ≤ tot) (h2 : tot ≤ xs.length) (ai ti : Int) (ha : ai = at_) (ht : ti = tot) :
    ∃ A1 A2, (∀ W : World, (Instr.slice 26 (.slice A xs.length c) (some (.int .i64 ai)) (some (.int .i64 ti)) none).run Tryd.prog W = .ok (.slice A1 ((xs.take tot).drop at_).length (c - at_)) W) ∧
      (∀ W : World, (Instr.slice 26 (.slice A xs.length c) (some (.int .i64 ti)) none none).run Tryd.prog W = .ok (.slice A2 (xs.drop tot).length (c - tot)) W) ∧
      Cut A xs A1 (c - at_) ((xs.take tot).drop at_) ∧ Cut A xs A2 (c - tot) (xs.drop tot) := by
  subst ha
  subst ht
  obtain ⟨i, hi, hsz⟩ := infoSz
  refine ⟨_, _, fun W => ?_, fun W => ?_, ⟨?_, fun W hC => Kd.C_mid hC h1 h2 hc⟩, ⟨?_, fun W hC => Kd.C_drop hC h2 hc⟩⟩
  · have := cut_mid 26 5 .i64 .i64 Tryd.underlying26 hi 1 hsz A xs.length c (at_ : Int) (tot : Int) (by omega) (by omega) (by omega) hc W
    simp only [Int.toNat_natCast] at this
    rw [this]
    congr 2
    simp
    omega
  · have := cut_from 26 5 .i64 Tryd.underlying26 hi 1 hsz A xs.length c (tot : Int) (by omega) (by omega) W
    simp only [Int.toNat_natCast] at this
    rw [this]
    congr 2
    simp
  · simp; omega
  · simp; omega
set_option maxRecDepth 100000 in
set_option maxHeartbeats 4000000 in
theorem open_few (A : Option Addr) (c : Nat) (xs : List Int) (w : World) (hr : Kd.C (Kd.int .u8) w A xs.length xs) (hc : xs.length ≤ c) (hb : IsB xs) (h2 : xs.length < 2) :
    Calls Tryd.prog 31 #[.slice A xs.length c] w fun e w' => GotO A xs w w' e := by
  have hn : sOpen xs = none := if_neg (fun h => by have := h.1; omega)
  have HN := Lib.hid hn
  clear hn hr hb
  go_enter Tryd.func31, Tryd.ntmps31
  go_wp2
  exact bodyPost_ret (results_tmp4 rfl _ _ _) rfl ⟨Below.refl _ _, .inl ⟨HN.out, rfl⟩⟩
set_option maxRecDepth 100000 in
set_option maxHeartbeats 4000000 in
theorem open_short (A : Option Addr) (c : Nat) (xs : List Int) (w : World) (hr : Kd.C (Kd.int .u8) w A xs.length xs) (hc : xs.length ≤ c) (hb : IsB xs) (h2 : 2 ≤ xs.length) (h : rd xs 1 ≤ 127) :
    Calls Tryd.prog 31 #[.slice A xs.length c] w fun e w' => GotO A xs w w' e := by
  obtain ⟨ad, rfl, hx1⟩ := cell_at hr 1 (by omega)
  obtain ⟨ad0, e0, hx0⟩ := cell_at hr 0 (by omega)
  obtain rfl : ad = ad0 := by injection e0
  simp [Addr.add] at hx0 hx1
  have hb0 := hb.rd 0
  have hb1 := hb.rd 1
  have hp : pLen xs = (rd xs 1 + 2, 2) := if_pos h
  have hmax := Kd.C_max hr
  have hw : wrap64 ((xs.length : Int) - 2) = (xs.length : Int) - 2 := by unfold wrap64; omega
  have HR := Lib.hid hr
  clear e0 hr
  by_cases hle : rd xs 1 + 2 ≤ xs.length
  · obtain ⟨n, hn⟩ : ∃ n : Nat, rd xs 1 = n := ⟨(rd xs 1).toNat, by omega⟩
    have ho : sOpen xs = some (rd xs 0, (xs.take (n + 2)).drop 2, xs.drop (n + 2)) := by
      have hok : OpenOk xs := ⟨h2, by omega, by omega, fun h => by omega, by rw [hp]; exact hle⟩
      unfold sOpen
      rw [if_pos hok, hp, hn]
      simp only [show ((n : Int) + 2).toNat = n + 2 by omega, show (2 : Int).toNat = 2 from rfl]
    obtain ⟨A1, A2, hc1, hc2, k1, k2⟩ := open_cuts (some ad) c xs hc 2 (n + 2) (by omega) (by omega) 2 (2 + n) rfl (by omega)
    generalize (xs.take (n + 2)).drop 2 = x at ho hc1 k1
    generalize xs.drop (n + 2) = y at ho hc2 k2
    have HO := Lib.hid (And.intro ho (And.intro k1 k2))
    rw [hn] at hx1 h hle
    clear ho k1 k2 hp hn
    go_enter Tryd.func31, Tryd.ntmps31
    go_wp2_with fail
    go_quiet (fail)
    go_wp2_with fail
    go_quiet (fail)
    go_wp2
    exact bodyPost_ret (results_tmp4 rfl _ _ _) rfl ⟨pw_below_drewN (pw_below_drewN (Below.refl _ _) _) _, .inr ⟨_, x, y, A1, _, A2, _, HO.out.1, rfl, HO.out.2.1, HO.out.2.2⟩⟩
  · have hn : sOpen xs = none := if_neg (fun h => by have := h.2.2.2.2; rw [hp] at this; simp only at this; omega)
    have HN := Lib.hid hn
    clear hn hp hb
    generalize rd xs 1 = n at *
    go_enter Tryd.func31, Tryd.ntmps31
    go_wp2_with fail
    go_quiet (fail)
    go_wp2
    exact bodyPost_ret (results_tmp4 rfl _ _ _) rfl ⟨pw_below_drewN (Below.refl _ _) _, .inl ⟨HN.out, rfl⟩⟩
theorem i64_join8 (v y : Int) (h0 : 0 ≤ v) (h1 : v < 281474976710656) (y0 : 0 ≤ y) (y1 : y ≤ 255) : bits .or .i64 (v * 256) y = v * 256 + y := by
  rw [i64_or_low _ _ (by omega) y0 (by omega)]
  unfold wrap64
  omega
theorem beVal_takeO (ys : List Int) (i : Nat) (h : i < ys.length) : beVal (ys.take (i + 1)) 0 = beVal (ys.take i) 0 * 256 + rd ys i := by
  rw [List.take_add_one, List.getElem?_eq_getElem h, Option.toList_some, beVal_snoc]
  simp [Go.Proofs.YtangjgclpipjdaaDoorW.PrintWords.rd, List.getD_eq_getElem?_getD, h]
theorem pow_le4O (k : Nat) (hk : k ≤ 4) : (256 : Int) ^ k ≤ 4294967296 := by
  have : k = 0 ∨ k = 1 ∨ k = 2 ∨ k = 3 ∨ k = 4 := by omega
  rcases this with rfl | rfl | rfl | rfl | rfl <;> decide
set_option maxRecDepth 100000 in
set_option maxHeartbeats 4000000 in
theorem open_long (A : Option Addr) (c : Nat) (xs : List Int) (w : World) (hr : Kd.C (Kd.int .u8) w A xs.length xs) (hc : xs.length ≤ c) (hb : IsB xs) (h2 : 2 ≤ xs.length) (h : 128 ≤ rd xs 1) :
    Calls Tryd.prog 31 #[.slice A xs.length c] w fun e w' => GotO A xs w w' e := by
  obtain ⟨ad, rfl, hx1⟩ := cell_at hr 1 (by omega)
  obtain ⟨ad0, e0, hx0⟩ := cell_at hr 0 (by omega)
  obtain rfl : ad = ad0 := by injection e0
  simp [Addr.add] at hx0 hx1
  have hb0 := hb.rd 0
  have hb1 := hb.rd 1
  have hp : pLen xs = (beVal ((xs.drop 2).take (rd xs 1 - 128).toNat) 0 + 2 + (rd xs 1 - 128), 2 + (rd xs 1 - 128)) := if_neg (by omega)
  have hmax := Kd.C_max hr
  have hw : ∀ k : Int, 0 ≤ k → k ≤ 255 → wrap64 ((xs.length : Int) - (2 + k)) = (xs.length : Int) - (2 + k) := fun k _ _ => by unfold wrap64; omega
  obtain ⟨k, hk⟩ : ∃ k : Nat, rd xs 1 = 128 + k := ⟨(rd xs 1 - 128).toNat, by omega⟩
  have hk2 : rd xs 1 - 128 = k := by omega
  rw [hk2] at hp
  simp only [Int.toNat_natCast] at hp
  have HR := Lib.hid (And.intro hr hb)
  by_cases hbad : k = 0 ∨ 4 < k ∨ xs.length < 2 + k
  · have hn : sOpen xs = none := if_neg (fun h => by
      obtain ⟨-, a1, a2, a3, -⟩ := h
      have := a3 (by omega)
      omega)
    have HN := Lib.hid hn
    rw [hk] at hx1 h hb1
    clear hn hp hr hb hk hk2 e0
    have e1 : (128 : Int) + k - 128 = k := by omega
    rcases hbad with rfl | hbad | hbad
    · go_enter Tryd.func31, Tryd.ntmps31
      go_wp2_with fail
      go_quiet (fail)
      go_wp2
      all_goals exact bodyPost_ret (results_tmp4 rfl _ _ _) rfl ⟨pw_below_drewN (Below.refl _ _) _, .inl ⟨HN.out, rfl⟩⟩
    · have d0 : ((k : Int) == 0) = false := beq_eq_false_iff_ne.2 (by omega)
      go_enter Tryd.func31, Tryd.ntmps31
      go_wp2_with fail
      go_quiet (fail)
      go_wp2
      all_goals exact bodyPost_ret (results_tmp4 rfl _ _ _) rfl ⟨pw_below_drewN (Below.refl _ _) _, .inl ⟨HN.out, rfl⟩⟩
    · by_cases k0 : k = 0
      · subst k0
        omega
      · have d0 : ((k : Int) == 0) = false := beq_eq_false_iff_ne.2 (by omega)
        go_enter Tryd.func31, Tryd.ntmps31
        go_wp2_with fail
        go_quiet (fail)
        go_wp2
        all_goals exact bodyPost_ret (results_tmp4 rfl _ _ _) rfl ⟨pw_below_drewN (Below.refl _ _) _, .inl ⟨HN.out, rfl⟩⟩
  · have k1 : 1 ≤ k := by omega
    have k4 : k ≤ 4 := by omega
    have kl : 2 + k ≤ xs.length := by omega
    obtain ⟨B1, B2, hcb, -, kb, -⟩ := open_cuts (some ad) c xs hc 2 (2 + k) (by omega) (by omega) 2 (2 + k) rfl (by omega)
    have hyl : ((xs.take (2 + k)).drop 2).length = k := by simp; omega
    have hye : (xs.take (2 + k)).drop 2 = (xs.drop 2).take k := by rw [List.drop_take]; congr 1; omega
    rw [hyl] at hcb
    rw [hye] at kb hyl
    have hkC := kb.2 w hr
    rw [hyl] at hkC
    have hyb : IsB ((xs.drop 2).take k) := isB_take (isB_drop hb 2) k
    obtain ⟨ys, hys⟩ : ∃ ys, ys = (xs.drop 2).take k := ⟨_, rfl⟩
    rw [← hys] at hkC hyl hyb hp
    have HY := Lib.hid (And.intro hys (And.intro hkC hyb))
    have HP := Lib.hid hp
    rw [hk] at hx1 h hb1
    have HK := Lib.hid hk
    have d0 : ((k : Int) == 0) = false := beq_eq_false_iff_ne.2 (by omega)
    have e1 : (128 : Int) + k - 128 = k := by omega
    clear hp hr hb hk hk2 e0 hys hkC hyb kb hye hbad
    go_enter Tryd.func31, Tryd.ntmps31
    go_wp2_with fail
    go_quiet (fail)
    go_wp2
    go_loop [7, 11, 45] (fun v _ j => ∃ i : Nat, i ≤ k ∧ j = .int .i64 i ∧ v = .int .i64 (beVal (ys.take i) 0)) (fun _ _ j => k - (intOf j).toNat)
    case atStart => exact ⟨0, Nat.zero_le _, rfl, rfl⟩
    case round =>
      obtain ⟨i, hi, rfl, rfl⟩ := hrel
      by_cases hlt : i < k
      · obtain ⟨hys, hkC, hyb⟩ := HY.out
        rw [← hyl] at hkC
        obtain ⟨ad1, rfl, hcl⟩ := cell_at hkC i (by omega)
        have hst := beVal_takeO ys i (by omega)
        have hbd := beVal_bound (ys.take i) (isB_take hyb i) 0 (Int.le_refl 0)
        have hp := pow_le4O i (by omega)
        have hr2 := hyb.rd i
        have hlen : (ys.take i).length = i := by simp; omega
        rw [hlen] at hbd
        have HS := Lib.hid hst
        have b0 := hbd.1
        have b1 : beVal (ys.take i) 0 < 281474976710656 := by omega
        have r0 := hr2.1
        have r1 := hr2.2
        clear hst hbd hp hlen hr2 hys hkC hyb
        generalize beVal (ys.take i) 0 = v at *
        generalize rd ys i = y at *
        have hor := i64_join8 v y b0 b1 r0 r1
        go_wp2
        go_round
        case rel => exact ⟨i + 1, by omega, by go_num, by rw [HS.out]⟩
        case measure => simp [intOf]; omega
      · obtain rfl : i = k := by omega
        obtain ⟨hys, hkC, hyb⟩ := HY.out
        have hbd := beVal_bound ys hyb 0 (Int.le_refl 0)
        have hp4 := pow_le4O i k4
        rw [hyl] at hbd
        rw [List.take_of_length_le (by omega)]
        have hp := HP.out
        obtain ⟨N, hN⟩ : ∃ N : Nat, beVal ys 0 = N := ⟨(beVal ys 0).toNat, by omega⟩
        have hN4 : N ≤ 4294967296 := by omega
        rw [hN] at hp
        have hok : OpenOk xs ↔ (N : Int) + 2 + i ≤ xs.length := by
          have hk := HK.out
          unfold OpenOk
          rw [hp, hk]
          simp only
          omega
        have hwl := hw i (by omega) (by omega)
        by_cases hle : (N : Int) + 2 + i ≤ xs.length
        · have ho : sOpen xs = some (rd xs 0, (xs.take (N + 2 + i)).drop (2 + i), xs.drop (N + 2 + i)) := by
            unfold sOpen
            rw [if_pos (hok.2 hle), hp]
            simp only [show ((N : Int) + 2 + i).toNat = N + 2 + i by omega, show (2 + (i : Int)).toNat = 2 + i by omega]
          obtain ⟨A1, A2, hc1, hc2, c1, c2⟩ := open_cuts (some ad) c xs hc (2 + i) (N + 2 + i) (by omega) (by omega) (2 + i) (2 + i + N) (by omega) (by omega)
          generalize (xs.take (N + 2 + i)).drop (2 + i) = x at ho hc1 c1
          generalize xs.drop (N + 2 + i) = y at ho hc2 c2
          have HO := Lib.hid (And.intro ho (And.intro c1 c2))
          clear ho c1 c2 hok hp hbd hp4 hys hkC hyb HY HP HK hcb
          rw [hN]
          clear hN
          go_wp2_with fail
          go_quiet (fail)
          go_wp2
          exact bodyPost_ret (results_tmp4 rfl _ _ _) rfl ⟨pw_below_drewN (pw_below_drewN (Below.refl _ _) _) _, .inr ⟨_, x, y, A1, _, A2, _, HO.out.1, rfl, HO.out.2.1, HO.out.2.2⟩⟩
        · have HN := Lib.hid (show sOpen xs = none from if_neg (fun h => hle (hok.1 h)))
          clear hok hp hbd hp4 hys hkC hyb HY HP HK hcb
          rw [hN]
          clear hN
          go_wp2
          exact bodyPost_ret (results_tmp4 rfl _ _ _) rfl ⟨pw_below_drewN (Below.refl _ _) _, .inl ⟨HN.out, rfl⟩⟩
theorem open_any (A : Option Addr) (c : Nat) (xs : List Int) (w : World) (hr : Kd.C (Kd.int .u8) w A xs.length xs) (hc : xs.length ≤ c) (hb : IsB xs) :
    Calls Tryd.prog 31 #[.slice A xs.length c] w fun e w' => GotO A xs w w' e := by
  by_cases h2 : xs.length < 2
  · exact open_few A c xs w hr hc hb h2
  by_cases h : rd xs 1 ≤ 127
  · exact open_short A c xs w hr hc hb (by omega) h
  · exact open_long A c xs w hr hc hb (by omega) (by omega)
end Go.Proofs.YtangjgclpipjdaaDoor
set_option linter.unusedVariables false
namespace Go.Proofs.YtangjgclpipjdaaDoor
abbrev pduV (nm : ByteArray) (ty : Int) (v : Value) : Value := .agg #[v, .string nm, .int .u8 ty]
abbrev pduO (nm : ByteArray) (ty : Int) (v : Value) : Obj := .cells #[v, .string nm, .int .u8 ty] 60 (0, 0)
end Go.Proofs.YtangjgclpipjdaaDoor
set_option linter.unusedVariables false
namespace Go.Proofs.YtangjgclpipjdaaDoor
open Go.RowKit Go.Proofs.YtangjgclpipjdaaDoorW.PrintWords Go.Proofs.YtangjgclpipjdaaDoorW.PrintLast Go.Proofs.YtangjgclpipjdaaDoorW.PrintMore
/-- A value of type any, as a variable of the package holds it. -/
inductive PV
  | nil
  | ifc (t : TypeId) (x : Value)
def PV.val : PV → Value
  | .nil => .nilIface
  | .ifc t x => .iface t x
structure PduT where
  v : PV
  nm : ByteArray
  ty : Int
def PduT.cells (p : PduT) : List Value := [p.v.val, .string p.nm, .int .u8 p.ty]
def kPdu : Kd PduT := flat 3 PduT.cells (fun _ => rfl) (fun x u hu => by
  simp only [PduT.cells, List.mem_cons, List.not_mem_nil, or_false] at hu
  rcases hu with rfl | rfl | rfl
  · cases x.v <;> rfl
  · rfl
  · rfl)
theorem pdu_at {w : World} {A : Option Addr} {ps : List PduT} (h : Kd.C kPdu w A ps.length ps) (j : Nat) (hj : j < ps.length) : ∃ ad, A = some ad ∧
    w.cell? (ad.add (j * 3)) = some ps[j].v.val ∧ w.cell? ⟨(ad.add (j * 3)).block, (ad.add (j * 3)).off + 1, none⟩ = some (.string ps[j].nm) ∧ w.cell? ⟨(ad.add (j * 3)).block, (ad.add (j * 3)).off + 2, none⟩ = some (.int .u8 ps[j].ty) := by
  obtain ⟨ad, e, hc⟩ := h.2.2 (by omega)
  obtain ⟨cs, hl, hk, hcell⟩ := hc j ps[j] (List.getElem?_eq_getElem hj)
  have hk' : cs = ps[j].cells := hk
  subst hk'
  have h0 := hcell 0 _ rfl
  have h1 := hcell 1 _ rfl
  have h2 := hcell 2 _ rfl
  rw [add_step _ _ _ (by decide)] at h1 h2
  exact ⟨ad, e, h0, h1, h2⟩
/-- The package's message as a block: its version, community, kind, request id, status and index, non-repeaters and max-repetitions, list. -/
structure PktT where
  ver : Int
  com : ByteArray
  kind : Int
  id : Int
  er : Int
  ei : Int
  nr : Int
  mr : Int
abbrev PktT.arr (p : PktT) (v : Value) : Array Value := #[.int .u8 p.ver, .string p.com, .int .u8 p.kind, .int .u32 0, .int .u32 p.id, .int .u32 0, .int .u8 p.er, .int .u8 p.ei, .int .u8 p.nr, .int .u32 p.mr, v, .slice none 0 0, .bool false, .string ⟨#[]⟩, .string ⟨#[]⟩, .int .i64 0, .int .i64 0, .int .u64 0]
abbrev pktO (p : PktT) (v : Value) : Obj := .cells (p.arr v) 92 (0, 0)
def OwnP (w : World) (B : Nat) (v : Value) (xs : List PduT) : Prop := Kd.R kPdu 60 w B (fun _ => True) v xs
theorem infoPz : (Tryd.prog.info? 60).map (fun i => (i.zero, i.size, i.bytes)) = some (some (pduV ⟨#[]⟩ 0 .nilIface), 3, 40) := by kernel_rfl
theorem OwnP.block {w : World} {B : Nat} {v : Value} {xs : List PduT} (h : OwnP w B v xs) (k : Nat) (hk : v.ownBlock = some k) : B ≤ k := Kd.R_base h k hk
theorem OwnP.below {w w1 : World} {B : Nat} {v : Value} {xs : List PduT} (h : OwnP w B v xs) (hb : Below w.heap.size w w1) : OwnP w1 B v xs := Kd.R_below h hb
theorem OwnP.nil (w : World) (B : Nat) : OwnP w B (.slice none 0 0) [] := Kd.R_nil kPdu _ _ _ _
theorem OwnP.move {w w1 : World} {B : Nat} {v : Value} {xs : List PduT} (h : OwnP w B v xs) (hm : ∀ k, v.ownBlock = some k → w1.heap[k]? = w.heap[k]?) : OwnP w1 B v xs := by
  obtain ⟨h0, inner, ho, hr⟩ := h
  exact ⟨h0, inner, own_move ho hm, hr⟩
/-- .. as a step of a region that draws its order. -/
theorem app_pdu_step {W : World} {ops : Array Oper} {o : Oper} {a : Act} {Kc : Act → World → Prop} {Q : Exit → Act → World → Prop} (hw : Region.wanted o (yielded ops a.tmps) = true) (s x : Operand)
    (ho : o.op = .call { callee := .builtin .append, args := #[s, x], argTypes := #[86, 86] }) (B : Nat) (v : Value) (xs : List PduT) (p : PduT) (hs : a.eval s = v) {n : Nat} (hx : a.eval x = .slice (some ⟨n, 0, none⟩) 1 1) (hn : n = W.heap.size) (HO : OwnP W B v xs) (hB : B ≤ W.heap.size) (hl : xs.length ≤ 1000000)
    (h : ∀ v1 w1, OwnP w1 B v1 (xs ++ [p]) → W.grownBy w1 v.ownBlock → (v1.ownBlock = v.ownBlock ∨ ∃ b, v1.ownBlock = some b ∧ W.heap.size ≤ b) → Kc (a.put o.dst v1) w1) :
    if Region.wanted o (yielded ops a.tmps) = true then Oper.wp Tryd.prog o a (W.alloc (.cells p.cells.toArray 60)) Kc Q else Kc (a.put o.dst undef) (W.alloc (.cells p.cells.toArray 60)) :=
  Kd.R_append_step kPdu (w0 := W) B hw s x 86 60 (pduV ⟨#[]⟩ 0 .nilIface) 40 ho Tryd.underlying86 infoPz rfl (by decide) (by decide) v xs p p.cells (fun _ => True) (fun _ => False) hs (hn ▸ hx) rfl (fun _ h => h.elim) (fun _ _ => trivial) HO (Below.refl _ _) hB (by omega) (fun v1 w1 h1 _ hg hat => h v1 w1 h1 hg hat)
set_option maxRecDepth 100000 in
theorem make_pdu (w : World) : ∃ w', (Instr.makeSlice 86 (.int .i64 0) (.int .i64 5)).run Tryd.prog w = .ok (.slice (some ⟨w.heap.size, 0, none⟩) 0 5) w' ∧ OwnP w' w.heap.size (.slice (some ⟨w.heap.size, 0, none⟩) 0 5) [] ∧ Below w.heap.size w w' := by
  obtain ⟨i, hi, hz⟩ := Option.map_eq_some_iff.1 infoPz
  obtain ⟨h3, h4, h5⟩ : i.zero = some (pduV ⟨#[]⟩ 0 .nilIface) ∧ i.size = 3 ∧ i.bytes = 40 := by simpa using hz
  obtain ⟨w', hrun, r1, r2⟩ := run_make_own (P := Tryd.prog) w w.heap.size 86 60 i (pduV ⟨#[]⟩ 0 .nilIface) 3 Tryd.underlying86 hi h3 h4 .i64 .i64 5 (by rw [h5]; omega) (by simp [maxLen]) (Nat.le_refl _)
  exact ⟨w', hrun, ⟨fun _ _ => trivial, [], r1, Reps.none _ _⟩, (Below.refl _ _).grown r2 (by simp) (by simp)⟩
end Go.Proofs.YtangjgclpipjdaaDoor
set_option linter.unusedVariables false
namespace Go.Proofs.YtangjgclpipjdaaDoor
open Go.RowKit Go.Proofs.YtangjgclpipjdaaDoorW.PrintWords Go.Proofs.YtangjgclpipjdaaDoorW.PrintLast Go.Proofs.YtangjgclpipjdaaDoorW.PrintMore
/-- What stands behind an element, and an element's content, as ends of the bytes. -/
theorem sOpen_ends {xs c rest : List Int} {t : Int} (hb : IsB xs) (h : sOpen xs = some (t, c, rest)) : xs.drop (xs.length - rest.length) = rest ∧ (xs.take (xs.length - rest.length)).drop (xs.length - rest.length - c.length) = c ∧ c.length + rest.length + 2 ≤ xs.length := by
  have hl := sOpen_len hb h
  unfold sOpen at h
  split at h
  case isFalse => simp at h
  rename_i hok
  simp only [Option.some.injEq, Prod.mk.injEq] at h
  obtain ⟨rfl, rfl, rfl⟩ := h
  have := pLen_ge xs hb hok
  have e1 : xs.length - (xs.drop (pLen xs).1.toNat).length = (pLen xs).1.toNat := by simp; omega
  have e2 : ((xs.take (pLen xs).1.toNat).drop (pLen xs).2.toNat).length = (pLen xs).1.toNat - (pLen xs).2.toNat := by simp; omega
  refine ⟨by rw [e1], ?_, hl⟩
  rw [e1, e2]
  congr 1
  omega
theorem sOpen_all {xs c : List Int} {t : Int} (hb : IsB xs) (h : sOpen xs = some (t, c, [])) : xs.drop (xs.length - c.length) = c := by
  have := (sOpen_ends hb h).2.1
  simpa using this
theorem as_int (v : Value) (w : World) : (Instr.typeAssert (.iface 3 v) 20 3 true).run Tryd.prog w = .ok (.tuple #[v, .bool true]) w := by kernel_rfl
set_option maxRecDepth 100000 in
set_option maxHeartbeats 4000000 in
theorem version_any (xs inn cv in1 : List Int) (A : Option Addr) (cc : Nat) (hcc : xs.length ≤ cc) (hB : IsB xs) (ho : sOpen xs = some (48, inn, [])) (hv : sOpen inn = some (2, cv, in1)) (c1 : 1 ≤ cv.length) (c8 : cv.length ≤ 8) (v0 : 0 ≤ sVal cv) (v1 : sVal cv ≤ 1) (hn : 0 < in1.length) (hx : xs.length ≤ 100000)
    (w : World) (hr : Kd.C (Kd.int .u8) w A xs.length xs) (gx g : Nat) (pk : PktT) (V : Value) (hgx : w.heap[gx]? = some (.cells #[] 103 (0, 0))) (hg : w.heap[g]? = some (pktO pk V)) (hA : ∀ ad, A = some ad → ad.block ≠ g) :
    Calls Tryd.prog 87 #[.pointer (some ⟨gx, 0, none⟩), .slice A xs.length cc, .pointer (some ⟨g, 0, none⟩)] w fun e w' => e = .returned (.tuple #[.int .u8 (sVal cv), .int .i64 ((xs.length : Int) - in1.length), .nilIface]) ∧ ∃ V', w'.heap[g]? = some (pktO pk V') ∧ Kd.R kPdu 60 w' w.heap.size (fun _ => True) V' [] ∧ KeptG w w' g := by
  obtain ⟨A0, c0, hE⟩ := elem_open ho A cc hcc hB
  rw [List.length_nil, Nat.sub_zero] at hE
  have two := hE.two
  obtain ⟨ad, rfl, k0⟩ := hE.head w hr
  have hE1 := sOpen_all hB ho
  have hl1 := (sOpen_ends hB ho).2.2
  have hBi := sOpen_isB hB ho
  have hBv := sOpen_isB hBi.1 hv
  obtain ⟨wm, hrun, hown, hbm⟩ := make_pdu w
  have hgm := blk_below hg hbm
  have k10 : wm.cell? ⟨g, 10, none⟩ = some V := (blk_cell hgm 10).trans rfl
  have f10 := blk_frozen hgm 10
  have k0 := cell_up' k0 hbm
  have hput : (wm.setCell ⟨g, 10, none⟩ (.slice (some ⟨w.heap.size, 0, none⟩) 0 5)).heap[g]? = some (pktO pk (.slice (some ⟨w.heap.size, 0, none⟩) 0 5)) := blk_put (cs' := pk.arr (.slice (some ⟨w.heap.size, 0, none⟩) 0 5)) hgm 10 _ rfl
  have hkg : KeptG w (wm.setCell ⟨g, 10, none⟩ (.slice (some ⟨w.heap.size, 0, none⟩) 0 5)) g := kept_one 10 (keptG_of hbm) _
  have hgl := blk_lt hg
  have hown2 : OwnP (wm.setCell ⟨g, 10, none⟩ (.slice (some ⟨w.heap.size, 0, none⟩) 0 5)) w.heap.size (.slice (some ⟨w.heap.size, 0, none⟩) 0 5) [] := hown.move (fun k hk => Below.heap_setCell _ _ _ _ (by have := hown.block k hk; show k ≠ g; omega))
  have hr2 := C_keptA hr (hA ad rfl) hkg.kept
  have k0' : (wm.setCell ⟨g, 10, none⟩ (.slice (some ⟨w.heap.size, 0, none⟩) 0 5)).cell? ad = some (.int .u8 (48 % 256)) := (cell_far (W := wm) (p := ⟨g, 10, none⟩) (a := ad) (hA ad rfl) _).trans k0
  have hgx2 := blk_far (p := ⟨g, 10, none⟩) (blk_below hgx hbm) (blk_ne hgx hg (by decide)) (.slice (some ⟨w.heap.size, 0, none⟩) 0 5)
  have HH := Lib.hid (And.intro hE (And.intro hr2 (And.intro hput (And.intro hown2 hkg))))
  clear hE hr hr2 hgx hg hA hput hown2 hkg hgm hown hbm
  go_enter Tryd.func87, Tryd.ntmps87
  go_wp2_with fail
  generalize (wm.setCell ⟨g, 10, none⟩ (.slice (some ⟨w.heap.size, 0, none⟩) 0 5)) = w1 at *
  clear k10 f10 k0 hrun
  refine (HH.out.1.parse _ HH.out.2.1).mono ?_
  rintro e w2 ⟨rfl, rfl⟩
  have hpart := fun W => part_zero W gx
  have bp := (Below.refl w1.heap.size w1).alloc (Nat.le_refl _) (.cells #[.iface 3 (.int .i64 xs.length)] 20)
  go_wp2_with fail
  refine (printf_any _ _ _).mono ?_
  rintro e w3 ⟨rfl, hb3⟩
  have b3 := below_step bp hb3
  obtain ⟨-, A2, -, hcut, -, hc2⟩ := open_cuts (some ad) cc xs hcc (xs.length - inn.length) (xs.length - inn.length) (Nat.le_refl _) (by omega) ((xs.length : Int) - inn.length) ((xs.length : Int) - inn.length) (by omega) (by omega)
  rw [hE1] at hcut hc2
  obtain ⟨A3, c3, hV⟩ := elem_open hv A2 (cc - (xs.length - inn.length)) (by omega) hBi.1
  obtain ⟨L1, hL1⟩ : ∃ L1, L1 = inn.length - in1.length := ⟨_, rfl⟩
  rw [← hL1] at hV
  have hl2 := (sOpen_ends hBi.1 hv).2.2
  have hr3 := hc2.2 w3 (Kd.C_below HH.out.2.1 b3)
  have H3 := Lib.hid (And.intro hV (And.intro hr3 (And.intro b3 hBv.1)))
  have hgx3 := blk_below hgx2 b3
  have hgd : w3.drew.heap[gx]? = some (.cells #[] 103 (0, 0)) := hgx3
  have hrd := Kd.C_below hr3 (below_drew (Below.refl w3.heap.size w3))
  have HP := Lib.hid (And.intro (fun W hW => parseRaw_int A2 (cc - (xs.length - inn.length)) inn cv L1 A3 c3 ⟨#[118, 101, 114, 115, 105, 111, 110]⟩ hBv.1 c1 c8 hV (by omega) W hW) hrd)
  have mixed : Tryd.prog.follows Departure.mixedOrders = true := by kernel_rfl
  clear hb3 bp b3 hV hr3 hc2 hgx2 k0' hrd
  have hta := fun W => as_int (.int .i64 (sVal cv)) W
  go_wp2_with fail
  go_region_with_o (go_at_call 74; refine (HP.out.1 _ ?_).mono ?_; exact HP.out.2; rintro e w4 ⟨rfl, hb4⟩; have hgx4 := blk_below hgd hb4)
  have b4 : Below w1.heap.size w1 w4 := below_step (below_drew H3.out.2.2.1) hb4
  have bp := b4.alloc b4.size (.cells #[.iface 3 (.int .i64 (sVal cv))] 20)
  have wv : IntKind.u8.wrap (sVal cv) = sVal cv := by simp [IntKind.wrap, IntKind.bits, IntKind.signed]; omega
  clear b4 hb4 hgd hgx3
  go_wp2_with fail
  refine (printf_any _ _ _).mono ?_
  rintro e w5 ⟨rfl, hb5⟩
  have b5 := below_step bp hb5
  have H5 := Lib.hid (And.intro (blk_below HH.out.2.2.1 b5) (And.intro (HH.out.2.2.2.1.below b5) (keptG_below HH.out.2.2.2.2 b5)))
  clear bp hb5 b5
  go_wp2
  go_ret3
  exact ⟨by rw [show (xs.length : Int) - inn.length + (inn.length - in1.length : Nat) = (xs.length : Int) - in1.length by omega]; rfl, _, H5.out.1, H5.out.2.1, H5.out.2.2⟩
/-- The package's message, its version and community told. -/
abbrev PktT.hdr (p : PktT) (ver : Int) (com : ByteArray) : PktT := ⟨ver, com, p.kind, p.id, p.er, p.ei, p.nr, p.mr⟩
set_option maxRecDepth 100000 in
set_option maxHeartbeats 4000000 in
theorem header_any (xs inn cv in1 com in2 : List Int) (A : Option Addr) (cc : Nat) (hcc : xs.length ≤ cc) (hB : IsB xs) (ho : sOpen xs = some (48, inn, [])) (hv : sOpen inn = some (2, cv, in1)) (c1 : 1 ≤ cv.length) (c8 : cv.length ≤ 8) (v0 : 0 ≤ sVal cv) (v1 : sVal cv ≤ 1) (hcm : sOpen in1 = some (4, com, in2)) (hx : xs.length ≤ 100000)
    (w : World) (hr : Kd.C (Kd.int .u8) w A xs.length xs) (gx g : Nat) (pk : PktT) (V : Value) (hgx : w.heap[gx]? = some (.cells #[] 103 (0, 0))) (hg : w.heap[g]? = some (pktO pk V)) (hA : ∀ ad, A = some ad → ad.block ≠ g) :
    Calls Tryd.prog 54 #[.pointer (some ⟨gx, 0, none⟩), .slice A xs.length cc, .pointer (some ⟨g, 0, none⟩)] w fun e w' => e = .returned (.tuple #[.int .i64 ((xs.length : Int) - in2.length), .nilIface]) ∧ ∃ V', w'.heap[g]? = some (pktO (pk.hdr (sVal cv) (strOfNums com)) V') ∧ OwnP w' w.heap.size V' [] ∧ KeptG w w' g := by
  have hBi := sOpen_isB hB ho
  have hBv := sOpen_isB hBi.1 hv
  have hBc := sOpen_isB hBv.2.1 hcm
  have l1 := (sOpen_ends hB ho).2.2
  have l2 := (sOpen_ends hBi.1 hv).2.2
  have l3 := (sOpen_ends hBv.2.1 hcm).2.2
  have hE1 := sOpen_all hB ho
  have hE2 := (sOpen_ends hBi.1 hv).1
  have hD1 : xs.drop (xs.length - in1.length) = in1 := by
    rw [← hE2, ← hE1, List.drop_drop]
    congr 1
    simp
    omega
  obtain ⟨sc, hsc⟩ : ∃ sc, sc = strOfNums com := ⟨_, rfl⟩
  rw [← hsc]
  have HH := Lib.hid (And.intro hr (And.intro hgx (And.intro hg (And.intro hA hsc))))
  clear hr hgx hg hA hsc
  go_enter Tryd.func54, Tryd.ntmps54
  go_wp2_with fail
  refine (version_any xs inn cv in1 A cc hcc hB ho hv c1 c8 v0 v1 (by omega) hx w HH.out.1 gx g pk V HH.out.2.1 HH.out.2.2.1 HH.out.2.2.2.1).mono ?_
  rintro e w1 ⟨rfl, V1, hg1, hown1, hk1⟩
  have a0 : w1.cell? ⟨g, 0, none⟩ = some (.int .u8 pk.ver) := (blk_cell hg1 0).trans rfl
  have fa0 := blk_frozen hg1 0
  have hgx0 := HH.out.2.1
  have hgx1 : w1.heap[gx]? = some (.cells #[] 103 (0, 0)) := (hk1.block gx (blk_lt hgx0) (fun e => by injection e with e; exact blk_ne hgx0 HH.out.2.2.1 (by decide) e)).trans hgx0
  have hne := blk_ne hgx1 hg1 (by decide)
  have hput : (w1.setCell ⟨g, 0, none⟩ (.int .u8 (sVal cv))).heap[g]? = some (pktO (pk.hdr (sVal cv) pk.com) V1) := blk_put (cs' := (pk.hdr (sVal cv) pk.com).arr V1) hg1 0 (.int .u8 (sVal cv)) rfl
  have hgx2 := blk_far (p := ⟨g, 0, none⟩) hgx1 hne (.int .u8 (sVal cv))
  have hgl := blk_lt HH.out.2.2.1
  have hown2 : OwnP (w1.setCell ⟨g, 0, none⟩ (.int .u8 (sVal cv))) w.heap.size V1 [] := OwnP.move hown1 (fun k hk => Below.heap_setCell _ _ _ _ (by have := OwnP.block hown1 k hk; show k ≠ g; omega))
  have hk2 : KeptG w (w1.setCell ⟨g, 0, none⟩ (.int .u8 (sVal cv))) g := kept_one 0 hk1 _
  obtain ⟨-, A2, -, hcut, -, hc2⟩ := open_cuts A cc xs hcc (xs.length - in1.length) (xs.length - in1.length) (Nat.le_refl _) (by omega) ((xs.length : Int) - in1.length) ((xs.length : Int) - in1.length) (by omega) (by omega)
  rw [hD1] at hcut hc2
  obtain ⟨A3, c3, hV⟩ := elem_open hcm A2 (cc - (xs.length - in1.length)) (by omega) hBv.2.1
  have hC2 : Kd.C (Kd.int .u8) (w1.setCell ⟨g, 0, none⟩ (.int .u8 (sVal cv))) A2 in1.length in1 := by
    obtain ⟨ad, rfl, -⟩ := (elem_open ho A cc hcc hB).choose_spec.choose_spec.head w HH.out.1
    exact hc2.2 _ (C_keptA HH.out.1 (HH.out.2.2.2.1 ad rfl) hk2.kept)
  have HW := Lib.hid (And.intro hput (And.intro hown2 hk2))
  clear hput hown2 hk2 hg1 hown1 hk1 hc2 hgx0
  have hpart := fun W => part_zero W gx
  have mixed : Tryd.prog.follows Departure.mixedOrders = true := by kernel_rfl
  have hta := fun W => as_str (.string sc) W
  go_wp2_with fail
  generalize w1.setCell ⟨g, 0, none⟩ (.int .u8 (sVal cv)) = w2 at *
  clear a0 fa0 hgx1 hne
  have hgd : w2.drew.heap[gx]? = some (.cells #[] 103 (0, 0)) := hgx2
  have hrd := Kd.C_below hC2 (below_drew (Below.refl w2.heap.size w2))
  have hsc := HH.out.2.2.2.2
  have HP := Lib.hid (And.intro (fun W hW => parseRaw_oct A2 (cc - (xs.length - in1.length)) in1 com (in1.length - in2.length) A3 c3 ⟨#[99, 111, 109, 109, 117, 110, 105, 116, 121]⟩ hV (by omega) W hW) hrd)
  rw [← hsc] at HP
  clear hsc hrd hC2 hV
  go_region_with_o (go_at_call 74; refine (HP.out.1 _ ?_).mono ?_; exact HP.out.2; rintro e w4 ⟨rfl, hb4⟩; have hgx4 := blk_below hgd hb4)
  have b4 : Below w2.heap.size w2 w4 := below_step (below_drew (Below.refl w2.heap.size w2)) hb4
  have hg4 := blk_below HW.out.1 b4
  have a1 : w4.cell? ⟨g, 1, none⟩ = some (.string pk.com) := (blk_cell hg4 1).trans rfl
  have fa1 := blk_frozen hg4 1
  have hne4 := blk_ne hgx4 hg4 (by decide)
  have hgx5 := blk_far (p := ⟨g, 1, none⟩) hgx4 hne4 (.string sc)
  have hput5 : (w4.setCell ⟨g, 1, none⟩ (.string sc)).heap[g]? = some (pktO (pk.hdr (sVal cv) sc) V1) := blk_put (cs' := (pk.hdr (sVal cv) sc).arr V1) hg4 1 (.string sc) rfl
  have hown4 := HW.out.2.1.below b4
  have hown5 : OwnP (w4.setCell ⟨g, 1, none⟩ (.string sc)) w.heap.size V1 [] := OwnP.move hown4 (fun k hk => Below.heap_setCell _ _ _ _ (by have := OwnP.block hown4 k hk; show k ≠ g; omega))
  have H5 := Lib.hid (And.intro hput5 (And.intro hown5 (kept_one 1 (keptG_below HW.out.2.2 b4) (.string sc))))
  clear b4 hb4 hgd hg4 hgx4 hne4 hput5 hown4 hown5 hgx2
  go_wp2_with fail
  generalize w4.setCell ⟨g, 1, none⟩ (.string sc) = w5 at *
  have bp := (Below.refl w5.heap.size w5).alloc (Nat.le_refl _) (.cells #[.iface 9 (.string sc)] 20)
  refine (printf_any _ _ _).mono ?_
  rintro e w6 ⟨rfl, hb6⟩
  have b6 := below_step bp hb6
  have H6 := Lib.hid (And.intro (blk_below H5.out.1 b6) (And.intro (H5.out.2.1.below b6) (keptG_below H5.out.2.2 b6)))
  clear bp hb6 b6 a1 fa1 hgx5
  go_wp2
  go_ret2
  exact ⟨by rw [show (xs.length : Int) - in1.length + (in1.length - in2.length : Nat) = (xs.length : Int) - in2.length by omega]; rfl, _, H6.out.1, H6.out.2.1, H6.out.2.2⟩
end Go.Proofs.YtangjgclpipjdaaDoor
set_option linter.unusedVariables false
namespace Go.Proofs.YtangjgclpipjdaaDoor
open Go.RowKit Go.Proofs.YtangjgclpipjdaaDoorW.PrintWords Go.Proofs.YtangjgclpipjdaaDoorW.PrintLast Go.Proofs.YtangjgclpipjdaaDoorW.PrintMore
theorem and127c (x : Int) (h0 : 0 ≤ x) (h1 : x < 256) : bits .and .u8 x 127 = x % 128 := by
  have := bits_mask .u8 8 (by decide) wraps_u8 7 (by decide) x h0 (by omega)
  simpa using this
theorem or_low7 (n y : Int) (h0 : 0 ≤ n) (h1 : n < 33554432) (y0 : 0 ≤ y) (y1 : y < 128) : bits .or .u64 (n * 128) y = n * 128 + y := by
  rw [u64_or _ _ (by omega) (by omega) (by omega) (by omega), nat_join 7 _ _ (by omega) (by omega)]
  omega
set_option maxRecDepth 100000 in
set_option maxHeartbeats 4000000 in
theorem specOfName_any (A : Option Addr) (c : Nat) (xs : List Int) (hc : xs.length ≤ c) (hb : IsB xs) (w : World) (hC : Kd.C (Kd.int .u8) w A xs.length xs) :
    Calls Tryd.prog 30 #[.slice A xs.length c] w fun e w' => GotA w w' (sOf xs) e := by
  by_cases c0 : xs.length = 0
  · have he : sOf xs = ([], false) := if_pos (.inl c0)
    have HE := Lib.hid he
    have d0 : ((xs.length : Int) == 0) = true := beq_iff_eq.2 (by omega)
    clear he c0
    go_enter Tryd.func30, Tryd.ntmps30
    go_wp2
    go_ret2
    exact gotA HE.out (OwnU.nil _ _) (Below.refl _ _)
  · obtain ⟨ad, rfl, g0⟩ := Kd.at_int hC 0 (by omega) (by omega)
    rw [show (0 : Int).toNat = 0 from rfl, Addr.add_zero'] at g0
    have d0 : ((xs.length : Int) == 0) = false := beq_eq_false_iff_ne.2 (by omega)
    have m0 : (0 < xs.length) = True := eq_true (by omega)
    have hv := hb.rd 0
    by_cases c1 : 120 ≤ rd xs 0
    · have he : sOf xs = ([], false) := if_pos (.inr (.inl c1))
      have HE := Lib.hid he
      clear he c0
      go_enter Tryd.func30, Tryd.ntmps30
      go_wp2
      go_ret2
      exact gotA HE.out (OwnU.nil _ _) (Below.refl _ _)
    · by_cases c2 : 300 < (xs.length : Int)
      · have he : sOf xs = ([], false) := if_pos (.inr (.inr (by omega)))
        have HE := Lib.hid he
        clear he c0
        go_enter Tryd.func30, Tryd.ntmps30
        go_wp2
        go_ret2
        exact gotA HE.out (OwnU.nil _ _) (Below.refl _ _)
      · have HH := Lib.hid (And.intro hb hC)
        have hal : ∀ o, Below w.heap.size w (w.alloc o).drew := fun o => below_drew ((Below.refl _ _).alloc (Nat.le_refl _) o)
        have hl1 : 1 ≤ (xs.length : Int) := by omega
        have hso : sOf xs = match ofGo (xs.drop 1) [rd xs 0 / 40, rd xs 0 % 40] 0 false with
            | none => ([], false)
            | some (out, op) => (out, !op && decide ((out.length : Int) ≤ 60)) := if_neg (by rintro (h | h | h); exact c0 h; exact c1 h; omega)
        have HS := Lib.hid hso
        clear hb hC c0 hso
        have hv0 := hv.1
        have hv1 := hv.2
        obtain ⟨v, hvd⟩ : ∃ v, v = rd xs 0 := ⟨_, rfl⟩
        rw [← hvd] at g0 hv0 hv1 c1
        have HV := Lib.hid hvd
        clear hvd hv
        go_enter Tryd.func30, Tryd.ntmps30
        go_wp2
        go_region_held (fun w' => w'.cell? ad = some (.int .u8 v)) (first | exact g0 | exact ((hal _).cell (World.block_lt_of_cell? w _ g0)).trans g0) (fail)
        have w1 : IntKind.u64.wrap v = v := wraps_u64 _ hv0 (by omega)
        have w2 : v.tdiv 40 = v / 40 := Int.tdiv_eq_ediv_of_nonneg hv0
        have w3 : v.tmod 40 = v % 40 := Int.tmod_eq_emod_of_nonneg hv0
        have w4 : IntKind.u64.wrap (v / 40) = v / 40 := wraps_u64 _ (by omega) (by omega)
        rw [w1, w2, w3, w4]
        have ho0 : OwnU (w.alloc (.cells #[Value.int .u64 (v / 40), Value.int .u64 (v % 40)] 22)).drew w.heap.size (.slice (some ⟨w.heap.size, 0, none⟩) 2 2) [v / 40, v % 40] := Kd.R_drew (OwnU.lit w _ [v / 40, v % 40] (Nat.le_refl _) (by simp) (by rfl))
        obtain ⟨hb, hC⟩ := HH.out
        obtain ⟨i8, hi8, hz8⟩ := Option.map_eq_some_iff.1 infoB
        have hs8 : i8.size = 1 := by simp at hz8; exact hz8.2.1
        obtain ⟨A8, hcut, hA8, hC8⟩ := print_drop_of (P := Tryd.prog) (Value.int .u8) 0 26 5 .i64 Tryd.underlying26 hi8 hs8 (some ad) c xs 1 (by omega) (by omega) hc
        have hCl := Kd.C_of_reads (h1 := fun _ => rfl) (hA8 _ (Kd.reads_of_C hC))
        rw [show (1 : Int).toNat = 1 from rfl] at hcut hCl
        have hbl : IsB (xs.drop 1) := isB_drop hb 1
        have hll : (xs.drop 1).length ≤ 300 := by rw [List.length_drop]; omega
        have hso := HS.out
        rw [← HV.out] at hso
        have HL := Lib.hid (And.intro hbl (And.intro hCl (And.intro ho0 (And.intro (hal (.cells #[Value.int .u64 (v / 40), Value.int .u64 (v % 40)] 22)) hso))))
        clear hbl hCl ho0 hal hso HS hA8 hC8 hb hC HH hi8 hz8 hs8 w1 w2 w3 w4 g0 HV m0
        generalize xs.drop 1 = l at *
        go_wp2
        obtain ⟨R, hRR⟩ : ∃ R, R = ofGo l [v / 40, v % 40] 0 false := ⟨_, rfl⟩
        have hend : (R = none → sOf xs = ([], false)) ∧ ∀ out op, R = some (out, op) → sOf xs = (out, !op && decide ((out.length : Int) ≤ 60)) := by
          have h := HL.out.2.2.2.2
          rw [← hRR] at h
          exact ⟨fun e => by rw [h, e], fun out op e => by rw [h, e]⟩
        have HE := Lib.hid hend
        have HR0 := Lib.hid hRR
        clear hRR hend
        go_loopg [4, 5, 6, 37] l.length (fun k v4 v5 v6 v37 wr => ∃ (i : Nat) (out : List Int) (n : Int) (op : Bool), v37 = .int .i64 i ∧ v5 = .int .u64 n ∧ v6 = .bool op ∧ Hid (i ≤ l.length ∧ k = l.length - i ∧ 0 ≤ n ∧ n ≤ 4294967295 ∧ OwnU wr w.heap.size v4 out ∧ Below w.heap.size w wr ∧ ofGo (l.drop i) out n op = R ∧ out.length ≤ i + 2))
        case atStart => exact ⟨0, _, 0, false, rfl, rfl, rfl, Lib.hid ⟨Nat.zero_le _, rfl, by omega, by omega, HL.out.2.2.1, HL.out.2.2.2.1, HR0.out.symm, by simp⟩⟩
        case round =>
          obtain ⟨i, out, n, op, rfl, rfl, rfl, HR⟩ := hrel
          obtain ⟨hi, hk, n0, n1, ho, hbw, hR, hol⟩ := HR.out
          by_cases hil : (i : Int) < l.length
          · have hln : i < l.length := by omega
            obtain ⟨ad8, rfl, g⟩ := Kd.at_int (Kd.C_below HL.out.2.1 hbw) i (by omega) hil
            have hrd : rd l i = l[i] := by
              unfold Go.Proofs.YtangjgclpipjdaaDoorW.PrintWords.rd
              rw [Int.toNat_natCast, List.getD_eq_getElem?_getD, List.getElem?_eq_getElem hln]
              rfl
            rw [hrd, Int.toNat_natCast] at g
            rw [List.drop_eq_getElem_cons hln] at hR
            have hxb := HL.out.1 l[i] (List.getElem_mem hln)
            have HK := Lib.hid (And.intro hi (And.intro hk (And.intro ho (And.intro hbw hol))))
            clear hrd hi hk hbw hol HR HR0
            generalize l[i] = x at *
            have hlt : (i < l.length) = True := eq_true hln
            have x0 := hxb.1
            have x1 := hxb.2
            clear hln hxb
            simp only [ofGo] at hR
            obtain ⟨Ao, co, rfl, hco, hCo⟩ := Kd.R_reads ho
            clear hCo ho
            by_cases hbad : (op = false ∧ x = 128) ∨ n ≥ 33554432
            · have HS := Lib.hid (HE.out.1 (by rw [← hR, if_pos hbad]))
              clear hR
              have hx8 : op = false → n < 33554432 → (x == 128) = true := fun h1 h2 => beq_iff_eq.2 (by rcases hbad with h | h; exact h.2; omega)
              cases op with
              | true =>
                have hbig : 33554432 ≤ n := by rcases hbad with h | h; exact absurd h.1 (by simp); exact h
                clear hbad hx8
                go_wp2
                go_ret2
                exact gotA HS.out (OwnU.nil _ _) HK.out.2.2.2.1
              | false =>
                by_cases hx : x = 128
                · have hxb : (x == 128) = true := beq_iff_eq.2 hx
                  clear hbad hx8 hx
                  go_wp2
                  go_ret2
                  exact gotA HS.out (OwnU.nil _ _) HK.out.2.2.2.1
                · have hxb : (x == 128) = false := beq_eq_false_iff_ne.2 hx
                  have hbig : 33554432 ≤ n := by rcases hbad with h | h; exact absurd h.2 hx; exact h
                  clear hbad hx8 hx
                  go_wp2
                  go_ret2
                  exact gotA HS.out (OwnU.nil _ _) HK.out.2.2.2.1
            · rw [if_neg hbad] at hR
              have hn : n < 33554432 := by omega
              have hxb : op = false → (x == 128) = false := fun h => beq_eq_false_iff_ne.2 (fun e => hbad (.inl ⟨h, e⟩))
              have e1 : IntKind.u64.wrap (n * 128) = n * 128 := wraps_u64 _ (by omega) (by omega)
              have a1 := and127c x x0 (by omega)
              have e2 := or_low7 n (x % 128) n0 hn (by omega) (by omega)
              clear hbad
              by_cases hx7 : x ≤ 127
              · rw [if_pos hx7] at hR
                have hd7 : decide (127 < x) = false := by simp; omega
                have HS := Lib.hid hR
                clear hR
                cases op
                all_goals
                  (try have hxb := hxb rfl)
                  go_wp2_with (at_builtin; refine app_u64s rfl (.tmp 61) (.tmp 63) 52 rfl Tryd.underlying52 infoU64 w.heap.size (.slice Ao out.length co) out [n * 128 + x % 128] (some ⟨wr.heap.size, 0, none⟩) 1 1 rfl rfl (Kd.R_alloc HK.out.2.2.1 _) (litU_C wr (n * 128 + x % 128)) (by have := HK.out.2.2.2.1.size; simp; omega) (by have := HK.out.2.2.2.2; have := HK.out.1; omega) ?_; intro v1 w3 ho3 hg3 hat3)
                  go_roundg (l.length - (i + 1))
                  case measure =>
                    have := HK.out.2.1
                    omega
                  case rel =>
                    obtain ⟨hi, hk, ho, hbw, hol⟩ := HK.out
                    exact ⟨i + 1, out ++ [n * 128 + x % 128], 0, false, by go_num, rfl, by first | rfl | (congr 1; simp; omega) | (congr 1; simpa using hx7), Lib.hid ⟨by omega, rfl, by omega, by omega, ho3, (hbw.alloc hbw.size _).grown hg3 (by have := hbw.size; simp; omega) (fun k hk => OwnU.block ho k hk), HS.out, by simp; omega⟩⟩
              · rw [if_neg hx7] at hR
                have hd7 : decide (127 < x) = true := by simp; omega
                have hx9 : 127 < x := by omega
                have HS := Lib.hid hR
                clear hR
                cases op
                all_goals
                  (try have hxb := hxb rfl)
                  go_wp2
                  go_roundg (l.length - (i + 1))
                  case measure =>
                    have := HK.out.2.1
                    omega
                  case rel =>
                    obtain ⟨hi, hk, ho, hbw, hol⟩ := HK.out
                    exact ⟨i + 1, out, n * 128 + x % 128, true, by go_num, rfl, by first | rfl | (congr 1; simp; omega), Lib.hid ⟨by omega, rfl, by omega, by omega, ho, hbw, HS.out, by omega⟩⟩
          · rw [List.drop_of_length_le (by omega)] at hR
            simp only [ofGo] at hR
            have HS := Lib.hid (HE.out.2 out op hR.symm)
            obtain ⟨Ao, co, rfl, hco, hCo⟩ := Kd.R_reads ho
            have HK := Lib.hid (And.intro ho hbw)
            clear hR hCo ho hbw HR HR0
            cases op
            all_goals
              go_wp2
              go_ret2
              exact gotA HS.out HK.out.1 HK.out.2
end Go.Proofs.YtangjgclpipjdaaDoor
set_option linter.unusedVariables false
namespace Go.Proofs.YtangjgclpipjdaaDoor
open Go.RowKit Go.Proofs.YtangjgclpipjdaaDoorW.PrintWords Go.Proofs.YtangjgclpipjdaaDoorW.PrintLast Go.Proofs.YtangjgclpipjdaaDoorW.PrintMore
theorem ofInt_rows (xs : List Int) (hb : IsB xs) (s : Int) (h8 : xs.length ≤ 8) (m : Nat) : ∀ k i, xs.length = i + m → m + 1 ≤ k →
    PFnValue.spec_OfInt.l0 k (wrap64 (beVal (xs.take i) s)) xs xs.length (i : Nat) = some (wrap64 (beVal xs s), true) := by
  induction m with
  | zero =>
    intro k i hi hk
    obtain ⟨k, rfl⟩ : ∃ j, k = j + 1 := ⟨k - 1, by omega⟩
    rw [PFnValue.spec_OfInt.l0, if_neg (by omega), List.take_of_length_le (by omega)]
  | succ m ih =>
    intro k i hi hk
    obtain ⟨k, rfl⟩ : ∃ j, k = j + 1 := ⟨k - 1, by omega⟩
    have hbd := hb.rd i
    rw [PFnValue.spec_OfInt.l0, if_pos (by omega), if_pos (by omega), if_pos (by omega), show wrap64 (rd xs i) = rd xs i by unfold wrap64; omega, w64_step _ _ hbd.1 (by omega),
      ← beVal_take xs i (by omega), show wrap64 ((i : Int) + 1) = ((i + 1 : Nat) : Int) by unfold wrap64; omega]
    exact ih k (i + 1) (by omega) (by omega)
theorem ofInt_eq (xs : List Int) (hb : IsB xs) (h1 : 1 ≤ xs.length) (h8 : xs.length ≤ 8) : PFnValue.spec_OfInt.f 12 xs = some (sVal xs, true) := by
  unfold PFnValue.spec_OfInt.f
  rw [if_neg (by omega), PFnValue.spec_OfInt.j0, show decide ((xs.length : Int) > 8) = false by simp; omega, if_neg (by simp), if_pos (by omega)]
  unfold sVal
  by_cases c : rd xs 0 > 127
  · rw [if_pos c, if_pos c, PFnValue.spec_OfInt.j1]
    have := ofInt_rows xs hb (-1) h8 xs.length 10 0 (by omega) (by omega)
    simpa [beVal, wrap64] using this
  · rw [if_neg c, if_neg c, PFnValue.spec_OfInt.j1]
    have := ofInt_rows xs hb 0 h8 xs.length 10 0 (by omega) (by omega)
    simpa [beVal, wrap64] using this
theorem ofInt_no (xs : List Int) (h : ¬ (1 ≤ xs.length ∧ xs.length ≤ 8)) : PFnValue.spec_OfInt.f 12 xs = some (0, false) := by
  unfold PFnValue.spec_OfInt.f
  by_cases c : xs.length = 0
  · rw [if_pos (by omega), PFnValue.spec_OfInt.j0, if_pos rfl]
  · rw [if_neg (by omega), show decide ((xs.length : Int) > 8) = true by simp; omega, PFnValue.spec_OfInt.j0, if_pos rfl]
end Go.Proofs.YtangjgclpipjdaaDoor
