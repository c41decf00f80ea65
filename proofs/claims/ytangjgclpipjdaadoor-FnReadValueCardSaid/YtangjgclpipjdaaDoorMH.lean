/- Logger's two methods, the names of types, parseInt, parseUint, parseUint32: the walks. Asn1BER.String at INTEGER: the walk. parseRawField at the elements that occur: the walks. -/
import Derived.Test.YtangjgclpipjdaaDoorMB
import Derived.Test.YtangjgclpipjdaaDoorMD
import Derived.Lib.LaidTab
import Derived.Test.YtangjgclpipjdaaDoorMC
set_option linter.unusedVariables false
namespace Go.Proofs.YtangjgclpipjdaaDoor
open Go.RowKit Go.Proofs.YtangjgclpipjdaaDoorW.PrintWords Go.Proofs.YtangjgclpipjdaaDoorW.PrintLast Go.Proofs.YtangjgclpipjdaaDoorW.PrintMore

theorem parseInt_any (A : Option Addr) (c : Nat) (xs : List Int) (w : World) (hr : Kd.C (Kd.int .u8) w A xs.length xs) (hb : IsB xs) (h1 : 1 ≤ xs.length) (h8 : xs.length ≤ 8) :
    Calls Tryd.prog 72 #[.slice A xs.length c] w fun e w' => e = .returned (.tuple #[.int .i64 (sVal xs), .nilIface]) ∧ Below w.heap.size w w' := by
  have hsv : wrap64 (sVal xs) = sVal xs := by unfold sVal wrap64; omega
  have HH := Lib.hid (And.intro hr hb)
  clear hr hb
  go_enter Tryd.func72, Tryd.ntmps72
  go_wp2_with fail
  refine (parseInt64_any A c xs w HH.out.1 HH.out.2 h1 h8).mono ?_
  rintro e w' ⟨rfl, rfl⟩
  go_wp2
  go_ret2
  exact ⟨rfl, Below.refl _ _⟩
theorem parseUint_any (A : Option Addr) (c : Nat) (xs : List Int) (w : World) (hr : Kd.C (Kd.int .u8) w A xs.length xs) (hb : IsB xs) (h1 : 1 ≤ xs.length) (h9 : xs.length ≤ 8 ∨ (xs.length = 9 ∧ rd xs 0 = 0)) (hv : beVal xs 0 < 18446744073709551616) :
    Calls Tryd.prog 76 #[.slice A xs.length c] w fun e w' => e = .returned (.tuple #[.int .u64 (beVal xs 0), .nilIface]) ∧ Below w.heap.size w w' := by
  have hpos := (beVal_bound xs hb 0 (by omega)).1
  have HH := Lib.hid (And.intro hr (And.intro hb h9))
  clear hr hb h9
  go_enter Tryd.func76, Tryd.ntmps76
  go_wp2_with fail
  refine (parseUint64_any A c xs w HH.out.1 HH.out.2.1 h1 HH.out.2.2 hv).mono ?_
  rintro e w' ⟨rfl, rfl⟩
  go_wp2
  go_ret2
  exact ⟨rfl, Below.refl _ _⟩
theorem parseUint32_any (A : Option Addr) (c : Nat) (xs : List Int) (w : World) (hr : Kd.C (Kd.int .u8) w A xs.length xs) (hb : IsB xs) (h1 : 1 ≤ xs.length) (h9 : xs.length ≤ 8 ∨ (xs.length = 9 ∧ rd xs 0 = 0)) (hv : beVal xs 0 < 4294967296) :
    Calls Tryd.prog 77 #[.slice A xs.length c] w fun e w' => e = .returned (.tuple #[.int .u32 (beVal xs 0), .nilIface]) ∧ Below w.heap.size w w' := by
  have hpos := (beVal_bound xs hb 0 (by omega)).1
  have hw : beVal xs 0 % 4294967296 = beVal xs 0 := by omega
  have HH := Lib.hid (And.intro hr (And.intro hb h9))
  clear hr hb h9
  go_enter Tryd.func77, Tryd.ntmps77
  go_wp2_with fail
  refine (parseUint_any A c xs w HH.out.1 HH.out.2.1 h1 HH.out.2.2 (by omega)).mono ?_
  rintro e w' ⟨rfl, hb⟩
  have HB := Lib.hid hb
  clear hb
  go_wp2
  go_ret2
  exact ⟨rfl, HB.out⟩
theorem print_any (v1 : Value) (w : World) : Calls Tryd.prog 73 #[.agg #[], v1] w fun e w' => e = .returned (.tuple #[]) ∧ Below w.heap.size w w' := by
  go_enter Tryd.func73, Tryd.ntmps73
  go_wp2
  go_end0
  exact ⟨rfl, (Below.refl _ _).alloc (Nat.le_refl _) _⟩
theorem printf_any (v1 v2 : Value) (w : World) : Calls Tryd.prog 69 #[.agg #[], v1, v2] w fun e w' => e = .returned (.tuple #[]) ∧ Below w.heap.size w w' := by
  go_enter Tryd.func69, Tryd.ntmps69
  go_wp2
  go_end0
  exact ⟨rfl, (Below.refl _ _).alloc (Nat.le_refl _) _⟩
end Go.Proofs.YtangjgclpipjdaaDoor
set_option linter.unusedVariables false
namespace Go.Proofs.YtangjgclpipjdaaDoor
open Go.RowKit Go.Proofs.YtangjgclpipjdaaDoorW.PrintWords Go.Proofs.YtangjgclpipjdaaDoorW.PrintLast Go.Proofs.YtangjgclpipjdaaDoorW.PrintMore

abbrev AsnTab (w : World) : Prop := Lib.TabIs Tryd.prog w "loop.example/pub-g03261/pub/snmp._Asn1BER_index_0" .u8 [0, 13, 20, 27, 36, 47, 51, 67, 84]
theorem AsnTab.on {w w' : World} (h : AsnTab w) (hb : Below w.heap.size w w') : AsnTab w' := Lib.tabBelow_of_tabIs h w' hb
set_option maxRecDepth 100000 in
theorem asnString_any (w : World) (ht : AsnTab w) : Calls Tryd.prog 70 #[.int .u8 2] w fun e w' => ∃ s, e = .returned (.string s) ∧ Below w.heap.size w w' := by
  have c2 := ht.cell (g := 3) (by kernel_rfl) 2 (by decide)
  have c3 := ht.cell (g := 3) (by kernel_rfl) 3 (by decide)
  simp at c2 c3
  clear ht
  go_enter Tryd.func70, Tryd.ntmps70
  go_wp2
  go_quiet (fail)
  go_wp2
  go_ret
  exact ⟨_, rfl, pw_below_drewN (Below.refl _ _) _⟩
end Go.Proofs.YtangjgclpipjdaaDoor
set_option linter.unusedVariables false
namespace Go.Proofs.YtangjgclpipjdaaDoor
open Go.RowKit Go.Proofs.YtangjgclpipjdaaDoorW.PrintWords Go.Proofs.YtangjgclpipjdaaDoorW.PrintLast Go.Proofs.YtangjgclpipjdaaDoorW.PrintMore

theorem infoU8e : ∃ i, Tryd.prog.info? 5 = some i ∧ i.size = 1 := by
  obtain ⟨i, hi, hz⟩ := Option.map_eq_some_iff.1 infoB
  simp at hz
  exact ⟨i, hi, hz.2.1⟩
theorem sealed_head (t : Int) (c rest : List Int) (wide : Nat) : ∃ l, sSealed t c wide ++ rest = t % 256 :: l := ⟨_, rfl⟩
theorem sealed_len (t : Int) (c : List Int) (wide : Nat) : c.length + 2 ≤ (sSealed t c wide).length ∧ (sSealed t c wide).length ≤ c.length + wide + 6 := by
  have h := sLen_len c.length wide
  have h1 : 1 ≤ (sLen c.length wide).length := by unfold sLen; split <;> simp
  simp only [sSealed, List.length_cons, List.length_append]
  omega
theorem sealed_mid (t : Int) (c rest : List Int) (wide : Nat) : (((sSealed t c wide ++ rest).take (sSealed t c wide).length).drop ((sSealed t c wide).length - c.length)) = c := by
  rw [List.take_left']
  · have e : sSealed t c wide = (t % 256 :: sLen c.length wide) ++ c := rfl
    rw [e, List.length_append, Nat.add_sub_cancel, List.drop_left']
    rfl
  · rfl
/-- An element at the front of bytes: what parseLength answers, and the content cut out. -/
theorem sealed_parse (t : Int) (c rest : List Int) (wide : Nat) (hw : wide ≤ 3) (h : c.length ≤ 4294967295) (A : Option Addr) (cc : Nat) (hcc : (sSealed t c wide ++ rest).length ≤ cc) (hb : IsB (sSealed t c wide ++ rest)) :
    (∀ w, Kd.C (Kd.int .u8) w A (sSealed t c wide ++ rest).length (sSealed t c wide ++ rest) → Calls Tryd.prog 71 #[.slice A (sSealed t c wide ++ rest).length cc] w fun e w' => e = .returned (.tuple #[.int .i64 (sSealed t c wide).length, .int .i64 ((sSealed t c wide).length - c.length), .nilIface]) ∧ w = w') ∧
    ∃ A' c', (∀ W : World, (Instr.slice 26 (.slice A (sSealed t c wide ++ rest).length cc) (some (.int .i64 ((sSealed t c wide).length - c.length))) (some (.int .i64 (sSealed t c wide).length)) none).run Tryd.prog W = .ok (.slice A' c.length c') W) ∧ (∀ w, Kd.C (Kd.int .u8) w A (sSealed t c wide ++ rest).length (sSealed t c wide ++ rest) → Kd.C (Kd.int .u8) w A' c.length c) ∧ c.length ≤ c' := by
  obtain ⟨⟨k1, k2, k3, k4⟩, hp⟩ := sealed_read t c rest wide hw h
  constructor
  · intro w hr
    refine (parseLength_any A cc _ w hr hb k1 k2 k3 k4).mono ?_
    rintro e w' ⟨rfl, rfl⟩
    rw [hp]
    exact ⟨rfl, rfl⟩
  · obtain ⟨i, hi, hsz⟩ := infoU8e
    have hl := (sealed_len t c wide).1
    obtain ⟨A', h1, h2, h3⟩ := print_mid_of (P := Tryd.prog) (Value.int .u8) (0 : Int) 26 5 .i64 .i64 Tryd.underlying26 hi hsz A cc (sSealed t c wide ++ rest) ((sSealed t c wide).length - c.length) (sSealed t c wide).length (by omega) (by omega) (by simp only [List.length_append]; omega) hcc
    have e1 : ((((sSealed t c wide).length : Int) - c.length).toNat) = (sSealed t c wide).length - c.length := by omega
    have e2 : (((sSealed t c wide).length : Int).toNat) = (sSealed t c wide).length := by omega
    rw [e1, e2, sealed_mid] at h1 h2 h3
    exact ⟨A', _, h1, fun w hr => Kd.C_of_reads (h1 := fun _ => rfl) (h2 w (Kd.reads_of_C hr)), h3⟩
/-- What a walk wants of an element at the front of bytes xs. -/
structure Elem (t : Int) (c xs : List Int) (L : Nat) (A : Option Addr) (cc : Nat) (A' : Option Addr) (c' : Nat) : Prop where
  parse : ∀ w, Kd.C (Kd.int .u8) w A xs.length xs → Calls Tryd.prog 71 #[.slice A xs.length cc] w fun e w' => e = .returned (.tuple #[.int .i64 L, .int .i64 (L - c.length), .nilIface]) ∧ w = w'
  cut : ∀ W : World, (Instr.slice 26 (.slice A xs.length cc) (some (.int .i64 (L - c.length))) (some (.int .i64 L)) none).run Tryd.prog W = .ok (.slice A' c.length c') W
  reads : ∀ w, Kd.C (Kd.int .u8) w A xs.length xs → Kd.C (Kd.int .u8) w A' c.length c
  head : ∀ w, Kd.C (Kd.int .u8) w A xs.length xs → ∃ ad, A = some ad ∧ w.cell? ad = some (.int .u8 (t % 256))
  le : c.length ≤ c'
  two : 2 ≤ xs.length
  len : L ≤ xs.length
  clen : c.length + 2 ≤ L
theorem elem_of (t : Int) (c rest : List Int) (wide : Nat) (hw : wide ≤ 3) (h : c.length ≤ 4294967295) (A : Option Addr) (cc : Nat) (hcc : (sSealed t c wide ++ rest).length ≤ cc) (hb : IsB (sSealed t c wide ++ rest)) :
    ∃ A' c', Elem t c (sSealed t c wide ++ rest) (sSealed t c wide).length A cc A' c' := by
  obtain ⟨h1, A', c', h2, h3, h4⟩ := sealed_parse t c rest wide hw h A cc hcc hb
  have hl := (sealed_len t c wide).1
  refine ⟨A', c', h1, h2, h3, fun w hr => ?_, h4, by simp only [List.length_append]; omega, by simp only [List.length_append]; omega, hl⟩
  obtain ⟨ad, rfl, g⟩ := cell_at hr 0 (by simp only [List.length_append]; omega)
  refine ⟨ad, rfl, ?_⟩
  rw [Addr.add_zero'] at g
  exact g

set_option maxRecDepth 100000 in
theorem parseRaw_oid (A : Option Addr) (cc : Nat) (xs : List Int) (L : Nat) (A' : Option Addr) (c' : Nat) (msg : ByteArray) (a b : Int) (rest : List Int) (a0 : 0 ≤ a) (a2 : a ≤ 2) (b0 : 0 ≤ b) (b40 : b < 40) (hrest : ∀ x ∈ rest, 0 ≤ x ∧ x ≤ 4294967295) (hl : rest.length ≤ 300) (hE : Elem 6 (sName (a :: b :: rest)) xs L A cc A' c') (hx : xs.length ≤ 100000) (w : World) (hr : Kd.C (Kd.int .u8) w A xs.length xs) (ht : PowTab w) :
    Calls Tryd.prog 74 #[.agg #[], .slice A xs.length cc, .string msg] w fun e w' => e = .returned (.tuple #[.iface 9 (.string (strOfNums (sDot (a :: b :: rest)))), .int .i64 L, .nilIface]) ∧ Below w.heap.size w w' := by
  have HO := Lib.hid (fun W hr ht => parseOid_any A' c' a b rest a0 a2 b0 b40 hrest hl W hr ht)
  obtain ⟨dt, hdt⟩ : ∃ dt, dt = strOfNums (sDot (a :: b :: rest)) := ⟨_, rfl⟩
  rw [← hdt] at HO ⊢
  clear hdt
  generalize sName (a :: b :: rest) = nm at *
  have two := hE.two
  have hll := hE.len
  have hcl := hE.clen
  have hcut := hE.cut
  have HE := Lib.hid (And.intro hE hr)
  obtain ⟨ad, rfl, c0⟩ := hE.head w hr
  have HT := Lib.hid ht
  clear hE hr ht
  go_enter Tryd.func74, Tryd.ntmps74
  have b0w := ((Below.refl w.heap.size w).alloc (Nat.le_refl _) (.cells #[] 88)).alloc (by simp) (.cells #[.iface 9 (.string msg)] 20)
  go_wp2_with fail
  refine (printf_any _ _ _).mono ?_
  rintro e w1 ⟨rfl, hb1⟩
  have b1 := below_step b0w hb1
  have H1 := Lib.hid (And.intro b1 (And.intro (Kd.C_below HE.out.2 b1) (PowTab.on HT.out b1)))
  have c1 := (b1.cell (World.block_lt_of_cell? _ _ c0)).trans c0
  have L0 : (0 : Int) ≤ L := by omega
  have L1 : (L : Int) ≤ xs.length := by omega
  have L2 : (L : Int) - nm.length ≤ L := by omega
  have L3 : (0 : Int) ≤ (L : Int) - nm.length := by omega
  clear hb1 b1 b0w c0
  go_wp2_with fail
  refine (HE.out.1.parse _ H1.out.2.1).mono ?_
  rintro e w2 ⟨rfl, rfl⟩
  go_wp2_with fail
  refine (HO.out _ (HE.out.1.reads _ H1.out.2.1) H1.out.2.2).mono ?_
  rintro e w3 ⟨rfl, hb3⟩
  have H3 := Lib.hid (below_step H1.out.1 hb3)
  clear hb3
  go_wp2
  go_ret3
  exact ⟨rfl, H3.out⟩
end Go.Proofs.YtangjgclpipjdaaDoor
