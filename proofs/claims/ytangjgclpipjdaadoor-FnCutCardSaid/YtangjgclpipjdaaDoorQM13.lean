/- The lemmas and walks that FnDecode and FnCut and FnRead rests on, part 13: DecW DecAFnValue. -/
import Derived.Test.YtangjgclpipjdaaDoorQM10
import Derived.Test.YtangjgclpipjdaaDoorQM11
import Derived.Test.YtangjgclpipjdaaDoorQM12
set_option linter.unusedVariables false
namespace Go.Proofs.YtangjgclpipjdaaDoor
open Go.RowKit Go.Proofs.YtangjgclpipjdaaDoorW.PrintWords Go.Proofs.YtangjgclpipjdaaDoorW.PrintLast Go.Proofs.YtangjgclpipjdaaDoorW.PrintMore
theorem as_str (v : Value) (w : World) : (Instr.typeAssert (.iface 9 v) 20 9 true).run Tryd.prog w = .ok (.tuple #[v, .bool true]) w := by kernel_rfl
theorem C_set {W : World} {ad : Addr} {n : Nat} {xs : List Int} (h : Kd.C (Kd.int .u8) W (some ad) n xs) {g : Nat} (hne : ad.block ≠ g) (i : Nat) (v : Value) : Kd.C (Kd.int .u8) (W.setCell ⟨g, i, none⟩ v) (some ad) n xs := by
  have hk : Kept W (W.setCell ⟨g, i, none⟩ v) (fun k => k = g) := (kept_one i (keptG_of (Below.refl _ _)) v).kept
  obtain ⟨h1, h2, h3⟩ := Kd.reads_of_C (enc := Value.int .u8) (d := (0 : Int)) h
  refine Kd.C_of_reads (h1 := fun _ => rfl) (d := (0 : Int)) ⟨h1, h2, fun hn => ?_⟩
  obtain ⟨a, e, hc⟩ := h3 hn
  refine ⟨a, e, fun j hj => ?_⟩
  injection e with e
  subst e
  have hb : (ad.add j).block = ad.block := by unfold Addr.add; split <;> rfl
  exact cell_kept (hc j hj) hk (by rw [hb]; exact hne)
set_option maxRecDepth 100000 in
set_option maxHeartbeats 4000000 in
theorem dec_oct (c : List Int) (A : Option Addr) (cc : Nat) (xs : List Int) (L : Nat) (A' : Option Addr) (c' : Nat) (g : Nat) (hE : Elem 4 c xs L A cc A' c') (hx : xs.length ≤ 100000) (hL : L = xs.length) (w : World) (hr : Kd.C (Kd.int .u8) w A xs.length xs)
    (gx : Nat) (hgx : w.heap[gx]? = some (.cells #[] 103 (0, 0))) (hg : w.heap[g]? = some (vbO .nilIface 0)) (hA : ∀ ad, A = some ad → ad.block ≠ g) :
    Calls Tryd.prog 49 #[.pointer (some ⟨gx, 0, none⟩), .slice A xs.length cc, .pointer (some ⟨g, 0, none⟩)] w fun e w' => e = .returned .nilIface ∧ Decoded w w' g (.iface 26 (.slice A' c.length c')) 4 := by
  subst hL
  have two := hE.two
  have hcl := hE.clen
  have hcut := hE.cut
  obtain ⟨ad, rfl, k0⟩ := hE.head w hr
  have k0 : w.cell? ad = some (.int .u8 4) := k0
  have HE := Lib.hid (And.intro hE (And.intro hr (And.intro hg (hA ad rfl))))
  have hpart := fun W => part_zero W gx
  have hpos : (0 : Int) < xs.length := by omega
  have hposn : 0 < xs.length := by omega
  have hgd : w.drew.heap[gx]? = some (.cells #[] 103 (0, 0)) := hgx
  have BD : Below w.heap.size w w.drew := below_drew (Below.refl _ _)
  clear hE hr hA
  go_enter Tryd.func49, Tryd.ntmps49
  go_wp2_with fail
  refine (print_any _ _).mono ?_
  rintro e w2 ⟨rfl, hb2⟩
  have B2 : Below w.heap.size w w2 := below_step ((Below.refl w.heap.size w).alloc (Nat.le_refl _) _) hb2
  have hr2 := Kd.C_below HE.out.2.1 B2
  have hg2 := blk_below HE.out.2.2.1 B2
  have H2 := Lib.hid (And.intro B2 (And.intro hr2 hg2))
  have k2 := cell_up' k0 B2
  have k3 := blk_below hgx B2
  have v0 : w2.cell? ⟨g, 0, none⟩ = some .nilIface := (blk_cell hg2 0).trans rfl
  have v1 : w2.cell? ⟨g, 1, none⟩ = some (.int .u8 0) := (blk_cell hg2 1).trans rfl
  have f0 := blk_frozen hg2 0
  have f1 := blk_frozen hg2 1
  have ne1 : ad.block ≠ g := HE.out.2.2.2
  have ne2 : g ≠ ad.block := Ne.symm ne1
  have L0 : (0 : Int) ≤ (xs.length : Int) - c.length := by omega
  have L1 : (xs.length : Int) - c.length ≤ xs.length := by omega
  clear hr2 hg2 B2 hb2 BD hgd k0 hgx
  go_wp2_with fail
  refine (HE.out.1.parse _ H2.out.2.1).mono ?_
  rintro e w3 ⟨rfl, rfl⟩
  have k4 := k2
  have k5 := k3
  have HF := Lib.hid (And.intro H2.out.1 H2.out.2.2)
  clear k2 k3
  go_wp2_with fail
  have q := blk_put (cs' := #[(.iface 26 (.slice A' c.length c')), .int .u8 4]) (blk_put (cs' := #[.nilIface, .int .u8 4]) HF.out.2 1 (.int .u8 4) rfl) 0 (.iface 26 (.slice A' c.length c')) rfl
  have qk : KeptG w ((w2.setCell ⟨g, 1, none⟩ (.int .u8 4)).setCell ⟨g, 0, none⟩ (.iface 26 (.slice A' c.length c'))) g := kept_two HF.out.1 _ _
  have hne := blk_ne k5 HF.out.2 (by decide)
  have qx := blk_far (p := ⟨g, 0, none⟩) (blk_far (p := ⟨g, 1, none⟩) k5 hne (.int .u8 4)) hne (.iface 26 (.slice A' c.length c'))
  generalize (w2.setCell ⟨g, 1, none⟩ (.int .u8 4)).setCell ⟨g, 0, none⟩ (.iface 26 (.slice A' c.length c')) = w6 at q qk qx ⊢
  have c6 : w6.cell? ⟨g, 0, none⟩ = some (.iface 26 (.slice A' c.length c')) := (blk_cell q 0).trans rfl
  have qd : w6.drew.heap[gx]? = some (.cells #[] 103 (0, 0)) := qx
  clear k4 k5 v0 v1 f0 f1
  go_region_held3 (fun w' => w'.cell? ⟨g, 0, none⟩ = some (.iface 26 (.slice A' c.length c')) ∧ w'.heap[gx]? = some (.cells #[] 103 (0, 0))) (first | with_reducible exact ⟨cell_dr c6, qd⟩ | with_reducible exact ⟨cell_al (cell_dr c6) _, blk_alloc qd _⟩ | with_reducible exact ⟨cell_dr (cell_al c6 _), blk_drew (blk_alloc qx _)⟩ | with_reducible exact ⟨cell_up' c6 B7, blk_below qx B7⟩)
    ((go_at_call 69; (with_reducible refine (printf_any _ _ _).mono ?_); rintro e w7 ⟨rfl, hb7⟩; have B7 : Below w6.heap.size w6 w7 := below_step ((below_drew (Below.refl w6.heap.size w6)).alloc (Nat.le_refl _) _) hb7))
  go_wp2
  go_ret
  exact ⟨rfl, blk_below q B7, keptG_below qk B7⟩
set_option maxRecDepth 100000 in
set_option maxHeartbeats 4000000 in
theorem dec_null5 (c : List Int) (A : Option Addr) (cc : Nat) (xs : List Int) (L : Nat) (A' : Option Addr) (c' : Nat) (g : Nat) (hE : Elem 5 c xs L A cc A' c') (hx : xs.length ≤ 100000) (hL : L = xs.length) (w : World) (hr : Kd.C (Kd.int .u8) w A xs.length xs)
    (gx : Nat) (hgx : w.heap[gx]? = some (.cells #[] 103 (0, 0))) (hg : w.heap[g]? = some (vbO .nilIface 0)) (hA : ∀ ad, A = some ad → ad.block ≠ g) :
    Calls Tryd.prog 49 #[.pointer (some ⟨gx, 0, none⟩), .slice A xs.length cc, .pointer (some ⟨g, 0, none⟩)] w fun e w' => e = .returned .nilIface ∧ Decoded w w' g .nilIface 5 := by
  subst hL
  have two := hE.two
  have hcl := hE.clen
  have hcut := hE.cut
  obtain ⟨ad, rfl, k0⟩ := hE.head w hr
  have k0 : w.cell? ad = some (.int .u8 5) := k0
  have HE := Lib.hid (And.intro hE (And.intro hr (And.intro hg (hA ad rfl))))
  have hpart := fun W => part_zero W gx
  have hpos : (0 : Int) < xs.length := by omega
  have hposn : 0 < xs.length := by omega
  have hgd : w.drew.heap[gx]? = some (.cells #[] 103 (0, 0)) := hgx
  have BD : Below w.heap.size w w.drew := below_drew (Below.refl _ _)
  clear hE hr hA
  go_enter Tryd.func49, Tryd.ntmps49
  go_wp2_with fail
  refine (print_any _ _).mono ?_
  rintro e w2 ⟨rfl, hb2⟩
  have B2 : Below w.heap.size w w2 := below_step ((Below.refl w.heap.size w).alloc (Nat.le_refl _) _) hb2
  have hr2 := Kd.C_below HE.out.2.1 B2
  have hg2 := blk_below HE.out.2.2.1 B2
  have H2 := Lib.hid (And.intro B2 (And.intro hr2 hg2))
  have k2 := cell_up' k0 B2
  have k3 := blk_below hgx B2
  have v0 : w2.cell? ⟨g, 0, none⟩ = some .nilIface := (blk_cell hg2 0).trans rfl
  have v1 : w2.cell? ⟨g, 1, none⟩ = some (.int .u8 0) := (blk_cell hg2 1).trans rfl
  have f0 := blk_frozen hg2 0
  have f1 := blk_frozen hg2 1
  have ne1 : ad.block ≠ g := HE.out.2.2.2
  have ne2 : g ≠ ad.block := Ne.symm ne1
  have L0 : (0 : Int) ≤ (xs.length : Int) - c.length := by omega
  have L1 : (xs.length : Int) - c.length ≤ xs.length := by omega
  clear hr2 hg2 B2 hb2 BD hgd k0 hgx
  have k4 := k2
  have k5 := k3
  have HF := Lib.hid (And.intro H2.out.1 H2.out.2.2)
  clear k2 k3
  go_wp2_with fail
  have q := blk_put (cs' := #[.nilIface, .int .u8 5]) (blk_put (cs' := #[.nilIface, .int .u8 5]) HF.out.2 1 (.int .u8 5) rfl) 0 .nilIface rfl
  have qk : KeptG w ((w2.setCell ⟨g, 1, none⟩ (.int .u8 5)).setCell ⟨g, 0, none⟩ .nilIface) g := kept_two HF.out.1 _ _
  have hne := blk_ne k5 HF.out.2 (by decide)
  have qx := blk_far (p := ⟨g, 0, none⟩) (blk_far (p := ⟨g, 1, none⟩) k5 hne (.int .u8 5)) hne .nilIface
  generalize (w2.setCell ⟨g, 1, none⟩ (.int .u8 5)).setCell ⟨g, 0, none⟩ .nilIface = w6 at q qk qx ⊢
  have c6 : w6.cell? ⟨g, 0, none⟩ = some .nilIface := (blk_cell q 0).trans rfl
  have qd : w6.drew.heap[gx]? = some (.cells #[] 103 (0, 0)) := qx
  clear k4 k5 v0 v1 f0 f1
  go_region_held3 (fun w' => w'.cell? ⟨g, 0, none⟩ = some .nilIface ∧ w'.heap[gx]? = some (.cells #[] 103 (0, 0))) (first | with_reducible exact ⟨cell_dr c6, qd⟩ | with_reducible exact ⟨cell_al (cell_dr c6) _, blk_alloc qd _⟩ | with_reducible exact ⟨cell_dr (cell_al c6 _), blk_drew (blk_alloc qx _)⟩ | with_reducible exact ⟨cell_up' c6 B7, blk_below qx B7⟩)
    ((go_at_call 69; (with_reducible refine (printf_any _ _ _).mono ?_); rintro e w7 ⟨rfl, hb7⟩; have B7 : Below w6.heap.size w6 w7 := below_step ((below_drew (Below.refl w6.heap.size w6)).alloc (Nat.le_refl _) _) hb7))
  go_wp2
  go_ret
  exact ⟨rfl, blk_below q B7, keptG_below qk B7⟩
set_option maxRecDepth 100000 in
set_option maxHeartbeats 4000000 in
theorem dec_null128 (c : List Int) (A : Option Addr) (cc : Nat) (xs : List Int) (L : Nat) (A' : Option Addr) (c' : Nat) (g : Nat) (hE : Elem 128 c xs L A cc A' c') (hx : xs.length ≤ 100000) (hL : L = xs.length) (w : World) (hr : Kd.C (Kd.int .u8) w A xs.length xs)
    (gx : Nat) (hgx : w.heap[gx]? = some (.cells #[] 103 (0, 0))) (hg : w.heap[g]? = some (vbO .nilIface 0)) (hA : ∀ ad, A = some ad → ad.block ≠ g) :
    Calls Tryd.prog 49 #[.pointer (some ⟨gx, 0, none⟩), .slice A xs.length cc, .pointer (some ⟨g, 0, none⟩)] w fun e w' => e = .returned .nilIface ∧ Decoded w w' g .nilIface 128 := by
  subst hL
  have two := hE.two
  have hcl := hE.clen
  have hcut := hE.cut
  obtain ⟨ad, rfl, k0⟩ := hE.head w hr
  have k0 : w.cell? ad = some (.int .u8 128) := k0
  have HE := Lib.hid (And.intro hE (And.intro hr (And.intro hg (hA ad rfl))))
  have hpart := fun W => part_zero W gx
  have hpos : (0 : Int) < xs.length := by omega
  have hposn : 0 < xs.length := by omega
  have hgd : w.drew.heap[gx]? = some (.cells #[] 103 (0, 0)) := hgx
  have BD : Below w.heap.size w w.drew := below_drew (Below.refl _ _)
  clear hE hr hA
  go_enter Tryd.func49, Tryd.ntmps49
  go_wp2_with fail
  refine (print_any _ _).mono ?_
  rintro e w2 ⟨rfl, hb2⟩
  have B2 : Below w.heap.size w w2 := below_step ((Below.refl w.heap.size w).alloc (Nat.le_refl _) _) hb2
  have hr2 := Kd.C_below HE.out.2.1 B2
  have hg2 := blk_below HE.out.2.2.1 B2
  have H2 := Lib.hid (And.intro B2 (And.intro hr2 hg2))
  have k2 := cell_up' k0 B2
  have k3 := blk_below hgx B2
  have v0 : w2.cell? ⟨g, 0, none⟩ = some .nilIface := (blk_cell hg2 0).trans rfl
  have v1 : w2.cell? ⟨g, 1, none⟩ = some (.int .u8 0) := (blk_cell hg2 1).trans rfl
  have f0 := blk_frozen hg2 0
  have f1 := blk_frozen hg2 1
  have ne1 : ad.block ≠ g := HE.out.2.2.2
  have ne2 : g ≠ ad.block := Ne.symm ne1
  have L0 : (0 : Int) ≤ (xs.length : Int) - c.length := by omega
  have L1 : (xs.length : Int) - c.length ≤ xs.length := by omega
  clear hr2 hg2 B2 hb2 BD hgd k0 hgx
  have k4 := k2
  have k5 := k3
  have HF := Lib.hid (And.intro H2.out.1 H2.out.2.2)
  clear k2 k3
  go_wp2_with fail
  have q := blk_put (cs' := #[.nilIface, .int .u8 128]) (blk_put (cs' := #[.nilIface, .int .u8 128]) HF.out.2 1 (.int .u8 128) rfl) 0 .nilIface rfl
  have qk : KeptG w ((w2.setCell ⟨g, 1, none⟩ (.int .u8 128)).setCell ⟨g, 0, none⟩ .nilIface) g := kept_two HF.out.1 _ _
  have hne := blk_ne k5 HF.out.2 (by decide)
  have qx := blk_far (p := ⟨g, 0, none⟩) (blk_far (p := ⟨g, 1, none⟩) k5 hne (.int .u8 128)) hne .nilIface
  generalize (w2.setCell ⟨g, 1, none⟩ (.int .u8 128)).setCell ⟨g, 0, none⟩ .nilIface = w6 at q qk qx ⊢
  have c6 : w6.cell? ⟨g, 0, none⟩ = some .nilIface := (blk_cell q 0).trans rfl
  have qd : w6.drew.heap[gx]? = some (.cells #[] 103 (0, 0)) := qx
  clear k4 k5 v0 v1 f0 f1
  go_region_held3 (fun w' => w'.cell? ⟨g, 0, none⟩ = some .nilIface ∧ w'.heap[gx]? = some (.cells #[] 103 (0, 0))) (first | with_reducible exact ⟨cell_dr c6, qd⟩ | with_reducible exact ⟨cell_al (cell_dr c6) _, blk_alloc qd _⟩ | with_reducible exact ⟨cell_dr (cell_al c6 _), blk_drew (blk_alloc qx _)⟩ | with_reducible exact ⟨cell_up' c6 B7, blk_below qx B7⟩)
    ((go_at_call 69; (with_reducible refine (printf_any _ _ _).mono ?_); rintro e w7 ⟨rfl, hb7⟩; have B7 : Below w6.heap.size w6 w7 := below_step ((below_drew (Below.refl w6.heap.size w6)).alloc (Nat.le_refl _) _) hb7))
  go_wp2
  go_ret
  exact ⟨rfl, blk_below q B7, keptG_below qk B7⟩
set_option maxRecDepth 100000 in
set_option maxHeartbeats 4000000 in
theorem dec_null129 (c : List Int) (A : Option Addr) (cc : Nat) (xs : List Int) (L : Nat) (A' : Option Addr) (c' : Nat) (g : Nat) (hE : Elem 129 c xs L A cc A' c') (hx : xs.length ≤ 100000) (hL : L = xs.length) (w : World) (hr : Kd.C (Kd.int .u8) w A xs.length xs)
    (gx : Nat) (hgx : w.heap[gx]? = some (.cells #[] 103 (0, 0))) (hg : w.heap[g]? = some (vbO .nilIface 0)) (hA : ∀ ad, A = some ad → ad.block ≠ g) :
    Calls Tryd.prog 49 #[.pointer (some ⟨gx, 0, none⟩), .slice A xs.length cc, .pointer (some ⟨g, 0, none⟩)] w fun e w' => e = .returned .nilIface ∧ Decoded w w' g .nilIface 129 := by
  subst hL
  have two := hE.two
  have hcl := hE.clen
  have hcut := hE.cut
  obtain ⟨ad, rfl, k0⟩ := hE.head w hr
  have k0 : w.cell? ad = some (.int .u8 129) := k0
  have HE := Lib.hid (And.intro hE (And.intro hr (And.intro hg (hA ad rfl))))
  have hpart := fun W => part_zero W gx
  have hpos : (0 : Int) < xs.length := by omega
  have hposn : 0 < xs.length := by omega
  have hgd : w.drew.heap[gx]? = some (.cells #[] 103 (0, 0)) := hgx
  have BD : Below w.heap.size w w.drew := below_drew (Below.refl _ _)
  clear hE hr hA
  go_enter Tryd.func49, Tryd.ntmps49
  go_wp2_with fail
  refine (print_any _ _).mono ?_
  rintro e w2 ⟨rfl, hb2⟩
  have B2 : Below w.heap.size w w2 := below_step ((Below.refl w.heap.size w).alloc (Nat.le_refl _) _) hb2
  have hr2 := Kd.C_below HE.out.2.1 B2
  have hg2 := blk_below HE.out.2.2.1 B2
  have H2 := Lib.hid (And.intro B2 (And.intro hr2 hg2))
  have k2 := cell_up' k0 B2
  have k3 := blk_below hgx B2
  have v0 : w2.cell? ⟨g, 0, none⟩ = some .nilIface := (blk_cell hg2 0).trans rfl
  have v1 : w2.cell? ⟨g, 1, none⟩ = some (.int .u8 0) := (blk_cell hg2 1).trans rfl
  have f0 := blk_frozen hg2 0
  have f1 := blk_frozen hg2 1
  have ne1 : ad.block ≠ g := HE.out.2.2.2
  have ne2 : g ≠ ad.block := Ne.symm ne1
  have L0 : (0 : Int) ≤ (xs.length : Int) - c.length := by omega
  have L1 : (xs.length : Int) - c.length ≤ xs.length := by omega
  clear hr2 hg2 B2 hb2 BD hgd k0 hgx
  have k4 := k2
  have k5 := k3
  have HF := Lib.hid (And.intro H2.out.1 H2.out.2.2)
  clear k2 k3
  go_wp2_with fail
  have q := blk_put (cs' := #[.nilIface, .int .u8 129]) (blk_put (cs' := #[.nilIface, .int .u8 129]) HF.out.2 1 (.int .u8 129) rfl) 0 .nilIface rfl
  have qk : KeptG w ((w2.setCell ⟨g, 1, none⟩ (.int .u8 129)).setCell ⟨g, 0, none⟩ .nilIface) g := kept_two HF.out.1 _ _
  have hne := blk_ne k5 HF.out.2 (by decide)
  have qx := blk_far (p := ⟨g, 0, none⟩) (blk_far (p := ⟨g, 1, none⟩) k5 hne (.int .u8 129)) hne .nilIface
  generalize (w2.setCell ⟨g, 1, none⟩ (.int .u8 129)).setCell ⟨g, 0, none⟩ .nilIface = w6 at q qk qx ⊢
  have c6 : w6.cell? ⟨g, 0, none⟩ = some .nilIface := (blk_cell q 0).trans rfl
  have qd : w6.drew.heap[gx]? = some (.cells #[] 103 (0, 0)) := qx
  clear k4 k5 v0 v1 f0 f1
  go_region_held3 (fun w' => w'.cell? ⟨g, 0, none⟩ = some .nilIface ∧ w'.heap[gx]? = some (.cells #[] 103 (0, 0))) (first | with_reducible exact ⟨cell_dr c6, qd⟩ | with_reducible exact ⟨cell_al (cell_dr c6) _, blk_alloc qd _⟩ | with_reducible exact ⟨cell_dr (cell_al c6 _), blk_drew (blk_alloc qx _)⟩ | with_reducible exact ⟨cell_up' c6 B7, blk_below qx B7⟩)
    ((go_at_call 69; (with_reducible refine (printf_any _ _ _).mono ?_); rintro e w7 ⟨rfl, hb7⟩; have B7 : Below w6.heap.size w6 w7 := below_step ((below_drew (Below.refl w6.heap.size w6)).alloc (Nat.le_refl _) _) hb7))
  go_wp2
  go_ret
  exact ⟨rfl, blk_below q B7, keptG_below qk B7⟩
set_option maxRecDepth 100000 in
set_option maxHeartbeats 4000000 in
theorem dec_null130 (c : List Int) (A : Option Addr) (cc : Nat) (xs : List Int) (L : Nat) (A' : Option Addr) (c' : Nat) (g : Nat) (hE : Elem 130 c xs L A cc A' c') (hx : xs.length ≤ 100000) (hL : L = xs.length) (w : World) (hr : Kd.C (Kd.int .u8) w A xs.length xs)
    (gx : Nat) (hgx : w.heap[gx]? = some (.cells #[] 103 (0, 0))) (hg : w.heap[g]? = some (vbO .nilIface 0)) (hA : ∀ ad, A = some ad → ad.block ≠ g) :
    Calls Tryd.prog 49 #[.pointer (some ⟨gx, 0, none⟩), .slice A xs.length cc, .pointer (some ⟨g, 0, none⟩)] w fun e w' => e = .returned .nilIface ∧ Decoded w w' g .nilIface 130 := by
  subst hL
  have two := hE.two
  have hcl := hE.clen
  have hcut := hE.cut
  obtain ⟨ad, rfl, k0⟩ := hE.head w hr
  have k0 : w.cell? ad = some (.int .u8 130) := k0
  have HE := Lib.hid (And.intro hE (And.intro hr (And.intro hg (hA ad rfl))))
  have hpart := fun W => part_zero W gx
  have hpos : (0 : Int) < xs.length := by omega
  have hposn : 0 < xs.length := by omega
  have hgd : w.drew.heap[gx]? = some (.cells #[] 103 (0, 0)) := hgx
  have BD : Below w.heap.size w w.drew := below_drew (Below.refl _ _)
  clear hE hr hA
  go_enter Tryd.func49, Tryd.ntmps49
  go_wp2_with fail
  refine (print_any _ _).mono ?_
  rintro e w2 ⟨rfl, hb2⟩
  have B2 : Below w.heap.size w w2 := below_step ((Below.refl w.heap.size w).alloc (Nat.le_refl _) _) hb2
  have hr2 := Kd.C_below HE.out.2.1 B2
  have hg2 := blk_below HE.out.2.2.1 B2
  have H2 := Lib.hid (And.intro B2 (And.intro hr2 hg2))
  have k2 := cell_up' k0 B2
  have k3 := blk_below hgx B2
  have v0 : w2.cell? ⟨g, 0, none⟩ = some .nilIface := (blk_cell hg2 0).trans rfl
  have v1 : w2.cell? ⟨g, 1, none⟩ = some (.int .u8 0) := (blk_cell hg2 1).trans rfl
  have f0 := blk_frozen hg2 0
  have f1 := blk_frozen hg2 1
  have ne1 : ad.block ≠ g := HE.out.2.2.2
  have ne2 : g ≠ ad.block := Ne.symm ne1
  have L0 : (0 : Int) ≤ (xs.length : Int) - c.length := by omega
  have L1 : (xs.length : Int) - c.length ≤ xs.length := by omega
  clear hr2 hg2 B2 hb2 BD hgd k0 hgx
  have k4 := k2
  have k5 := k3
  have HF := Lib.hid (And.intro H2.out.1 H2.out.2.2)
  clear k2 k3
  go_wp2_with fail
  have q := blk_put (cs' := #[.nilIface, .int .u8 130]) (blk_put (cs' := #[.nilIface, .int .u8 130]) HF.out.2 1 (.int .u8 130) rfl) 0 .nilIface rfl
  have qk : KeptG w ((w2.setCell ⟨g, 1, none⟩ (.int .u8 130)).setCell ⟨g, 0, none⟩ .nilIface) g := kept_two HF.out.1 _ _
  have hne := blk_ne k5 HF.out.2 (by decide)
  have qx := blk_far (p := ⟨g, 0, none⟩) (blk_far (p := ⟨g, 1, none⟩) k5 hne (.int .u8 130)) hne .nilIface
  generalize (w2.setCell ⟨g, 1, none⟩ (.int .u8 130)).setCell ⟨g, 0, none⟩ .nilIface = w6 at q qk qx ⊢
  have c6 : w6.cell? ⟨g, 0, none⟩ = some .nilIface := (blk_cell q 0).trans rfl
  have qd : w6.drew.heap[gx]? = some (.cells #[] 103 (0, 0)) := qx
  clear k4 k5 v0 v1 f0 f1
  go_region_held3 (fun w' => w'.cell? ⟨g, 0, none⟩ = some .nilIface ∧ w'.heap[gx]? = some (.cells #[] 103 (0, 0))) (first | with_reducible exact ⟨cell_dr c6, qd⟩ | with_reducible exact ⟨cell_al (cell_dr c6) _, blk_alloc qd _⟩ | with_reducible exact ⟨cell_dr (cell_al c6 _), blk_drew (blk_alloc qx _)⟩ | with_reducible exact ⟨cell_up' c6 B7, blk_below qx B7⟩)
    ((go_at_call 69; (with_reducible refine (printf_any _ _ _).mono ?_); rintro e w7 ⟨rfl, hb7⟩; have B7 : Below w6.heap.size w6 w7 := below_step ((below_drew (Below.refl w6.heap.size w6)).alloc (Nat.le_refl _) _) hb7))
  go_wp2
  go_ret
  exact ⟨rfl, blk_below q B7, keptG_below qk B7⟩
set_option maxRecDepth 100000 in
set_option maxHeartbeats 4000000 in
theorem dec_oid (a b : Int) (rest : List Int) (dt : ByteArray) (nm : List Int) (a0 : 0 ≤ a) (a2 : a ≤ 2) (b0 : 0 ≤ b) (b40 : b < 40) (hrest : ∀ x ∈ rest, 0 ≤ x ∧ x ≤ 4294967295) (hl : rest.length ≤ 300) (hdt : dt = strOfNums (sDot (a :: b :: rest))) (hnm : nm = sName (a :: b :: rest)) (A : Option Addr) (cc : Nat) (xs : List Int) (L : Nat) (A' : Option Addr) (c' : Nat) (g : Nat) (hE : Elem 6 nm xs L A cc A' c') (hx : xs.length ≤ 100000) (hL : L = xs.length) (w : World) (hr : Kd.C (Kd.int .u8) w A xs.length xs) (ht : PowTab w)
    (gx : Nat) (hgx : w.heap[gx]? = some (.cells #[] 103 (0, 0))) (hg : w.heap[g]? = some (vbO .nilIface 0)) (hA : ∀ ad, A = some ad → ad.block ≠ g) :
    Calls Tryd.prog 49 #[.pointer (some ⟨gx, 0, none⟩), .slice A xs.length cc, .pointer (some ⟨g, 0, none⟩)] w fun e w' => e = .returned .nilIface ∧ Decoded w w' g (.iface 9 (.string dt)) 6 := by
  subst hL
  have HO := Lib.hid (fun W hr ht => parseRaw_oid A cc xs xs.length A' c' ⟨#[79, 73, 68]⟩ a b rest a0 a2 b0 b40 hrest hl (hnm ▸ hE) hx W hr ht)
  rw [← hdt] at HO
  clear hdt hnm
  have HT := Lib.hid ht
  clear ht
  have two := hE.two
  have hcl := hE.clen
  have hcut := hE.cut
  obtain ⟨ad, rfl, k0⟩ := hE.head w hr
  have k0 : w.cell? ad = some (.int .u8 6) := k0
  have HE := Lib.hid (And.intro hE (And.intro hr (And.intro hg (hA ad rfl))))
  have hpart := fun W => part_zero W gx
  have hpos : (0 : Int) < xs.length := by omega
  have hposn : 0 < xs.length := by omega
  have hgd : w.drew.heap[gx]? = some (.cells #[] 103 (0, 0)) := hgx
  have BD : Below w.heap.size w w.drew := below_drew (Below.refl _ _)
  clear hE hr hA
  go_enter Tryd.func49, Tryd.ntmps49
  go_wp2_with fail
  refine (print_any _ _).mono ?_
  rintro e w2 ⟨rfl, hb2⟩
  have B2 : Below w.heap.size w w2 := below_step ((Below.refl w.heap.size w).alloc (Nat.le_refl _) _) hb2
  have hr2 := Kd.C_below HE.out.2.1 B2
  have hg2 := blk_below HE.out.2.2.1 B2
  have H2 := Lib.hid (And.intro B2 (And.intro hr2 hg2))
  have k2 := cell_up' k0 B2
  have k3 := blk_below hgx B2
  have v0 : w2.cell? ⟨g, 0, none⟩ = some .nilIface := (blk_cell hg2 0).trans rfl
  have v1 : w2.cell? ⟨g, 1, none⟩ = some (.int .u8 0) := (blk_cell hg2 1).trans rfl
  have f0 := blk_frozen hg2 0
  have f1 := blk_frozen hg2 1
  have ne1 : ad.block ≠ g := HE.out.2.2.2
  have ne2 : g ≠ ad.block := Ne.symm ne1
  have L0 : (0 : Int) ≤ (xs.length : Int) - nm.length := by omega
  have L1 : (xs.length : Int) - nm.length ≤ xs.length := by omega
  clear hr2 hg2 B2 hb2 BD hgd k0 hgx
  have hAs := fun W => as_str (.string dt) W
  go_wp2_with fail
  refine (HO.out _ H2.out.2.1 (PowTab.on HT.out H2.out.1)).mono ?_
  rintro e w4 ⟨rfl, hb4⟩
  have B4 := below_step H2.out.1 hb4
  have hg4 := blk_below H2.out.2.2 hb4
  have k4 := cell_up' k2 hb4
  have k5 := blk_below k3 hb4
  have HF := Lib.hid (And.intro B4 hg4)
  clear v0 v1 f0 f1 k2 k3 H2
  have v0 : w4.cell? ⟨g, 0, none⟩ = some .nilIface := (blk_cell hg4 0).trans rfl
  have v1 : w4.cell? ⟨g, 1, none⟩ = some (.int .u8 0) := (blk_cell hg4 1).trans rfl
  have f0 := blk_frozen hg4 0
  have f1 := blk_frozen hg4 1
  clear hg4 B4 hb4
  have kk4 := (cell_far (W := w4) (p := ⟨g, 1, none⟩) (a := ad) ne1 (.int .u8 6)).trans k4
  go_wp2_with fail
  have q := blk_put (cs' := #[(.iface 9 (.string dt)), .int .u8 6]) (blk_put (cs' := #[.nilIface, .int .u8 6]) HF.out.2 1 (.int .u8 6) rfl) 0 (.iface 9 (.string dt)) rfl
  have qk : KeptG w ((w4.setCell ⟨g, 1, none⟩ (.int .u8 6)).setCell ⟨g, 0, none⟩ (.iface 9 (.string dt))) g := kept_two HF.out.1 _ _
  have hne := blk_ne k5 HF.out.2 (by decide)
  have qx := blk_far (p := ⟨g, 0, none⟩) (blk_far (p := ⟨g, 1, none⟩) k5 hne (.int .u8 6)) hne (.iface 9 (.string dt))
  generalize (w4.setCell ⟨g, 1, none⟩ (.int .u8 6)).setCell ⟨g, 0, none⟩ (.iface 9 (.string dt)) = w6 at q qk qx ⊢
  have c6 : w6.cell? ⟨g, 0, none⟩ = some (.iface 9 (.string dt)) := (blk_cell q 0).trans rfl
  have qd : w6.drew.heap[gx]? = some (.cells #[] 103 (0, 0)) := qx
  clear k4 k5 kk4 v0 v1 f0 f1
  go_region_held3 (fun w' => w'.cell? ⟨g, 0, none⟩ = some (.iface 9 (.string dt)) ∧ w'.heap[gx]? = some (.cells #[] 103 (0, 0))) (first | with_reducible exact ⟨cell_dr c6, qd⟩ | with_reducible exact ⟨cell_al (cell_dr c6) _, blk_alloc qd _⟩ | with_reducible exact ⟨cell_dr (cell_al c6 _), blk_drew (blk_alloc qx _)⟩ | with_reducible exact ⟨cell_up' c6 B7, blk_below qx B7⟩)
    ((go_at_call 69; (with_reducible refine (printf_any _ _ _).mono ?_); rintro e w7 ⟨rfl, hb7⟩; have B7 : Below w6.heap.size w6 w7 := below_step ((below_drew (Below.refl w6.heap.size w6)).alloc (Nat.le_refl _) _) hb7))
  go_wp2
  go_ret
  exact ⟨rfl, blk_below q B7, keptG_below qk B7⟩
set_option maxRecDepth 100000 in
set_option maxHeartbeats 4000000 in
theorem dec_cnt (c : List Int) (hc : IsB c) (c1 : 1 ≤ c.length) (h9 : c.length ≤ 8 ∨ (c.length = 9 ∧ rd c 0 = 0)) (hv : beVal c 0 < 18446744073709551616) (A : Option Addr) (cc : Nat) (xs : List Int) (L : Nat) (A' : Option Addr) (c' : Nat) (g : Nat) (hE : Elem 65 c xs L A cc A' c') (hx : xs.length ≤ 100000) (hL : L = xs.length) (w : World) (hr : Kd.C (Kd.int .u8) w A xs.length xs)
    (gx : Nat) (hgx : w.heap[gx]? = some (.cells #[] 103 (0, 0))) (hg : w.heap[g]? = some (vbO .nilIface 0)) (hA : ∀ ad, A = some ad → ad.block ≠ g) :
    Calls Tryd.prog 49 #[.pointer (some ⟨gx, 0, none⟩), .slice A xs.length cc, .pointer (some ⟨g, 0, none⟩)] w fun e w' => e = .returned .nilIface ∧ Decoded w w' g (.iface 38 (.int .u64 (beVal c 0))) 65 := by
  subst hL
  have HC := Lib.hid (And.intro hc h9)
  clear hc h9
  have two := hE.two
  have hcl := hE.clen
  have hcut := hE.cut
  obtain ⟨ad, rfl, k0⟩ := hE.head w hr
  have k0 : w.cell? ad = some (.int .u8 65) := k0
  have HE := Lib.hid (And.intro hE (And.intro hr (And.intro hg (hA ad rfl))))
  have hpart := fun W => part_zero W gx
  have hpos : (0 : Int) < xs.length := by omega
  have hposn : 0 < xs.length := by omega
  have hgd : w.drew.heap[gx]? = some (.cells #[] 103 (0, 0)) := hgx
  have BD : Below w.heap.size w w.drew := below_drew (Below.refl _ _)
  clear hE hr hA
  go_enter Tryd.func49, Tryd.ntmps49
  go_wp2_with fail
  refine (print_any _ _).mono ?_
  rintro e w2 ⟨rfl, hb2⟩
  have B2 : Below w.heap.size w w2 := below_step ((Below.refl w.heap.size w).alloc (Nat.le_refl _) _) hb2
  have hr2 := Kd.C_below HE.out.2.1 B2
  have hg2 := blk_below HE.out.2.2.1 B2
  have H2 := Lib.hid (And.intro B2 (And.intro hr2 hg2))
  have k2 := cell_up' k0 B2
  have k3 := blk_below hgx B2
  have v0 : w2.cell? ⟨g, 0, none⟩ = some .nilIface := (blk_cell hg2 0).trans rfl
  have v1 : w2.cell? ⟨g, 1, none⟩ = some (.int .u8 0) := (blk_cell hg2 1).trans rfl
  have f0 := blk_frozen hg2 0
  have f1 := blk_frozen hg2 1
  have ne1 : ad.block ≠ g := HE.out.2.2.2
  have ne2 : g ≠ ad.block := Ne.symm ne1
  have L0 : (0 : Int) ≤ (xs.length : Int) - c.length := by omega
  have L1 : (xs.length : Int) - c.length ≤ xs.length := by omega
  clear hr2 hg2 B2 hb2 BD hgd k0 hgx
  go_wp2_with fail
  refine (HE.out.1.parse _ H2.out.2.1).mono ?_
  rintro e w3 ⟨rfl, rfl⟩
  go_wp2_with fail
  refine (parseUint_any A' c' c _ (HE.out.1.reads _ H2.out.2.1) HC.out.1 c1 HC.out.2 hv).mono ?_
  rintro e w4 ⟨rfl, hb4⟩
  have B4 := below_step H2.out.1 hb4
  have hg4 := blk_below H2.out.2.2 hb4
  have k4 := cell_up' k2 hb4
  have k5 := blk_below k3 hb4
  have HF := Lib.hid (And.intro B4 hg4)
  clear v0 v1 f0 f1 k2 k3 H2
  have v0 : w4.cell? ⟨g, 0, none⟩ = some .nilIface := (blk_cell hg4 0).trans rfl
  have v1 : w4.cell? ⟨g, 1, none⟩ = some (.int .u8 0) := (blk_cell hg4 1).trans rfl
  have f0 := blk_frozen hg4 0
  have f1 := blk_frozen hg4 1
  clear hg4 B4 hb4
  go_wp2_with fail
  have q := blk_put (cs' := #[(.iface 38 (.int .u64 (beVal c 0))), .int .u8 65]) (blk_put (cs' := #[.nilIface, .int .u8 65]) HF.out.2 1 (.int .u8 65) rfl) 0 (.iface 38 (.int .u64 (beVal c 0))) rfl
  have qk : KeptG w ((w4.setCell ⟨g, 1, none⟩ (.int .u8 65)).setCell ⟨g, 0, none⟩ (.iface 38 (.int .u64 (beVal c 0)))) g := kept_two HF.out.1 _ _
  have hne := blk_ne k5 HF.out.2 (by decide)
  have qx := blk_far (p := ⟨g, 0, none⟩) (blk_far (p := ⟨g, 1, none⟩) k5 hne (.int .u8 65)) hne (.iface 38 (.int .u64 (beVal c 0)))
  generalize (w4.setCell ⟨g, 1, none⟩ (.int .u8 65)).setCell ⟨g, 0, none⟩ (.iface 38 (.int .u64 (beVal c 0))) = w6 at q qk qx ⊢
  have c6 : w6.cell? ⟨g, 0, none⟩ = some (.iface 38 (.int .u64 (beVal c 0))) := (blk_cell q 0).trans rfl
  have qd : w6.drew.heap[gx]? = some (.cells #[] 103 (0, 0)) := qx
  clear k4 k5 v0 v1 f0 f1
  go_region_held3 (fun w' => w'.cell? ⟨g, 0, none⟩ = some (.iface 38 (.int .u64 (beVal c 0))) ∧ w'.heap[gx]? = some (.cells #[] 103 (0, 0))) (first | with_reducible exact ⟨cell_dr c6, qd⟩ | with_reducible exact ⟨cell_al (cell_dr c6) _, blk_alloc qd _⟩ | with_reducible exact ⟨cell_dr (cell_al c6 _), blk_drew (blk_alloc qx _)⟩ | with_reducible exact ⟨cell_up' c6 B7, blk_below qx B7⟩)
    ((go_at_call 69; (with_reducible refine (printf_any _ _ _).mono ?_); rintro e w7 ⟨rfl, hb7⟩; have B7 : Below w6.heap.size w6 w7 := below_step ((below_drew (Below.refl w6.heap.size w6)).alloc (Nat.le_refl _) _) hb7))
  go_wp2
  go_ret
  exact ⟨rfl, blk_below q B7, keptG_below qk B7⟩
set_option maxRecDepth 100000 in
set_option maxHeartbeats 4000000 in
theorem dec_gau (c : List Int) (hc : IsB c) (c1 : 1 ≤ c.length) (h9 : c.length ≤ 8 ∨ (c.length = 9 ∧ rd c 0 = 0)) (hv : beVal c 0 < 18446744073709551616) (A : Option Addr) (cc : Nat) (xs : List Int) (L : Nat) (A' : Option Addr) (c' : Nat) (g : Nat) (hE : Elem 66 c xs L A cc A' c') (hx : xs.length ≤ 100000) (hL : L = xs.length) (w : World) (hr : Kd.C (Kd.int .u8) w A xs.length xs)
    (gx : Nat) (hgx : w.heap[gx]? = some (.cells #[] 103 (0, 0))) (hg : w.heap[g]? = some (vbO .nilIface 0)) (hA : ∀ ad, A = some ad → ad.block ≠ g) :
    Calls Tryd.prog 49 #[.pointer (some ⟨gx, 0, none⟩), .slice A xs.length cc, .pointer (some ⟨g, 0, none⟩)] w fun e w' => e = .returned .nilIface ∧ Decoded w w' g (.iface 38 (.int .u64 (beVal c 0))) 66 := by
  subst hL
  have HC := Lib.hid (And.intro hc h9)
  clear hc h9
  have two := hE.two
  have hcl := hE.clen
  have hcut := hE.cut
  obtain ⟨ad, rfl, k0⟩ := hE.head w hr
  have k0 : w.cell? ad = some (.int .u8 66) := k0
  have HE := Lib.hid (And.intro hE (And.intro hr (And.intro hg (hA ad rfl))))
  have hpart := fun W => part_zero W gx
  have hpos : (0 : Int) < xs.length := by omega
  have hposn : 0 < xs.length := by omega
  have hgd : w.drew.heap[gx]? = some (.cells #[] 103 (0, 0)) := hgx
  have BD : Below w.heap.size w w.drew := below_drew (Below.refl _ _)
  clear hE hr hA
  go_enter Tryd.func49, Tryd.ntmps49
  go_wp2_with fail
  refine (print_any _ _).mono ?_
  rintro e w2 ⟨rfl, hb2⟩
  have B2 : Below w.heap.size w w2 := below_step ((Below.refl w.heap.size w).alloc (Nat.le_refl _) _) hb2
  have hr2 := Kd.C_below HE.out.2.1 B2
  have hg2 := blk_below HE.out.2.2.1 B2
  have H2 := Lib.hid (And.intro B2 (And.intro hr2 hg2))
  have k2 := cell_up' k0 B2
  have k3 := blk_below hgx B2
  have v0 : w2.cell? ⟨g, 0, none⟩ = some .nilIface := (blk_cell hg2 0).trans rfl
  have v1 : w2.cell? ⟨g, 1, none⟩ = some (.int .u8 0) := (blk_cell hg2 1).trans rfl
  have f0 := blk_frozen hg2 0
  have f1 := blk_frozen hg2 1
  have ne1 : ad.block ≠ g := HE.out.2.2.2
  have ne2 : g ≠ ad.block := Ne.symm ne1
  have L0 : (0 : Int) ≤ (xs.length : Int) - c.length := by omega
  have L1 : (xs.length : Int) - c.length ≤ xs.length := by omega
  clear hr2 hg2 B2 hb2 BD hgd k0 hgx
  go_wp2_with fail
  refine (HE.out.1.parse _ H2.out.2.1).mono ?_
  rintro e w3 ⟨rfl, rfl⟩
  go_wp2_with fail
  refine (parseUint_any A' c' c _ (HE.out.1.reads _ H2.out.2.1) HC.out.1 c1 HC.out.2 hv).mono ?_
  rintro e w4 ⟨rfl, hb4⟩
  have B4 := below_step H2.out.1 hb4
  have hg4 := blk_below H2.out.2.2 hb4
  have k4 := cell_up' k2 hb4
  have k5 := blk_below k3 hb4
  have HF := Lib.hid (And.intro B4 hg4)
  clear v0 v1 f0 f1 k2 k3 H2
  have v0 : w4.cell? ⟨g, 0, none⟩ = some .nilIface := (blk_cell hg4 0).trans rfl
  have v1 : w4.cell? ⟨g, 1, none⟩ = some (.int .u8 0) := (blk_cell hg4 1).trans rfl
  have f0 := blk_frozen hg4 0
  have f1 := blk_frozen hg4 1
  clear hg4 B4 hb4
  go_wp2_with fail
  have q := blk_put (cs' := #[(.iface 38 (.int .u64 (beVal c 0))), .int .u8 66]) (blk_put (cs' := #[.nilIface, .int .u8 66]) HF.out.2 1 (.int .u8 66) rfl) 0 (.iface 38 (.int .u64 (beVal c 0))) rfl
  have qk : KeptG w ((w4.setCell ⟨g, 1, none⟩ (.int .u8 66)).setCell ⟨g, 0, none⟩ (.iface 38 (.int .u64 (beVal c 0)))) g := kept_two HF.out.1 _ _
  have hne := blk_ne k5 HF.out.2 (by decide)
  have qx := blk_far (p := ⟨g, 0, none⟩) (blk_far (p := ⟨g, 1, none⟩) k5 hne (.int .u8 66)) hne (.iface 38 (.int .u64 (beVal c 0)))
  generalize (w4.setCell ⟨g, 1, none⟩ (.int .u8 66)).setCell ⟨g, 0, none⟩ (.iface 38 (.int .u64 (beVal c 0))) = w6 at q qk qx ⊢
  have c6 : w6.cell? ⟨g, 0, none⟩ = some (.iface 38 (.int .u64 (beVal c 0))) := (blk_cell q 0).trans rfl
  have qd : w6.drew.heap[gx]? = some (.cells #[] 103 (0, 0)) := qx
  clear k4 k5 v0 v1 f0 f1
  go_region_held3 (fun w' => w'.cell? ⟨g, 0, none⟩ = some (.iface 38 (.int .u64 (beVal c 0))) ∧ w'.heap[gx]? = some (.cells #[] 103 (0, 0))) (first | with_reducible exact ⟨cell_dr c6, qd⟩ | with_reducible exact ⟨cell_al (cell_dr c6) _, blk_alloc qd _⟩ | with_reducible exact ⟨cell_dr (cell_al c6 _), blk_drew (blk_alloc qx _)⟩ | with_reducible exact ⟨cell_up' c6 B7, blk_below qx B7⟩)
    ((go_at_call 69; (with_reducible refine (printf_any _ _ _).mono ?_); rintro e w7 ⟨rfl, hb7⟩; have B7 : Below w6.heap.size w6 w7 := below_step ((below_drew (Below.refl w6.heap.size w6)).alloc (Nat.le_refl _) _) hb7))
  go_wp2
  go_ret
  exact ⟨rfl, blk_below q B7, keptG_below qk B7⟩
set_option maxRecDepth 100000 in
set_option maxHeartbeats 4000000 in
theorem dec_tick (c : List Int) (hc : IsB c) (c1 : 1 ≤ c.length) (h9 : c.length ≤ 8 ∨ (c.length = 9 ∧ rd c 0 = 0)) (hv : beVal c 0 < 4294967296) (A : Option Addr) (cc : Nat) (xs : List Int) (L : Nat) (A' : Option Addr) (c' : Nat) (g : Nat) (hE : Elem 67 c xs L A cc A' c') (hx : xs.length ≤ 100000) (hL : L = xs.length) (w : World) (hr : Kd.C (Kd.int .u8) w A xs.length xs)
    (gx : Nat) (hgx : w.heap[gx]? = some (.cells #[] 103 (0, 0))) (hg : w.heap[g]? = some (vbO .nilIface 0)) (hA : ∀ ad, A = some ad → ad.block ≠ g) :
    Calls Tryd.prog 49 #[.pointer (some ⟨gx, 0, none⟩), .slice A xs.length cc, .pointer (some ⟨g, 0, none⟩)] w fun e w' => e = .returned .nilIface ∧ Decoded w w' g (.iface 36 (.int .u32 (beVal c 0))) 67 := by
  subst hL
  have HC := Lib.hid (And.intro hc h9)
  clear hc h9
  have two := hE.two
  have hcl := hE.clen
  have hcut := hE.cut
  obtain ⟨ad, rfl, k0⟩ := hE.head w hr
  have k0 : w.cell? ad = some (.int .u8 67) := k0
  have HE := Lib.hid (And.intro hE (And.intro hr (And.intro hg (hA ad rfl))))
  have hpart := fun W => part_zero W gx
  have hpos : (0 : Int) < xs.length := by omega
  have hposn : 0 < xs.length := by omega
  have hgd : w.drew.heap[gx]? = some (.cells #[] 103 (0, 0)) := hgx
  have BD : Below w.heap.size w w.drew := below_drew (Below.refl _ _)
  clear hE hr hA
  go_enter Tryd.func49, Tryd.ntmps49
  go_wp2_with fail
  refine (print_any _ _).mono ?_
  rintro e w2 ⟨rfl, hb2⟩
  have B2 : Below w.heap.size w w2 := below_step ((Below.refl w.heap.size w).alloc (Nat.le_refl _) _) hb2
  have hr2 := Kd.C_below HE.out.2.1 B2
  have hg2 := blk_below HE.out.2.2.1 B2
  have H2 := Lib.hid (And.intro B2 (And.intro hr2 hg2))
  have k2 := cell_up' k0 B2
  have k3 := blk_below hgx B2
  have v0 : w2.cell? ⟨g, 0, none⟩ = some .nilIface := (blk_cell hg2 0).trans rfl
  have v1 : w2.cell? ⟨g, 1, none⟩ = some (.int .u8 0) := (blk_cell hg2 1).trans rfl
  have f0 := blk_frozen hg2 0
  have f1 := blk_frozen hg2 1
  have ne1 : ad.block ≠ g := HE.out.2.2.2
  have ne2 : g ≠ ad.block := Ne.symm ne1
  have L0 : (0 : Int) ≤ (xs.length : Int) - c.length := by omega
  have L1 : (xs.length : Int) - c.length ≤ xs.length := by omega
  clear hr2 hg2 B2 hb2 BD hgd k0 hgx
  go_wp2_with fail
  refine (HE.out.1.parse _ H2.out.2.1).mono ?_
  rintro e w3 ⟨rfl, rfl⟩
  go_wp2_with fail
  refine (parseUint32_any A' c' c _ (HE.out.1.reads _ H2.out.2.1) HC.out.1 c1 HC.out.2 hv).mono ?_
  rintro e w4 ⟨rfl, hb4⟩
  have B4 := below_step H2.out.1 hb4
  have hg4 := blk_below H2.out.2.2 hb4
  have k4 := cell_up' k2 hb4
  have k5 := blk_below k3 hb4
  have HF := Lib.hid (And.intro B4 hg4)
  clear v0 v1 f0 f1 k2 k3 H2
  have v0 : w4.cell? ⟨g, 0, none⟩ = some .nilIface := (blk_cell hg4 0).trans rfl
  have v1 : w4.cell? ⟨g, 1, none⟩ = some (.int .u8 0) := (blk_cell hg4 1).trans rfl
  have f0 := blk_frozen hg4 0
  have f1 := blk_frozen hg4 1
  clear hg4 B4 hb4
  go_wp2_with fail
  have q := blk_put (cs' := #[(.iface 36 (.int .u32 (beVal c 0))), .int .u8 67]) (blk_put (cs' := #[.nilIface, .int .u8 67]) HF.out.2 1 (.int .u8 67) rfl) 0 (.iface 36 (.int .u32 (beVal c 0))) rfl
  have qk : KeptG w ((w4.setCell ⟨g, 1, none⟩ (.int .u8 67)).setCell ⟨g, 0, none⟩ (.iface 36 (.int .u32 (beVal c 0)))) g := kept_two HF.out.1 _ _
  have hne := blk_ne k5 HF.out.2 (by decide)
  have qx := blk_far (p := ⟨g, 0, none⟩) (blk_far (p := ⟨g, 1, none⟩) k5 hne (.int .u8 67)) hne (.iface 36 (.int .u32 (beVal c 0)))
  generalize (w4.setCell ⟨g, 1, none⟩ (.int .u8 67)).setCell ⟨g, 0, none⟩ (.iface 36 (.int .u32 (beVal c 0))) = w6 at q qk qx ⊢
  have c6 : w6.cell? ⟨g, 0, none⟩ = some (.iface 36 (.int .u32 (beVal c 0))) := (blk_cell q 0).trans rfl
  have qd : w6.drew.heap[gx]? = some (.cells #[] 103 (0, 0)) := qx
  clear k4 k5 v0 v1 f0 f1
  go_region_held3 (fun w' => w'.cell? ⟨g, 0, none⟩ = some (.iface 36 (.int .u32 (beVal c 0))) ∧ w'.heap[gx]? = some (.cells #[] 103 (0, 0))) (first | with_reducible exact ⟨cell_dr c6, qd⟩ | with_reducible exact ⟨cell_al (cell_dr c6) _, blk_alloc qd _⟩ | with_reducible exact ⟨cell_dr (cell_al c6 _), blk_drew (blk_alloc qx _)⟩ | with_reducible exact ⟨cell_up' c6 B7, blk_below qx B7⟩)
    ((go_at_call 69; (with_reducible refine (printf_any _ _ _).mono ?_); rintro e w7 ⟨rfl, hb7⟩; have B7 : Below w6.heap.size w6 w7 := below_step ((below_drew (Below.refl w6.heap.size w6)).alloc (Nat.le_refl _) _) hb7))
  go_wp2
  go_ret
  exact ⟨rfl, blk_below q B7, keptG_below qk B7⟩
set_option maxRecDepth 100000 in
set_option maxHeartbeats 4000000 in
theorem dec_c64 (c : List Int) (hc : IsB c) (c1 : 1 ≤ c.length) (h9 : c.length ≤ 8 ∨ (c.length = 9 ∧ rd c 0 = 0)) (hv : beVal c 0 < 18446744073709551616) (A : Option Addr) (cc : Nat) (xs : List Int) (L : Nat) (A' : Option Addr) (c' : Nat) (g : Nat) (hE : Elem 70 c xs L A cc A' c') (hx : xs.length ≤ 100000) (hL : L = xs.length) (w : World) (hr : Kd.C (Kd.int .u8) w A xs.length xs)
    (gx : Nat) (hgx : w.heap[gx]? = some (.cells #[] 103 (0, 0))) (hg : w.heap[g]? = some (vbO .nilIface 0)) (hA : ∀ ad, A = some ad → ad.block ≠ g) :
    Calls Tryd.prog 49 #[.pointer (some ⟨gx, 0, none⟩), .slice A xs.length cc, .pointer (some ⟨g, 0, none⟩)] w fun e w' => e = .returned .nilIface ∧ Decoded w w' g (.iface 22 (.int .u64 (beVal c 0))) 70 := by
  subst hL
  have HC := Lib.hid (And.intro hc h9)
  clear hc h9
  have two := hE.two
  have hcl := hE.clen
  have hcut := hE.cut
  obtain ⟨ad, rfl, k0⟩ := hE.head w hr
  have k0 : w.cell? ad = some (.int .u8 70) := k0
  have HE := Lib.hid (And.intro hE (And.intro hr (And.intro hg (hA ad rfl))))
  have hpart := fun W => part_zero W gx
  have hpos : (0 : Int) < xs.length := by omega
  have hposn : 0 < xs.length := by omega
  have hgd : w.drew.heap[gx]? = some (.cells #[] 103 (0, 0)) := hgx
  have BD : Below w.heap.size w w.drew := below_drew (Below.refl _ _)
  clear hE hr hA
  go_enter Tryd.func49, Tryd.ntmps49
  go_wp2_with fail
  refine (print_any _ _).mono ?_
  rintro e w2 ⟨rfl, hb2⟩
  have B2 : Below w.heap.size w w2 := below_step ((Below.refl w.heap.size w).alloc (Nat.le_refl _) _) hb2
  have hr2 := Kd.C_below HE.out.2.1 B2
  have hg2 := blk_below HE.out.2.2.1 B2
  have H2 := Lib.hid (And.intro B2 (And.intro hr2 hg2))
  have k2 := cell_up' k0 B2
  have k3 := blk_below hgx B2
  have v0 : w2.cell? ⟨g, 0, none⟩ = some .nilIface := (blk_cell hg2 0).trans rfl
  have v1 : w2.cell? ⟨g, 1, none⟩ = some (.int .u8 0) := (blk_cell hg2 1).trans rfl
  have f0 := blk_frozen hg2 0
  have f1 := blk_frozen hg2 1
  have ne1 : ad.block ≠ g := HE.out.2.2.2
  have ne2 : g ≠ ad.block := Ne.symm ne1
  have L0 : (0 : Int) ≤ (xs.length : Int) - c.length := by omega
  have L1 : (xs.length : Int) - c.length ≤ xs.length := by omega
  clear hr2 hg2 B2 hb2 BD hgd k0 hgx
  go_wp2_with fail
  refine (HE.out.1.parse _ H2.out.2.1).mono ?_
  rintro e w3 ⟨rfl, rfl⟩
  go_wp2_with fail
  refine (parseUint64_any A' c' c _ (HE.out.1.reads _ H2.out.2.1) HC.out.1 c1 HC.out.2 hv).mono ?_
  rintro e w2 ⟨rfl, rfl⟩
  have hb4 := Below.refl w2.heap.size w2
  have B4 := below_step H2.out.1 hb4
  have hg4 := blk_below H2.out.2.2 hb4
  have k4 := cell_up' k2 hb4
  have k5 := blk_below k3 hb4
  have HF := Lib.hid (And.intro B4 hg4)
  clear v0 v1 f0 f1 k2 k3 H2
  have v0 : w2.cell? ⟨g, 0, none⟩ = some .nilIface := (blk_cell hg4 0).trans rfl
  have v1 : w2.cell? ⟨g, 1, none⟩ = some (.int .u8 0) := (blk_cell hg4 1).trans rfl
  have f0 := blk_frozen hg4 0
  have f1 := blk_frozen hg4 1
  clear hg4 B4 hb4
  go_wp2_with fail
  have q := blk_put (cs' := #[(.iface 22 (.int .u64 (beVal c 0))), .int .u8 70]) (blk_put (cs' := #[.nilIface, .int .u8 70]) HF.out.2 1 (.int .u8 70) rfl) 0 (.iface 22 (.int .u64 (beVal c 0))) rfl
  have qk : KeptG w ((w2.setCell ⟨g, 1, none⟩ (.int .u8 70)).setCell ⟨g, 0, none⟩ (.iface 22 (.int .u64 (beVal c 0)))) g := kept_two HF.out.1 _ _
  have hne := blk_ne k5 HF.out.2 (by decide)
  have qx := blk_far (p := ⟨g, 0, none⟩) (blk_far (p := ⟨g, 1, none⟩) k5 hne (.int .u8 70)) hne (.iface 22 (.int .u64 (beVal c 0)))
  generalize (w2.setCell ⟨g, 1, none⟩ (.int .u8 70)).setCell ⟨g, 0, none⟩ (.iface 22 (.int .u64 (beVal c 0))) = w6 at q qk qx ⊢
  have c6 : w6.cell? ⟨g, 0, none⟩ = some (.iface 22 (.int .u64 (beVal c 0))) := (blk_cell q 0).trans rfl
  have qd : w6.drew.heap[gx]? = some (.cells #[] 103 (0, 0)) := qx
  clear k4 k5 v0 v1 f0 f1
  go_region_held3 (fun w' => w'.cell? ⟨g, 0, none⟩ = some (.iface 22 (.int .u64 (beVal c 0))) ∧ w'.heap[gx]? = some (.cells #[] 103 (0, 0))) (first | with_reducible exact ⟨cell_dr c6, qd⟩ | with_reducible exact ⟨cell_al (cell_dr c6) _, blk_alloc qd _⟩ | with_reducible exact ⟨cell_dr (cell_al c6 _), blk_drew (blk_alloc qx _)⟩ | with_reducible exact ⟨cell_up' c6 B7, blk_below qx B7⟩)
    ((go_at_call 69; (with_reducible refine (printf_any _ _ _).mono ?_); rintro e w7 ⟨rfl, hb7⟩; have B7 : Below w6.heap.size w6 w7 := below_step ((below_drew (Below.refl w6.heap.size w6)).alloc (Nat.le_refl _) _) hb7))
  go_wp2
  go_ret
  exact ⟨rfl, blk_below q B7, keptG_below qk B7⟩
set_option maxRecDepth 100000 in
set_option maxHeartbeats 4000000 in
theorem dec_addr (a b c d : Int) (z : Addr) (ds : ByteArray) (ha : 0 ≤ a ∧ a ≤ 255) (hb : 0 ≤ b ∧ b ≤ 255) (hc : 0 ≤ c ∧ c ≤ 255) (hd : 0 ≤ d ∧ d ≤ 255) (hds : ds = strOfNums (dots [a, b, c, d])) (A : Option Addr) (cc : Nat) (xs : List Int) (L : Nat) (A' : Option Addr) (c' : Nat) (g : Nat) (hE : Elem 64 [a, b, c, d] xs L A cc A' c') (hx : xs.length ≤ 100000) (hL : L = xs.length) (w : World) (hr : Kd.C (Kd.int .u8) w A xs.length xs)
    (gx : Nat) (hgx : w.heap[gx]? = some (.cells #[] 103 (0, 0))) (hg : w.heap[g]? = some (vbO .nilIface 0)) (hA : ∀ ad, A = some ad → ad.block ≠ g) (hz : ZTab z w) (gz4 : g ≠ 13) (gz0 : g ≠ 9) :
    Calls Tryd.prog 49 #[.pointer (some ⟨gx, 0, none⟩), .slice A xs.length cc, .pointer (some ⟨g, 0, none⟩)] w fun e w' => e = .returned .nilIface ∧ Decoded w w' g (.iface 9 (.string ds)) 64 := by
  subst hL
  have HD := Lib.hid (fun W hz hC => zzAddress_any a b c d z A' c' W ha hb hc hd hz hE.le hC)
  rw [← hds] at HD
  clear hds
  have HZ := Lib.hid hz
  clear hz
  have two := hE.two
  have hcl := hE.clen
  have hcut := hE.cut
  obtain ⟨ad, rfl, k0⟩ := hE.head w hr
  have k0 : w.cell? ad = some (.int .u8 64) := k0
  have HE := Lib.hid (And.intro hE (And.intro hr (And.intro hg (hA ad rfl))))
  have hpart := fun W => part_zero W gx
  have hpos : (0 : Int) < xs.length := by omega
  have hposn : 0 < xs.length := by omega
  have hgd : w.drew.heap[gx]? = some (.cells #[] 103 (0, 0)) := hgx
  have BD : Below w.heap.size w w.drew := below_drew (Below.refl _ _)
  clear hE hr hA
  go_enter Tryd.func49, Tryd.ntmps49
  go_wp2_with fail
  refine (print_any _ _).mono ?_
  rintro e w2 ⟨rfl, hb2⟩
  have B2 : Below w.heap.size w w2 := below_step ((Below.refl w.heap.size w).alloc (Nat.le_refl _) _) hb2
  have hr2 := Kd.C_below HE.out.2.1 B2
  have hg2 := blk_below HE.out.2.2.1 B2
  have H2 := Lib.hid (And.intro B2 (And.intro hr2 hg2))
  have k2 := cell_up' k0 B2
  have k3 := blk_below hgx B2
  have v0 : w2.cell? ⟨g, 0, none⟩ = some .nilIface := (blk_cell hg2 0).trans rfl
  have v1 : w2.cell? ⟨g, 1, none⟩ = some (.int .u8 0) := (blk_cell hg2 1).trans rfl
  have f0 := blk_frozen hg2 0
  have f1 := blk_frozen hg2 1
  have ne1 : ad.block ≠ g := HE.out.2.2.2
  have ne2 : g ≠ ad.block := Ne.symm ne1
  have L0 : (0 : Int) ≤ (xs.length : Int) - [a, b, c, d].length := by omega
  have L1 : (xs.length : Int) - [a, b, c, d].length ≤ xs.length := by omega
  clear hr2 hg2 B2 hb2 BD hgd k0 hgx
  have hcut4 : ∀ W : World, (Instr.slice 26 (.slice (some ad) xs.length cc) (some (.int .i64 ((xs.length : Int) - 4))) (some (.int .i64 xs.length)) none).run Tryd.prog W = .ok (.slice A' 4 c') W := hcut
  clear hcut
  have hne := blk_ne k3 H2.out.2.2 (by decide)
  have k4 := (cell_far (W := w2) (p := ⟨g, 1, none⟩) (a := ad) ne1 (.int .u8 64)).trans k2
  have k5 := blk_far (p := ⟨g, 1, none⟩) k3 hne (.int .u8 64)
  have hr3 := C_set H2.out.2.1 ne1 1 (.int .u8 64)
  have q3 := blk_put (cs' := #[.nilIface, .int .u8 64]) H2.out.2.2 1 (.int .u8 64) rfl
  have qk3 := kept_one (g := g) 1 (keptG_of H2.out.1) (.int .u8 64)
  have z3 : ZTab z (w2.setCell ⟨g, 1, none⟩ (.int .u8 64)) := ⟨(cell_far (p := ⟨g, 1, none⟩) (fun e => gz4 e.symm) _).trans (HZ.out.on H2.out.1).1, (cell_far (p := ⟨g, 1, none⟩) (fun e => gz0 e.symm) _).trans (HZ.out.on H2.out.1).2⟩
  have H3 := Lib.hid (And.intro hr3 (And.intro q3 (And.intro qk3 z3)))
  clear hr3 q3 qk3 z3 k2 k3 H2
  have e4 : (xs.length : Int) - (xs.length - 4) = 4 := by omega
  have e5 : (xs.length : Int) - 4 + 4 = xs.length := by omega
  go_wp2_with fail
  refine (HE.out.1.parse _ H3.out.1).mono ?_
  rintro e w3 ⟨rfl, rfl⟩
  go_wp2_with fail
  refine (HD.out _ H3.out.2.2.2 (HE.out.1.reads _ H3.out.1)).mono ?_
  rintro e w4 ⟨rfl, hb4⟩
  have q4 := blk_below H3.out.2.1 hb4
  have x4 := blk_below k5 hb4
  have HF := Lib.hid (And.intro (keptG_below H3.out.2.2.1 hb4) q4)
  clear v0 v1 f0 f1 k4 k5 H3
  have v0 : w4.cell? ⟨g, 0, none⟩ = some .nilIface := (blk_cell q4 0).trans rfl
  have v1 : w4.cell? ⟨g, 1, none⟩ = some (.int .u8 64) := (blk_cell q4 1).trans rfl
  have f0 := blk_frozen q4 0
  have f1 := blk_frozen q4 1
  have k5 := x4
  clear q4 hb4 x4 hne
  go_wp2_with fail
  have q := blk_put (cs' := #[(.iface 9 (.string ds)), .int .u8 64]) HF.out.2 0 (.iface 9 (.string ds)) rfl
  have qk : KeptG w (w4.setCell ⟨g, 0, none⟩ (.iface 9 (.string ds))) g := kept_one 0 HF.out.1 _
  have hne := blk_ne k5 HF.out.2 (by decide)
  have qx := blk_far (p := ⟨g, 0, none⟩) k5 hne (.iface 9 (.string ds))
  generalize w4.setCell ⟨g, 0, none⟩ (.iface 9 (.string ds)) = w6 at q qk qx ⊢
  have c6 : w6.cell? ⟨g, 0, none⟩ = some (.iface 9 (.string ds)) := (blk_cell q 0).trans rfl
  have qd : w6.drew.heap[gx]? = some (.cells #[] 103 (0, 0)) := qx
  clear k5 v0 v1 f0 f1
  go_region_held3 (fun w' => w'.cell? ⟨g, 0, none⟩ = some (.iface 9 (.string ds)) ∧ w'.heap[gx]? = some (.cells #[] 103 (0, 0))) (first | with_reducible exact ⟨cell_dr c6, qd⟩ | with_reducible exact ⟨cell_al (cell_dr c6) _, blk_alloc qd _⟩ | with_reducible exact ⟨cell_dr (cell_al c6 _), blk_drew (blk_alloc qx _)⟩ | with_reducible exact ⟨cell_up' c6 B7, blk_below qx B7⟩)
    ((go_at_call 69; (with_reducible refine (printf_any _ _ _).mono ?_); rintro e w7 ⟨rfl, hb7⟩; have B7 : Below w6.heap.size w6 w7 := below_step ((below_drew (Below.refl w6.heap.size w6)).alloc (Nat.le_refl _) _) hb7))
  go_wp2
  go_ret
  exact ⟨rfl, blk_below q B7, keptG_below qk B7⟩
end Go.Proofs.YtangjgclpipjdaaDoor
set_option linter.unusedVariables false
namespace Go.Proofs.YtangjgclpipjdaaDoor
open Go.RowKit Go.Proofs.YtangjgclpipjdaaDoorW.PrintWords Go.Proofs.YtangjgclpipjdaaDoorW.PrintLast Go.Proofs.YtangjgclpipjdaaDoorW.PrintMore
/-- The variables of the library and of the package that are read. -/
structure Tabs (z : Addr) (w : World) : Prop where
  pow : PowTab w
  asn : AsnTab w
  z4 : ZTab z w
theorem Tabs.on {z : Addr} {w w' : World} (h : Tabs z w) (hb : Below w.heap.size w w') : Tabs z w' := ⟨h.pow.on hb, h.asn.on hb, h.z4.on hb⟩
theorem C_keptA {W W' : World} {ad : Addr} {n : Nat} {xs : List Int} (h : Kd.C (Kd.int .u8) W (some ad) n xs) {g : Nat} (hne : ad.block ≠ g) (hk : Kept W W' (fun k => k = g)) : Kd.C (Kd.int .u8) W' (some ad) n xs := by
  obtain ⟨h1, h2, h3⟩ := Kd.reads_of_C (enc := Value.int .u8) (d := (0 : Int)) h
  refine Kd.C_of_reads (h1 := fun _ => rfl) (d := (0 : Int)) ⟨h1, h2, fun hn => ?_⟩
  obtain ⟨a, e, hc⟩ := h3 hn
  refine ⟨a, e, fun j hj => ?_⟩
  injection e with e
  subst e
  have hb : (ad.add j).block = ad.block := by unfold Addr.add; split <;> rfl
  exact cell_kept (hc j hj) hk (by rw [hb]; exact hne)
theorem bs_strOfNums (xs : List Int) (h : IsB xs) : bs (strOfNums xs) = xs := by
  unfold bs strOfNums
  simp only [List.map_map]
  refine (List.map_congr_left (g := id) fun x hx => ?_).trans (List.map_id _)
  have := h x hx
  simp only [Function.comp]
  rw [UInt8.toNat_ofNat']
  simp only [id]
  omega
theorem dec_isB (n : Nat) : IsB (dec n) := by
  intro x hx
  obtain ⟨b, -, rfl⟩ := List.mem_map.1 hx
  have := b.toNat_lt
  omega
theorem sDot_isB (arcs : List Int) : IsB (sDot arcs) := by
  intro x hx
  unfold sDot at hx
  obtain ⟨l, hl, hx⟩ := List.mem_flatten.1 hx
  obtain ⟨n, -, rfl⟩ := List.mem_map.1 hl
  rcases List.mem_cons.1 hx with rfl | h
  · omega
  · exact dec_isB _ x h
end Go.Proofs.YtangjgclpipjdaaDoor
