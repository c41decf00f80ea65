-- PRINTED BY print.sh 35421559b90ae4d0a3588c463048766b98c2df88dd9212a6774a882060cdf62d: not written by this session
import Derived.Test.YtangjgclpipjdaaDoorPFnValuex0
namespace Go.Proofs.YtangjgclpipjdaaDoor.PFnValue
open Go.RowKit Go.Proofs.YtangjgclpipjdaaDoorW.PrintWords Go.Proofs.YtangjgclpipjdaaDoorW.PrintLast Go.Proofs.YtangjgclpipjdaaDoorW.PrintMore
attribute [local go_sem] max2_int min2_int max_two min_two max_three min_three max_four min_four   -- for this text's walks alone
set_option linter.unusedVariables false
set_option linter.unusedSimpArgs false

-- NOT PRINTED: function 10 (spec_Value)

-- NOT PRINTED: function 117 (netip_AddrFrom4)

-- NOT PRINTED: function 128 (netip_parseIPv4Fields)

-- NOT PRINTED: function 104 (netip_parseIPv4)

/-! ### byteorder_BEUint64: function 139 -/
def byteorder_BEUint64.f (l0 : List Int) : Option (Int) := if 7 < (l0.length : Int) then (if 6 < (l0.length : Int) then (if 5 < (l0.length : Int) then (if 4 < (l0.length : Int) then (if 3 < (l0.length : Int) then (if 2 < (l0.length : Int) then (if 1 < (l0.length : Int) then (if 0 < (l0.length : Int) then (some (Go.bits .or .u64 (Go.bits .or .u64 (Go.bits .or .u64 (Go.bits .or .u64 (Go.bits .or .u64 (Go.bits .or .u64 (Go.bits .or .u64 (IntKind.u64.wrap (rd l0 7)) (IntKind.u64.wrap ((IntKind.u64.wrap (rd l0 6)) * 256))) (IntKind.u64.wrap ((IntKind.u64.wrap (rd l0 5)) * 65536))) (IntKind.u64.wrap ((IntKind.u64.wrap (rd l0 4)) * 16777216))) (IntKind.u64.wrap ((IntKind.u64.wrap (rd l0 3)) * 4294967296))) (IntKind.u64.wrap ((IntKind.u64.wrap (rd l0 2)) * 1099511627776))) (IntKind.u64.wrap ((IntKind.u64.wrap (rd l0 1)) * 281474976710656))) (IntKind.u64.wrap ((IntKind.u64.wrap (rd l0 0)) * 72057594037927936)))) else (none)) else (none)) else (none)) else (none)) else (none)) else (none)) else (none)) else (none)
set_option maxHeartbeats 8000000 in
set_option maxRecDepth 100000 in
theorem byteorder_BEUint64.calls (A0 : Option Addr) (c0 : Nat) (l0 : List Int) (r : Int) (w : World) (hr0 : Kd.C (Kd.int .u8) w A0 l0.length l0) (hc0 : l0.length ≤ c0) (h : byteorder_BEUint64.f l0 = some r) :
    Calls Tryd.prog 139 #[.slice A0 l0.length c0] w fun e w' => e = .returned (.int .u64 r) ∧ Drawn0 w w' := by
  have HR0 := Aside0.mk hr0
  have HC0 := Aside0.mk hc0
  clear hr0 hc0
  have H : (if 7 < (l0.length : Int) then (if 6 < (l0.length : Int) then (if 5 < (l0.length : Int) then (if 4 < (l0.length : Int) then (if 3 < (l0.length : Int) then (if 2 < (l0.length : Int) then (if 1 < (l0.length : Int) then (if 0 < (l0.length : Int) then (some (Go.bits .or .u64 (Go.bits .or .u64 (Go.bits .or .u64 (Go.bits .or .u64 (Go.bits .or .u64 (Go.bits .or .u64 (Go.bits .or .u64 (IntKind.u64.wrap (rd l0 7)) (IntKind.u64.wrap ((IntKind.u64.wrap (rd l0 6)) * 256))) (IntKind.u64.wrap ((IntKind.u64.wrap (rd l0 5)) * 65536))) (IntKind.u64.wrap ((IntKind.u64.wrap (rd l0 4)) * 16777216))) (IntKind.u64.wrap ((IntKind.u64.wrap (rd l0 3)) * 4294967296))) (IntKind.u64.wrap ((IntKind.u64.wrap (rd l0 2)) * 1099511627776))) (IntKind.u64.wrap ((IntKind.u64.wrap (rd l0 1)) * 281474976710656))) (IntKind.u64.wrap ((IntKind.u64.wrap (rd l0 0)) * 72057594037927936)))) else (none)) else (none)) else (none)) else (none)) else (none)) else (none)) else (none)) else (none)) = some r := h
  clear h
  by_cases c2 : 7 < (l0.length : Int)
  · rw [if_pos c2] at H
    have c2b0 : decide (7 < (l0.length : Int)) = true := decide_eq_true c2
    have c2b1 : decide (7 < l0.length) = true := decide_eq_true (by omega)
    clear c2
    by_cases c3 : 6 < (l0.length : Int)
    · rw [if_pos c3] at H
      have c3b0 : decide (6 < (l0.length : Int)) = true := decide_eq_true c3
      have c3b1 : decide (6 < l0.length) = true := decide_eq_true (by omega)
      clear c3
      by_cases c4 : 5 < (l0.length : Int)
      · rw [if_pos c4] at H
        have c4b0 : decide (5 < (l0.length : Int)) = true := decide_eq_true c4
        have c4b1 : decide (5 < l0.length) = true := decide_eq_true (by omega)
        clear c4
        by_cases c5 : 4 < (l0.length : Int)
        · rw [if_pos c5] at H
          have c5b0 : decide (4 < (l0.length : Int)) = true := decide_eq_true c5
          have c5b1 : decide (4 < l0.length) = true := decide_eq_true (by omega)
          clear c5
          by_cases c6 : 3 < (l0.length : Int)
          · rw [if_pos c6] at H
            have c6b0 : decide (3 < (l0.length : Int)) = true := decide_eq_true c6
            have c6b1 : decide (3 < l0.length) = true := decide_eq_true (by omega)
            clear c6
            by_cases c7 : 2 < (l0.length : Int)
            · rw [if_pos c7] at H
              have c7b0 : decide (2 < (l0.length : Int)) = true := decide_eq_true c7
              have c7b1 : decide (2 < l0.length) = true := decide_eq_true (by omega)
              clear c7
              by_cases c8 : 1 < (l0.length : Int)
              · rw [if_pos c8] at H
                have c8b0 : decide (1 < (l0.length : Int)) = true := decide_eq_true c8
                have c8b1 : decide (1 < l0.length) = true := decide_eq_true (by omega)
                clear c8
                by_cases c9 : 0 < (l0.length : Int)
                · rw [if_pos c9] at H
                  have c9b0 : decide (0 < (l0.length : Int)) = true := decide_eq_true c9
                  have c9b1 : decide (0 < l0.length) = true := decide_eq_true (by omega)
                  clear c9
                  obtain rfl := Option.some.inj H
                  have p233 : 0 ≤ (7 : Int) := (by omega)
                  have q233 : 7 < (l0.length : Int) := of_decide_eq_true (by first | (with_reducible assumption) | assumption)
                  obtain ⟨ad233, e233, hx233_0⟩ := Kd.at_int HR0.out 7 p233 q233
                  cases e233
                  (try simp only [show (7 : Int).toNat = 7 from rfl, Nat.reduceMul, Nat.reduceEqDiff, Go.Addr.add, ↓reduceIte] at hx233_0)
                  have qi233 : (7 < l0.length) = True := eq_true (by omega)
                  (try rw [show ((7 : Int)).toNat = 7 from rfl] at hx233_0)
                  replace p233 := eq_true p233
                  replace q233 := eq_true q233
                  have p234 : 0 ≤ (7 : Int) := (by omega)
                  have q234 : 7 < (l0.length : Int) := of_decide_eq_true (by first | (with_reducible assumption) | assumption)
                  obtain ⟨ad234, e234, hx234_0⟩ := Kd.at_int HR0.out 7 p234 q234
                  obtain rfl : ad233 = ad234 := (by injection e234)
                  (try simp only [show (7 : Int).toNat = 7 from rfl, Nat.reduceMul, Nat.reduceEqDiff, Go.Addr.add, ↓reduceIte] at hx234_0)
                  have qi234 : (7 < l0.length) = True := eq_true (by omega)
                  (try rw [show ((7 : Int)).toNat = 7 from rfl] at hx234_0)
                  replace p234 := eq_true p234
                  replace q234 := eq_true q234
                  have p235 : 0 ≤ (6 : Int) := (by omega)
                  have q235 : 6 < (l0.length : Int) := of_decide_eq_true (by first | (with_reducible assumption) | assumption)
                  obtain ⟨ad235, e235, hx235_0⟩ := Kd.at_int HR0.out 6 p235 q235
                  obtain rfl : ad233 = ad235 := (by injection e235)
                  (try simp only [show (6 : Int).toNat = 6 from rfl, Nat.reduceMul, Nat.reduceEqDiff, Go.Addr.add, ↓reduceIte] at hx235_0)
                  have qi235 : (6 < l0.length) = True := eq_true (by omega)
                  (try rw [show ((6 : Int)).toNat = 6 from rfl] at hx235_0)
                  replace p235 := eq_true p235
                  replace q235 := eq_true q235
                  have p236 : 0 ≤ (5 : Int) := (by omega)
                  have q236 : 5 < (l0.length : Int) := of_decide_eq_true (by first | (with_reducible assumption) | assumption)
                  obtain ⟨ad236, e236, hx236_0⟩ := Kd.at_int HR0.out 5 p236 q236
                  obtain rfl : ad233 = ad236 := (by injection e236)
                  (try simp only [show (5 : Int).toNat = 5 from rfl, Nat.reduceMul, Nat.reduceEqDiff, Go.Addr.add, ↓reduceIte] at hx236_0)
                  have qi236 : (5 < l0.length) = True := eq_true (by omega)
                  (try rw [show ((5 : Int)).toNat = 5 from rfl] at hx236_0)
                  replace p236 := eq_true p236
                  replace q236 := eq_true q236
                  have p237 : 0 ≤ (4 : Int) := (by omega)
                  have q237 : 4 < (l0.length : Int) := of_decide_eq_true (by first | (with_reducible assumption) | assumption)
                  obtain ⟨ad237, e237, hx237_0⟩ := Kd.at_int HR0.out 4 p237 q237
                  obtain rfl : ad233 = ad237 := (by injection e237)
                  (try simp only [show (4 : Int).toNat = 4 from rfl, Nat.reduceMul, Nat.reduceEqDiff, Go.Addr.add, ↓reduceIte] at hx237_0)
                  have qi237 : (4 < l0.length) = True := eq_true (by omega)
                  (try rw [show ((4 : Int)).toNat = 4 from rfl] at hx237_0)
                  replace p237 := eq_true p237
                  replace q237 := eq_true q237
                  have p238 : 0 ≤ (3 : Int) := (by omega)
                  have q238 : 3 < (l0.length : Int) := of_decide_eq_true (by first | (with_reducible assumption) | assumption)
                  obtain ⟨ad238, e238, hx238_0⟩ := Kd.at_int HR0.out 3 p238 q238
                  obtain rfl : ad233 = ad238 := (by injection e238)
                  (try simp only [show (3 : Int).toNat = 3 from rfl, Nat.reduceMul, Nat.reduceEqDiff, Go.Addr.add, ↓reduceIte] at hx238_0)
                  have qi238 : (3 < l0.length) = True := eq_true (by omega)
                  (try rw [show ((3 : Int)).toNat = 3 from rfl] at hx238_0)
                  replace p238 := eq_true p238
                  replace q238 := eq_true q238
                  have p239 : 0 ≤ (2 : Int) := (by omega)
                  have q239 : 2 < (l0.length : Int) := of_decide_eq_true (by first | (with_reducible assumption) | assumption)
                  obtain ⟨ad239, e239, hx239_0⟩ := Kd.at_int HR0.out 2 p239 q239
                  obtain rfl : ad233 = ad239 := (by injection e239)
                  (try simp only [show (2 : Int).toNat = 2 from rfl, Nat.reduceMul, Nat.reduceEqDiff, Go.Addr.add, ↓reduceIte] at hx239_0)
                  have qi239 : (2 < l0.length) = True := eq_true (by omega)
                  (try rw [show ((2 : Int)).toNat = 2 from rfl] at hx239_0)
                  replace p239 := eq_true p239
                  replace q239 := eq_true q239
                  have p240 : 0 ≤ (1 : Int) := (by omega)
                  have q240 : 1 < (l0.length : Int) := of_decide_eq_true (by first | (with_reducible assumption) | assumption)
                  obtain ⟨ad240, e240, hx240_0⟩ := Kd.at_int HR0.out 1 p240 q240
                  obtain rfl : ad233 = ad240 := (by injection e240)
                  (try simp only [show (1 : Int).toNat = 1 from rfl, Nat.reduceMul, Nat.reduceEqDiff, Go.Addr.add, ↓reduceIte] at hx240_0)
                  have qi240 : (1 < l0.length) = True := eq_true (by omega)
                  (try rw [show ((1 : Int)).toNat = 1 from rfl] at hx240_0)
                  replace p240 := eq_true p240
                  replace q240 := eq_true q240
                  have p241 : 0 ≤ (0 : Int) := (by omega)
                  have q241 : 0 < (l0.length : Int) := of_decide_eq_true (by first | (with_reducible assumption) | assumption)
                  obtain ⟨ad241, e241, hx241_0⟩ := Kd.at_int HR0.out 0 p241 q241
                  obtain rfl : ad233 = ad241 := (by injection e241)
                  have qi241 : (0 < l0.length) = True := eq_true (by omega)
                  (try rw [show ((0 : Int)).toNat = 0 from rfl] at hx241_0)
                  (try rw [Addr.add_zero'] at hx241_0)
                  replace p241 := eq_true p241
                  replace q241 := eq_true q241
                  go_enter Tryd.func139, Tryd.ntmps139
                  go_wp2
                  repeat (go_quiet (fail); try go_wp2)
                  go_ret
                  exact ⟨by first | rfl | (simp; done) | (simp [*]; done), by repeat (first | exact Drawn0.refl _ | apply Drawn0.step)⟩
                · rw [if_neg c9] at H
                  exact absurd H (by simp)
              · rw [if_neg c8] at H
                exact absurd H (by simp)
            · rw [if_neg c7] at H
              exact absurd H (by simp)
          · rw [if_neg c6] at H
            exact absurd H (by simp)
        · rw [if_neg c5] at H
          exact absurd H (by simp)
      · rw [if_neg c4] at H
        exact absurd H (by simp)
    · rw [if_neg c3] at H
      exact absurd H (by simp)
  · rw [if_neg c2] at H
    exact absurd H (by simp)

-- NOT PRINTED: function 118 (netip_AddrFrom16)

-- NOT PRINTED: function 129 (bytealg_IndexByteString)

-- NOT PRINTED: function 130 (netip_IPv6Unspecified)

-- NOT PRINTED: function 140 (netip_Addr_Is6)

-- NOT PRINTED: function 145 (netip_addrDetail)

-- NOT PRINTED: function 131 (netip_Addr_WithZone)

-- NOT PRINTED: function 105 (netip_parseIPv6)

-- NOT PRINTED: function 80 (netip_ParseAddr)

-- NOT PRINTED: function 106 (netip_addrDetail_Value)

-- NOT PRINTED: function 81 (netip_Addr_Zone)

/-! ### byteorder_BEPutUint64: function 107 -/
def byteorder_BEPutUint64.f (l0 : List Int) (a1 : Int) : Option (List Int) := if 7 < (l0.length : Int) then (if 0 < (l0.length : Int) then (if 1 < (l0.length : Int) then (if 2 < (l0.length : Int) then (if 3 < (l0.length : Int) then (if 4 < (l0.length : Int) then (if 5 < (l0.length : Int) then (if 6 < (l0.length : Int) then (some ((((((((l0.set (0 : Int).toNat ((a1 / 72057594037927936) % 256)).set (1 : Int).toNat ((a1 / 281474976710656) % 256)).set (2 : Int).toNat ((a1 / 1099511627776) % 256)).set (3 : Int).toNat ((a1 / 4294967296) % 256)).set (4 : Int).toNat ((a1 / 16777216) % 256)).set (5 : Int).toNat ((a1 / 65536) % 256)).set (6 : Int).toNat ((a1 / 256) % 256)).set (7 : Int).toNat ((a1) % 256))) else (none)) else (none)) else (none)) else (none)) else (none)) else (none)) else (none)) else (none)
set_option maxHeartbeats 8000000 in
set_option maxRecDepth 100000 in
theorem byteorder_BEPutUint64.calls (P0_ : Nat → Prop) (u9000_ : Value) (l0 : List Int) (a1 : Int) (r : List Int) (w0 w : World) (hB : Below w0.heap.size w0 w) (ho0 : Kd.R (Kd.int .u8) 5 w w0.heap.size P0_ u9000_ l0) (h : byteorder_BEPutUint64.f l0 a1 = some r) :
    Calls Tryd.prog 107 #[u9000_, .int .u64 a1] w fun e w' => e = .returned (.tuple #[]) ∧ Kd.R (Kd.int .u8) 5 w' w0.heap.size (fun k_ => (P0_ k_ ∨ w.heap.size ≤ k_)) u9000_ r ∧ Below w0.heap.size w0 w' ∧ Kept w w' (fun k_ => P0_ k_) := by
  have HO0 := Aside0.mk (show Kd.R (Kd.int .u8) 5 w w0.heap.size (fun k_ => (P0_ k_ ∨ w.heap.size ≤ k_)) u9000_ l0 from Kd.R_mono ho0 (fun k_ hk => (.inl hk)))
  have HK := Aside0.mk (Kept.refl w (fun k_ => P0_ k_))
  have HW0 := Aside0.mk hB.size
  have HB := Aside0.mk hB
  clear hB
  have H : (if 7 < (l0.length : Int) then (if 0 < (l0.length : Int) then (if 1 < (l0.length : Int) then (if 2 < (l0.length : Int) then (if 3 < (l0.length : Int) then (if 4 < (l0.length : Int) then (if 5 < (l0.length : Int) then (if 6 < (l0.length : Int) then (some ((((((((l0.set (0 : Int).toNat ((a1 / 72057594037927936) % 256)).set (1 : Int).toNat ((a1 / 281474976710656) % 256)).set (2 : Int).toNat ((a1 / 1099511627776) % 256)).set (3 : Int).toNat ((a1 / 4294967296) % 256)).set (4 : Int).toNat ((a1 / 16777216) % 256)).set (5 : Int).toNat ((a1 / 65536) % 256)).set (6 : Int).toNat ((a1 / 256) % 256)).set (7 : Int).toNat ((a1) % 256))) else (none)) else (none)) else (none)) else (none)) else (none)) else (none)) else (none)) else (none)) = some r := h
  clear h
  by_cases c3 : 7 < (l0.length : Int)
  · rw [if_pos c3] at H
    have c3b0 : decide (7 < (l0.length : Int)) = true := decide_eq_true c3
    have c3b1 : decide (7 < l0.length) = true := decide_eq_true (by omega)
    clear c3
    by_cases c4 : 0 < (l0.length : Int)
    · rw [if_pos c4] at H
      have c4b0 : decide (0 < (l0.length : Int)) = true := decide_eq_true c4
      have c4b1 : decide (0 < l0.length) = true := decide_eq_true (by omega)
      clear c4
      obtain ⟨y243, hy243⟩ : ∃ y_ : List Int, y_ = (l0.set (0 : Int).toNat ((a1 / 72057594037927936) % 256)) := ⟨_, rfl⟩
      replace H : (if 1 < (l0.length : Int) then (if 2 < (l0.length : Int) then (if 3 < (l0.length : Int) then (if 4 < (l0.length : Int) then (if 5 < (l0.length : Int) then (if 6 < (l0.length : Int) then (some (((((((y243.set (1 : Int).toNat ((a1 / 281474976710656) % 256)).set (2 : Int).toNat ((a1 / 1099511627776) % 256)).set (3 : Int).toNat ((a1 / 4294967296) % 256)).set (4 : Int).toNat ((a1 / 16777216) % 256)).set (5 : Int).toNat ((a1 / 65536) % 256)).set (6 : Int).toNat ((a1 / 256) % 256)).set (7 : Int).toNat ((a1) % 256))) else (none)) else (none)) else (none)) else (none)) else (none)) else (none)) = some r := by first | (rw [hy243]; with_reducible exact H) | (have H2_ := (Option.bind_some _ _).symm.trans H; rw [hy243]; with_reducible exact H2_) | (have H2_ := (Option.bind_some _ _).symm.trans H; with_reducible exact H2_) | with_reducible exact H | (rw [hy243]; exact H) | exact H
      have Ny243 := Aside0.mk hy243
      clear hy243
      by_cases c6 : 1 < (l0.length : Int)
      · rw [if_pos c6] at H
        have c6b0 : decide (1 < (l0.length : Int)) = true := decide_eq_true c6
        have c6b1 : decide (1 < l0.length) = true := decide_eq_true (by omega)
        clear c6
        obtain ⟨y244, hy244⟩ : ∃ y_ : List Int, y_ = (y243.set (1 : Int).toNat ((a1 / 281474976710656) % 256)) := ⟨_, rfl⟩
        replace H : (if 2 < (l0.length : Int) then (if 3 < (l0.length : Int) then (if 4 < (l0.length : Int) then (if 5 < (l0.length : Int) then (if 6 < (l0.length : Int) then (some ((((((y244.set (2 : Int).toNat ((a1 / 1099511627776) % 256)).set (3 : Int).toNat ((a1 / 4294967296) % 256)).set (4 : Int).toNat ((a1 / 16777216) % 256)).set (5 : Int).toNat ((a1 / 65536) % 256)).set (6 : Int).toNat ((a1 / 256) % 256)).set (7 : Int).toNat ((a1) % 256))) else (none)) else (none)) else (none)) else (none)) else (none)) = some r := by first | (rw [hy244]; with_reducible exact H) | (have H2_ := (Option.bind_some _ _).symm.trans H; rw [hy244]; with_reducible exact H2_) | (have H2_ := (Option.bind_some _ _).symm.trans H; with_reducible exact H2_) | with_reducible exact H | (rw [hy244]; exact H) | exact H
        have Ny244 := Aside0.mk hy244
        clear hy244
        by_cases c8 : 2 < (l0.length : Int)
        · rw [if_pos c8] at H
          have c8b0 : decide (2 < (l0.length : Int)) = true := decide_eq_true c8
          have c8b1 : decide (2 < l0.length) = true := decide_eq_true (by omega)
          clear c8
          obtain ⟨y245, hy245⟩ : ∃ y_ : List Int, y_ = (y244.set (2 : Int).toNat ((a1 / 1099511627776) % 256)) := ⟨_, rfl⟩
          replace H : (if 3 < (l0.length : Int) then (if 4 < (l0.length : Int) then (if 5 < (l0.length : Int) then (if 6 < (l0.length : Int) then (some (((((y245.set (3 : Int).toNat ((a1 / 4294967296) % 256)).set (4 : Int).toNat ((a1 / 16777216) % 256)).set (5 : Int).toNat ((a1 / 65536) % 256)).set (6 : Int).toNat ((a1 / 256) % 256)).set (7 : Int).toNat ((a1) % 256))) else (none)) else (none)) else (none)) else (none)) = some r := by first | (rw [hy245]; with_reducible exact H) | (have H2_ := (Option.bind_some _ _).symm.trans H; rw [hy245]; with_reducible exact H2_) | (have H2_ := (Option.bind_some _ _).symm.trans H; with_reducible exact H2_) | with_reducible exact H | (rw [hy245]; exact H) | exact H
          have Ny245 := Aside0.mk hy245
          clear hy245
          by_cases c10 : 3 < (l0.length : Int)
          · rw [if_pos c10] at H
            have c10b0 : decide (3 < (l0.length : Int)) = true := decide_eq_true c10
            have c10b1 : decide (3 < l0.length) = true := decide_eq_true (by omega)
            clear c10
            obtain ⟨y246, hy246⟩ : ∃ y_ : List Int, y_ = (y245.set (3 : Int).toNat ((a1 / 4294967296) % 256)) := ⟨_, rfl⟩
            replace H : (if 4 < (l0.length : Int) then (if 5 < (l0.length : Int) then (if 6 < (l0.length : Int) then (some ((((y246.set (4 : Int).toNat ((a1 / 16777216) % 256)).set (5 : Int).toNat ((a1 / 65536) % 256)).set (6 : Int).toNat ((a1 / 256) % 256)).set (7 : Int).toNat ((a1) % 256))) else (none)) else (none)) else (none)) = some r := by first | (rw [hy246]; with_reducible exact H) | (have H2_ := (Option.bind_some _ _).symm.trans H; rw [hy246]; with_reducible exact H2_) | (have H2_ := (Option.bind_some _ _).symm.trans H; with_reducible exact H2_) | with_reducible exact H | (rw [hy246]; exact H) | exact H
            have Ny246 := Aside0.mk hy246
            clear hy246
            by_cases c12 : 4 < (l0.length : Int)
            · rw [if_pos c12] at H
              have c12b0 : decide (4 < (l0.length : Int)) = true := decide_eq_true c12
              have c12b1 : decide (4 < l0.length) = true := decide_eq_true (by omega)
              clear c12
              obtain ⟨y247, hy247⟩ : ∃ y_ : List Int, y_ = (y246.set (4 : Int).toNat ((a1 / 16777216) % 256)) := ⟨_, rfl⟩
              replace H : (if 5 < (l0.length : Int) then (if 6 < (l0.length : Int) then (some (((y247.set (5 : Int).toNat ((a1 / 65536) % 256)).set (6 : Int).toNat ((a1 / 256) % 256)).set (7 : Int).toNat ((a1) % 256))) else (none)) else (none)) = some r := by first | (rw [hy247]; with_reducible exact H) | (have H2_ := (Option.bind_some _ _).symm.trans H; rw [hy247]; with_reducible exact H2_) | (have H2_ := (Option.bind_some _ _).symm.trans H; with_reducible exact H2_) | with_reducible exact H | (rw [hy247]; exact H) | exact H
              have Ny247 := Aside0.mk hy247
              clear hy247
              by_cases c14 : 5 < (l0.length : Int)
              · rw [if_pos c14] at H
                have c14b0 : decide (5 < (l0.length : Int)) = true := decide_eq_true c14
                have c14b1 : decide (5 < l0.length) = true := decide_eq_true (by omega)
                clear c14
                obtain ⟨y248, hy248⟩ : ∃ y_ : List Int, y_ = (y247.set (5 : Int).toNat ((a1 / 65536) % 256)) := ⟨_, rfl⟩
                replace H : (if 6 < (l0.length : Int) then (some ((y248.set (6 : Int).toNat ((a1 / 256) % 256)).set (7 : Int).toNat ((a1) % 256))) else (none)) = some r := by first | (rw [hy248]; with_reducible exact H) | (have H2_ := (Option.bind_some _ _).symm.trans H; rw [hy248]; with_reducible exact H2_) | (have H2_ := (Option.bind_some _ _).symm.trans H; with_reducible exact H2_) | with_reducible exact H | (rw [hy248]; exact H) | exact H
                have Ny248 := Aside0.mk hy248
                clear hy248
                by_cases c16 : 6 < (l0.length : Int)
                · rw [if_pos c16] at H
                  have c16b0 : decide (6 < (l0.length : Int)) = true := decide_eq_true c16
                  have c16b1 : decide (6 < l0.length) = true := decide_eq_true (by omega)
                  clear c16
                  obtain ⟨y249, hy249⟩ : ∃ y_ : List Int, y_ = (y248.set (6 : Int).toNat ((a1 / 256) % 256)) := ⟨_, rfl⟩
                  replace H : (some (y249.set (7 : Int).toNat ((a1) % 256))) = some r := by first | (rw [hy249]; with_reducible exact H) | (have H2_ := (Option.bind_some _ _).symm.trans H; rw [hy249]; with_reducible exact H2_) | (have H2_ := (Option.bind_some _ _).symm.trans H; with_reducible exact H2_) | with_reducible exact H | (rw [hy249]; exact H) | exact H
                  have Ny249 := Aside0.mk hy249
                  clear hy249
                  obtain ⟨y250, hy250⟩ : ∃ y_ : List Int, y_ = (y249.set (7 : Int).toNat ((a1) % 256)) := ⟨_, rfl⟩
                  replace H : (some y250) = some r := by first | (rw [hy250]; with_reducible exact H) | (have H2_ := (Option.bind_some _ _).symm.trans H; rw [hy250]; with_reducible exact H2_) | (have H2_ := (Option.bind_some _ _).symm.trans H; with_reducible exact H2_) | with_reducible exact H | (rw [hy250]; exact H) | exact H
                  have Ny250 := Aside0.mk hy250
                  clear hy250
                  obtain rfl := Option.some.inj H
                  obtain ⟨Ao19, co19, eo19⟩ := Kd.R_slice HO0.out
                  subst eo19
                  have p242 : 0 ≤ (7 : Int) := (by omega)
                  have q242 : 7 < (l0.length : Int) := of_decide_eq_true (by first | (with_reducible assumption) | assumption)
                  obtain ⟨ad242, e242, hx242_0⟩ := Kd.at_int (Kd.R_reads' HO0.out).2.2 7 p242 q242
                  cases e242
                  (try simp only [show (7 : Int).toNat = 7 from rfl, Nat.reduceMul, Nat.reduceEqDiff, Go.Addr.add, ↓reduceIte] at hx242_0)
                  have qi242 : (7 < l0.length) = True := eq_true (by omega)
                  (try rw [show ((7 : Int)).toNat = 7 from rfl] at hx242_0)
                  replace p242 := eq_true p242
                  replace q242 := eq_true q242
                  have p5 : 0 ≤ (0 : Int) := (by omega)
                  have q5 : (0 : Int) < ((l0.length : Int) : Int) := of_decide_eq_true (by first | (with_reducible assumption) | assumption)
                  have qi5 : (0 < l0.length) = True := eq_true (by omega)
                  obtain ⟨go5, co5, eo5, gb5, gl5, cl5, HG5⟩ := Kd.R_form HO0.out (by omega)
                  (first | cases eo5 | (injection eo5 with ea_ en_ ec_; (first | subst ea_ | (injection ea_ with ea_; subst ea_)); subst ec_; clear en_))
                  have GB5 := Aside0.mk gb5
                  have GG5 := Aside0.mk HG5
                  clear gb5 gl5 HG5
                  have HMgo5 := Aside0.mk (show (P0_ go5 ∨ w.heap.size ≤ go5) from (HO0.out.1 _ rfl))
                  (first | simp only [add_plain] at hx242_0 | skip)
                  obtain ⟨hx5_0, hf5_0⟩ := Kd.R_celln 0 HO0.out (0 : Int) p5 q5
                  (try rw [show ((0 : Int)).toNat = 0 from rfl] at hx5_0)
                  (try simp only [Nat.reduceMul, Nat.zero_mul, Nat.zero_add, Nat.reduceAdd] at hx5_0)
                  (try rw [show ((0 : Int)).toNat = 0 from rfl] at hf5_0)
                  (try simp only [Nat.reduceMul, Nat.zero_mul, Nat.zero_add, Nat.reduceAdd] at hf5_0)
                  replace p5 := eq_true p5
                  replace q5 := eq_true q5
                  have HP20 := Kd.R_putg HO0.out (0 : Int) ((a1 / 72057594037927936) % 256)
                  go_enter Tryd.func107, Tryd.ntmps107
                  go_wp2_with (first | ((with_reducible refine gate_store (t := 5) (p := 11) rfl ?_); refine store_event (t := 5) (p := 11) (v := ?vo_w21) (w1 := (w.setCell ⟨go5, (0 : Int).toNat, none⟩ (.int .u8 ((a1 / 72057594037927936) % 256)))) ?hg ?ho ?hn ?hr ?_; (case ho => rfl); (case hg => rfl); (case hn => rfl); (case hr => first | (go_simp; done) | (go_simp; rfl)); intro w21 hw; have hg : w.grownBy w21 (some go5) := (by rw [hw]; exact HP20.2); have hp_ : Kd.R (Kd.int .u8) 5 w21 w0.heap.size (fun k_ => (P0_ k_ ∨ w.heap.size ≤ k_)) (.slice (some ⟨go5, 0, none⟩) l0.length co19) y243 := (by rw [hw, Ny243.out]; exact HP20.1); clear HP20; have n0_ := Aside0.mk (hp_); have n1_ := Aside0.mk ((by rw [hw]; exact below_set (HB.out) GB5.out : Below w0.heap.size w0 w21)); have n2_ := Aside0.mk (Kept.of_grown (S := (fun k_ => P0_ k_)) hg (by repeat (first | (with_reducible first | exact HK.out | apply Kept.alloc | apply Kept.drewN | apply Kept.drew) | exact HK.out)) (fun k_ e_ => (HO0.out.1 k_ e_))); clear HO0; clear HB; clear HK; have HO0 := n0_; have HB := n1_; have HK := n2_; clear n0_ n1_ n2_; clear hg hw hp_; have p7 : 0 ≤ (1 : Int) := (by omega); have q7 : (1 : Int) < ((l0.length : Int) : Int) := of_decide_eq_true (by first | (with_reducible assumption) | assumption); have qi7 : (1 < l0.length) = True := eq_true (by omega); obtain ⟨hx7_0, hf7_0⟩ := Kd.R_celln 0 HO0.out (1 : Int) p7 q7; (try rw [show ((1 : Int)).toNat = 1 from rfl] at hx7_0); (try simp only [Nat.reduceMul, Nat.zero_mul, Nat.zero_add, Nat.reduceAdd] at hx7_0); (try rw [show ((1 : Int)).toNat = 1 from rfl] at hf7_0); (try simp only [Nat.reduceMul, Nat.zero_mul, Nat.zero_add, Nat.reduceAdd] at hf7_0); replace p7 := eq_true p7; replace q7 := eq_true q7; obtain ⟨hy22_, hz22_⟩ := Kd.R_celln 0 HO0.out (1 : Int) (by omega) (of_decide_eq_true (by first | (with_reducible assumption) | assumption)); (try simp only [Int.reduceToNat, Int.toNat_zero, Int.toNat_ofNat, Nat.reduceMul, Nat.zero_mul, Nat.zero_add] at hy22_ hz22_); (try rw [show ((1 : Int)).toNat = 1 from rfl] at hy22_); (try rw [show ((1 : Int)).toNat = 1 from rfl] at hz22_); have HP22 := Kd.R_putg HO0.out (1 : Int) ((a1 / 281474976710656) % 256)) | ((with_reducible refine gate_store (t := 5) (p := 16) rfl ?_); refine store_event (t := 5) (p := 16) (v := ?vo_w23) (w1 := (w21.setCell ⟨go5, (1 : Int).toNat, none⟩ (.int .u8 ((a1 / 281474976710656) % 256)))) ?hg ?ho ?hn ?hr ?_; (case ho => rfl); (case hg => rfl); (case hn => rfl); (case hr => first | (go_simp; done) | (go_simp; rfl)); intro w23 hw; have hg : w21.grownBy w23 (some go5) := (by rw [hw]; exact HP22.2); have hp_ : Kd.R (Kd.int .u8) 5 w23 w0.heap.size (fun k_ => (P0_ k_ ∨ w.heap.size ≤ k_)) (.slice (some ⟨go5, 0, none⟩) l0.length co19) y244 := (by rw [hw, Ny244.out]; exact HP22.1); clear HP22; have n0_ := Aside0.mk (hp_); have n1_ := Aside0.mk ((by rw [hw]; exact below_set (HB.out) GB5.out : Below w0.heap.size w0 w23)); have n2_ := Aside0.mk (Kept.of_grown (S := (fun k_ => P0_ k_)) hg (by repeat (first | (with_reducible first | exact HK.out | apply Kept.alloc | apply Kept.drewN | apply Kept.drew) | exact HK.out)) (fun k_ e_ => (HO0.out.1 k_ e_))); clear HO0; clear HB; clear HK; have HO0 := n0_; have HB := n1_; have HK := n2_; clear n0_ n1_ n2_; clear hg hw hp_; have p9 : 0 ≤ (2 : Int) := (by omega); have q9 : (2 : Int) < ((l0.length : Int) : Int) := of_decide_eq_true (by first | (with_reducible assumption) | assumption); have qi9 : (2 < l0.length) = True := eq_true (by omega); obtain ⟨hx9_0, hf9_0⟩ := Kd.R_celln 0 HO0.out (2 : Int) p9 q9; (try rw [show ((2 : Int)).toNat = 2 from rfl] at hx9_0); (try simp only [Nat.reduceMul, Nat.zero_mul, Nat.zero_add, Nat.reduceAdd] at hx9_0); (try rw [show ((2 : Int)).toNat = 2 from rfl] at hf9_0); (try simp only [Nat.reduceMul, Nat.zero_mul, Nat.zero_add, Nat.reduceAdd] at hf9_0); replace p9 := eq_true p9; replace q9 := eq_true q9; obtain ⟨hy24_, hz24_⟩ := Kd.R_celln 0 HO0.out (2 : Int) (by omega) (of_decide_eq_true (by first | (with_reducible assumption) | assumption)); (try simp only [Int.reduceToNat, Int.toNat_zero, Int.toNat_ofNat, Nat.reduceMul, Nat.zero_mul, Nat.zero_add] at hy24_ hz24_); (try rw [show ((2 : Int)).toNat = 2 from rfl] at hy24_); (try rw [show ((2 : Int)).toNat = 2 from rfl] at hz24_); have HP24 := Kd.R_putg HO0.out (2 : Int) ((a1 / 1099511627776) % 256)) | ((with_reducible refine gate_store (t := 5) (p := 21) rfl ?_); refine store_event (t := 5) (p := 21) (v := ?vo_w25) (w1 := (w23.setCell ⟨go5, (2 : Int).toNat, none⟩ (.int .u8 ((a1 / 1099511627776) % 256)))) ?hg ?ho ?hn ?hr ?_; (case ho => rfl); (case hg => rfl); (case hn => rfl); (case hr => first | (go_simp; done) | (go_simp; rfl)); intro w25 hw; have hg : w23.grownBy w25 (some go5) := (by rw [hw]; exact HP24.2); have hp_ : Kd.R (Kd.int .u8) 5 w25 w0.heap.size (fun k_ => (P0_ k_ ∨ w.heap.size ≤ k_)) (.slice (some ⟨go5, 0, none⟩) l0.length co19) y245 := (by rw [hw, Ny245.out]; exact HP24.1); clear HP24; have n0_ := Aside0.mk (hp_); have n1_ := Aside0.mk ((by rw [hw]; exact below_set (HB.out) GB5.out : Below w0.heap.size w0 w25)); have n2_ := Aside0.mk (Kept.of_grown (S := (fun k_ => P0_ k_)) hg (by repeat (first | (with_reducible first | exact HK.out | apply Kept.alloc | apply Kept.drewN | apply Kept.drew) | exact HK.out)) (fun k_ e_ => (HO0.out.1 k_ e_))); clear HO0; clear HB; clear HK; have HO0 := n0_; have HB := n1_; have HK := n2_; clear n0_ n1_ n2_; clear hg hw hp_; have p11 : 0 ≤ (3 : Int) := (by omega); have q11 : (3 : Int) < ((l0.length : Int) : Int) := of_decide_eq_true (by first | (with_reducible assumption) | assumption); have qi11 : (3 < l0.length) = True := eq_true (by omega); obtain ⟨hx11_0, hf11_0⟩ := Kd.R_celln 0 HO0.out (3 : Int) p11 q11; (try rw [show ((3 : Int)).toNat = 3 from rfl] at hx11_0); (try simp only [Nat.reduceMul, Nat.zero_mul, Nat.zero_add, Nat.reduceAdd] at hx11_0); (try rw [show ((3 : Int)).toNat = 3 from rfl] at hf11_0); (try simp only [Nat.reduceMul, Nat.zero_mul, Nat.zero_add, Nat.reduceAdd] at hf11_0); replace p11 := eq_true p11; replace q11 := eq_true q11; obtain ⟨hy26_, hz26_⟩ := Kd.R_celln 0 HO0.out (3 : Int) (by omega) (of_decide_eq_true (by first | (with_reducible assumption) | assumption)); (try simp only [Int.reduceToNat, Int.toNat_zero, Int.toNat_ofNat, Nat.reduceMul, Nat.zero_mul, Nat.zero_add] at hy26_ hz26_); (try rw [show ((3 : Int)).toNat = 3 from rfl] at hy26_); (try rw [show ((3 : Int)).toNat = 3 from rfl] at hz26_); have HP26 := Kd.R_putg HO0.out (3 : Int) ((a1 / 4294967296) % 256)) | ((with_reducible refine gate_store (t := 5) (p := 26) rfl ?_); refine store_event (t := 5) (p := 26) (v := ?vo_w27) (w1 := (w25.setCell ⟨go5, (3 : Int).toNat, none⟩ (.int .u8 ((a1 / 4294967296) % 256)))) ?hg ?ho ?hn ?hr ?_; (case ho => rfl); (case hg => rfl); (case hn => rfl); (case hr => first | (go_simp; done) | (go_simp; rfl)); intro w27 hw; have hg : w25.grownBy w27 (some go5) := (by rw [hw]; exact HP26.2); have hp_ : Kd.R (Kd.int .u8) 5 w27 w0.heap.size (fun k_ => (P0_ k_ ∨ w.heap.size ≤ k_)) (.slice (some ⟨go5, 0, none⟩) l0.length co19) y246 := (by rw [hw, Ny246.out]; exact HP26.1); clear HP26; have n0_ := Aside0.mk (hp_); have n1_ := Aside0.mk ((by rw [hw]; exact below_set (HB.out) GB5.out : Below w0.heap.size w0 w27)); have n2_ := Aside0.mk (Kept.of_grown (S := (fun k_ => P0_ k_)) hg (by repeat (first | (with_reducible first | exact HK.out | apply Kept.alloc | apply Kept.drewN | apply Kept.drew) | exact HK.out)) (fun k_ e_ => (HO0.out.1 k_ e_))); clear HO0; clear HB; clear HK; have HO0 := n0_; have HB := n1_; have HK := n2_; clear n0_ n1_ n2_; clear hg hw hp_; have p13 : 0 ≤ (4 : Int) := (by omega); have q13 : (4 : Int) < ((l0.length : Int) : Int) := of_decide_eq_true (by first | (with_reducible assumption) | assumption); have qi13 : (4 < l0.length) = True := eq_true (by omega); obtain ⟨hx13_0, hf13_0⟩ := Kd.R_celln 0 HO0.out (4 : Int) p13 q13; (try rw [show ((4 : Int)).toNat = 4 from rfl] at hx13_0); (try simp only [Nat.reduceMul, Nat.zero_mul, Nat.zero_add, Nat.reduceAdd] at hx13_0); (try rw [show ((4 : Int)).toNat = 4 from rfl] at hf13_0); (try simp only [Nat.reduceMul, Nat.zero_mul, Nat.zero_add, Nat.reduceAdd] at hf13_0); replace p13 := eq_true p13; replace q13 := eq_true q13; obtain ⟨hy28_, hz28_⟩ := Kd.R_celln 0 HO0.out (4 : Int) (by omega) (of_decide_eq_true (by first | (with_reducible assumption) | assumption)); (try simp only [Int.reduceToNat, Int.toNat_zero, Int.toNat_ofNat, Nat.reduceMul, Nat.zero_mul, Nat.zero_add] at hy28_ hz28_); (try rw [show ((4 : Int)).toNat = 4 from rfl] at hy28_); (try rw [show ((4 : Int)).toNat = 4 from rfl] at hz28_); have HP28 := Kd.R_putg HO0.out (4 : Int) ((a1 / 16777216) % 256)) | ((with_reducible refine gate_store (t := 5) (p := 31) rfl ?_); refine store_event (t := 5) (p := 31) (v := ?vo_w29) (w1 := (w27.setCell ⟨go5, (4 : Int).toNat, none⟩ (.int .u8 ((a1 / 16777216) % 256)))) ?hg ?ho ?hn ?hr ?_; (case ho => rfl); (case hg => rfl); (case hn => rfl); (case hr => first | (go_simp; done) | (go_simp; rfl)); intro w29 hw; have hg : w27.grownBy w29 (some go5) := (by rw [hw]; exact HP28.2); have hp_ : Kd.R (Kd.int .u8) 5 w29 w0.heap.size (fun k_ => (P0_ k_ ∨ w.heap.size ≤ k_)) (.slice (some ⟨go5, 0, none⟩) l0.length co19) y247 := (by rw [hw, Ny247.out]; exact HP28.1); clear HP28; have n0_ := Aside0.mk (hp_); have n1_ := Aside0.mk ((by rw [hw]; exact below_set (HB.out) GB5.out : Below w0.heap.size w0 w29)); have n2_ := Aside0.mk (Kept.of_grown (S := (fun k_ => P0_ k_)) hg (by repeat (first | (with_reducible first | exact HK.out | apply Kept.alloc | apply Kept.drewN | apply Kept.drew) | exact HK.out)) (fun k_ e_ => (HO0.out.1 k_ e_))); clear HO0; clear HB; clear HK; have HO0 := n0_; have HB := n1_; have HK := n2_; clear n0_ n1_ n2_; clear hg hw hp_; have p15 : 0 ≤ (5 : Int) := (by omega); have q15 : (5 : Int) < ((l0.length : Int) : Int) := of_decide_eq_true (by first | (with_reducible assumption) | assumption); have qi15 : (5 < l0.length) = True := eq_true (by omega); obtain ⟨hx15_0, hf15_0⟩ := Kd.R_celln 0 HO0.out (5 : Int) p15 q15; (try rw [show ((5 : Int)).toNat = 5 from rfl] at hx15_0); (try simp only [Nat.reduceMul, Nat.zero_mul, Nat.zero_add, Nat.reduceAdd] at hx15_0); (try rw [show ((5 : Int)).toNat = 5 from rfl] at hf15_0); (try simp only [Nat.reduceMul, Nat.zero_mul, Nat.zero_add, Nat.reduceAdd] at hf15_0); replace p15 := eq_true p15; replace q15 := eq_true q15; obtain ⟨hy30_, hz30_⟩ := Kd.R_celln 0 HO0.out (5 : Int) (by omega) (of_decide_eq_true (by first | (with_reducible assumption) | assumption)); (try simp only [Int.reduceToNat, Int.toNat_zero, Int.toNat_ofNat, Nat.reduceMul, Nat.zero_mul, Nat.zero_add] at hy30_ hz30_); (try rw [show ((5 : Int)).toNat = 5 from rfl] at hy30_); (try rw [show ((5 : Int)).toNat = 5 from rfl] at hz30_); have HP30 := Kd.R_putg HO0.out (5 : Int) ((a1 / 65536) % 256)) | ((with_reducible refine gate_store (t := 5) (p := 36) rfl ?_); refine store_event (t := 5) (p := 36) (v := ?vo_w31) (w1 := (w29.setCell ⟨go5, (5 : Int).toNat, none⟩ (.int .u8 ((a1 / 65536) % 256)))) ?hg ?ho ?hn ?hr ?_; (case ho => rfl); (case hg => rfl); (case hn => rfl); (case hr => first | (go_simp; done) | (go_simp; rfl)); intro w31 hw; have hg : w29.grownBy w31 (some go5) := (by rw [hw]; exact HP30.2); have hp_ : Kd.R (Kd.int .u8) 5 w31 w0.heap.size (fun k_ => (P0_ k_ ∨ w.heap.size ≤ k_)) (.slice (some ⟨go5, 0, none⟩) l0.length co19) y248 := (by rw [hw, Ny248.out]; exact HP30.1); clear HP30; have n0_ := Aside0.mk (hp_); have n1_ := Aside0.mk ((by rw [hw]; exact below_set (HB.out) GB5.out : Below w0.heap.size w0 w31)); have n2_ := Aside0.mk (Kept.of_grown (S := (fun k_ => P0_ k_)) hg (by repeat (first | (with_reducible first | exact HK.out | apply Kept.alloc | apply Kept.drewN | apply Kept.drew) | exact HK.out)) (fun k_ e_ => (HO0.out.1 k_ e_))); clear HO0; clear HB; clear HK; have HO0 := n0_; have HB := n1_; have HK := n2_; clear n0_ n1_ n2_; clear hg hw hp_; have p17 : 0 ≤ (6 : Int) := (by omega); have q17 : (6 : Int) < ((l0.length : Int) : Int) := of_decide_eq_true (by first | (with_reducible assumption) | assumption); have qi17 : (6 < l0.length) = True := eq_true (by omega); obtain ⟨hx17_0, hf17_0⟩ := Kd.R_celln 0 HO0.out (6 : Int) p17 q17; (try rw [show ((6 : Int)).toNat = 6 from rfl] at hx17_0); (try simp only [Nat.reduceMul, Nat.zero_mul, Nat.zero_add, Nat.reduceAdd] at hx17_0); (try rw [show ((6 : Int)).toNat = 6 from rfl] at hf17_0); (try simp only [Nat.reduceMul, Nat.zero_mul, Nat.zero_add, Nat.reduceAdd] at hf17_0); replace p17 := eq_true p17; replace q17 := eq_true q17; obtain ⟨hy32_, hz32_⟩ := Kd.R_celln 0 HO0.out (6 : Int) (by omega) (of_decide_eq_true (by first | (with_reducible assumption) | assumption)); (try simp only [Int.reduceToNat, Int.toNat_zero, Int.toNat_ofNat, Nat.reduceMul, Nat.zero_mul, Nat.zero_add] at hy32_ hz32_); (try rw [show ((6 : Int)).toNat = 6 from rfl] at hy32_); (try rw [show ((6 : Int)).toNat = 6 from rfl] at hz32_); have HP32 := Kd.R_putg HO0.out (6 : Int) ((a1 / 256) % 256)) | ((with_reducible refine gate_store (t := 5) (p := 41) rfl ?_); refine store_event (t := 5) (p := 41) (v := ?vo_w33) (w1 := (w31.setCell ⟨go5, (6 : Int).toNat, none⟩ (.int .u8 ((a1 / 256) % 256)))) ?hg ?ho ?hn ?hr ?_; (case ho => rfl); (case hg => rfl); (case hn => rfl); (case hr => first | (go_simp; done) | (go_simp; rfl)); intro w33 hw; have hg : w31.grownBy w33 (some go5) := (by rw [hw]; exact HP32.2); have hp_ : Kd.R (Kd.int .u8) 5 w33 w0.heap.size (fun k_ => (P0_ k_ ∨ w.heap.size ≤ k_)) (.slice (some ⟨go5, 0, none⟩) l0.length co19) y249 := (by rw [hw, Ny249.out]; exact HP32.1); clear HP32; have n0_ := Aside0.mk (hp_); have n1_ := Aside0.mk ((by rw [hw]; exact below_set (HB.out) GB5.out : Below w0.heap.size w0 w33)); have n2_ := Aside0.mk (Kept.of_grown (S := (fun k_ => P0_ k_)) hg (by repeat (first | (with_reducible first | exact HK.out | apply Kept.alloc | apply Kept.drewN | apply Kept.drew) | exact HK.out)) (fun k_ e_ => (HO0.out.1 k_ e_))); clear HO0; clear HB; clear HK; have HO0 := n0_; have HB := n1_; have HK := n2_; clear n0_ n1_ n2_; clear hg hw hp_; have p18 : 0 ≤ (7 : Int) := (by omega); have q18 : (7 : Int) < ((l0.length : Int) : Int) := of_decide_eq_true (by first | (with_reducible assumption) | assumption); have qi18 : (7 < l0.length) = True := eq_true (by omega); obtain ⟨hx18_0, hf18_0⟩ := Kd.R_celln 0 HO0.out (7 : Int) p18 q18; (try rw [show ((7 : Int)).toNat = 7 from rfl] at hx18_0); (try simp only [Nat.reduceMul, Nat.zero_mul, Nat.zero_add, Nat.reduceAdd] at hx18_0); (try rw [show ((7 : Int)).toNat = 7 from rfl] at hf18_0); (try simp only [Nat.reduceMul, Nat.zero_mul, Nat.zero_add, Nat.reduceAdd] at hf18_0); replace p18 := eq_true p18; replace q18 := eq_true q18; obtain ⟨hy34_, hz34_⟩ := Kd.R_celln 0 HO0.out (7 : Int) (by omega) (of_decide_eq_true (by first | (with_reducible assumption) | assumption)); (try simp only [Int.reduceToNat, Int.toNat_zero, Int.toNat_ofNat, Nat.reduceMul, Nat.zero_mul, Nat.zero_add] at hy34_ hz34_); (try rw [show ((7 : Int)).toNat = 7 from rfl] at hy34_); (try rw [show ((7 : Int)).toNat = 7 from rfl] at hz34_); have HP34 := Kd.R_putg HO0.out (7 : Int) ((a1) % 256)) | ((with_reducible refine gate_store (t := 5) (p := 45) rfl ?_); refine store_event (t := 5) (p := 45) (v := ?vo_w35) (w1 := (w33.setCell ⟨go5, (7 : Int).toNat, none⟩ (.int .u8 ((a1) % 256)))) ?hg ?ho ?hn ?hr ?_; (case ho => rfl); (case hg => rfl); (case hn => rfl); (case hr => first | (go_simp; done) | (go_simp; rfl)); intro w35 hw; have hg : w33.grownBy w35 (some go5) := (by rw [hw]; exact HP34.2); have hp_ : Kd.R (Kd.int .u8) 5 w35 w0.heap.size (fun k_ => (P0_ k_ ∨ w.heap.size ≤ k_)) (.slice (some ⟨go5, 0, none⟩) l0.length co19) y250 := (by rw [hw, Ny250.out]; exact HP34.1); clear HP34; have n0_ := Aside0.mk (hp_); have n1_ := Aside0.mk ((by rw [hw]; exact below_set (HB.out) GB5.out : Below w0.heap.size w0 w35)); have n2_ := Aside0.mk (Kept.of_grown (S := (fun k_ => P0_ k_)) hg (by repeat (first | (with_reducible first | exact HK.out | apply Kept.alloc | apply Kept.drewN | apply Kept.drew) | exact HK.out)) (fun k_ e_ => (HO0.out.1 k_ e_))); clear HO0; clear HB; clear HK; have HO0 := n0_; have HB := n1_; have HK := n2_; clear n0_ n1_ n2_; clear hg hw hp_))
                  first | go_end0 | ((try simp only [Exit.inBlock, Exit.then]); refine bodyPost_ret (results_none rfl _ _ _) rfl ?_)
                  exact ⟨by first | rfl | (simp [errW_none, errW_some] <;> rfl) | (simp [*, errW_none, errW_some] <;> rfl), by (with_reducible repeat (first | apply Kd.R_alloc | apply Kd.R_drewN | apply Kd.R_drew)); exact HO0.out, by repeat (first | (with_reducible first | exact HB.out | apply below_alloc | apply pw_below_drewN | apply below_drew1) | exact HB.out), by repeat (first | (with_reducible first | exact HK.out | apply Kept.alloc | apply Kept.drewN | apply Kept.drew) | exact HK.out)⟩
                · rw [if_neg c16] at H
                  exact absurd H (by simp)
              · rw [if_neg c14] at H
                exact absurd H (by simp)
            · rw [if_neg c12] at H
              exact absurd H (by simp)
          · rw [if_neg c10] at H
            exact absurd H (by simp)
        · rw [if_neg c8] at H
          exact absurd H (by simp)
      · rw [if_neg c6] at H
        exact absurd H (by simp)
    · rw [if_neg c4] at H
      exact absurd H (by simp)
  · rw [if_neg c3] at H
    exact absurd H (by simp)

-- NOT PRINTED: function 82 (netip_Addr_As16)

-- NOT PRINTED: function 52 (snmp_zzParse)

-- NOT PRINTED: function 39 (snmp_ZZAddressOk)

-- NOT PRINTED: function 26 (impl_pdu)

-- NOT PRINTED: function 61 (errors_New)

/-! ### snmp_appendBase128Int: function 90 -/
mutual
def snmp_appendBase128Int.l0 : Nat → List Int → Int → Int → Int → Option (List Int)
  | 0, _, _, _, _ => none
  | k + 1, x0, x1, x5, x6 => if x6 > 0 then (snmp_appendBase128Int.l0 k x0 x1 (wrap64 (x5 + 1)) (x6 / 128)) else (snmp_appendBase128Int.l1 k x0 x1 (wrap64 (x5 - 1)))
def snmp_appendBase128Int.l1 : Nat → List Int → Int → Int → Option (List Int)
  | 0, _, _, _ => none
  | k + 1, x0, x1, x7 => if x7 ≥ 0 then (if 0 ≤ (IntKind.u64.wrap (wrap64 (x7 * 7))) then (if x7 = 0 then (if x0.length < 140737488355328 then (snmp_appendBase128Int.l1 k (x0 ++ [Go.bits .and .u8 ((shr .i64 x1 (IntKind.u64.wrap (wrap64 (x7 * 7)))) % 256) 127]) x1 (wrap64 (x7 - 1))) else (none)) else (if x0.length < 140737488355328 then (snmp_appendBase128Int.l1 k (x0 ++ [Go.bits .or .u8 (Go.bits .and .u8 ((shr .i64 x1 (IntKind.u64.wrap (wrap64 (x7 * 7)))) % 256) 127) 128]) x1 (wrap64 (x7 - 1))) else (none))) else (none)) else (some x0)
end
def snmp_appendBase128Int.f (k : Nat) (l0 : List Int) (a1 : Int) : Option (List Int) := if a1 = 0 then (if l0.length < 140737488355328 then (some (l0 ++ [0])) else (none)) else (snmp_appendBase128Int.l0 k l0 a1 0 a1)
theorem snmp_appendBase128Int.mono_l : ∀ k, (∀ y0 y1 y2 y3, LeO (snmp_appendBase128Int.l0 k y0 y1 y2 y3) (snmp_appendBase128Int.l0 (k + 1) y0 y1 y2 y3)) ∧ (∀ y0 y1 y2, LeO (snmp_appendBase128Int.l1 k y0 y1 y2) (snmp_appendBase128Int.l1 (k + 1) y0 y1 y2))
  | 0 => ⟨fun _ _ _ _ r h => by simp [snmp_appendBase128Int.l0] at h, fun _ _ _ r h => by simp [snmp_appendBase128Int.l1] at h⟩
  | k + 1 => by
    obtain ⟨ih0, ih1⟩ := snmp_appendBase128Int.mono_l k
    refine ⟨?_, ?_⟩
    · intro y0 y1 y2 y3
      unfold snmp_appendBase128Int.l0
      repeat' first
      | (with_reducible exact ih0 _ _ _ _)
      | (with_reducible exact ih1 _ _ _)
      | (with_reducible exact LeO.refl _)
      | (with_reducible exact LeO.none _)
      | (with_reducible refine LeO.ite ?_ ?_)
      | (with_reducible refine LeO.bind ?_ (fun _ => ?_))
      | exact ih0 _ _ _ _
      | exact ih1 _ _ _
      | exact LeO.none _
      | refine LeO.ite ?_ ?_
      | refine LeO.bind ?_ (fun _ => ?_)
    · intro y0 y1 y2
      unfold snmp_appendBase128Int.l1
      repeat' first
      | (with_reducible exact ih0 _ _ _ _)
      | (with_reducible exact ih1 _ _ _)
      | (with_reducible exact LeO.refl _)
      | (with_reducible exact LeO.none _)
      | (with_reducible refine LeO.ite ?_ ?_)
      | (with_reducible refine LeO.bind ?_ (fun _ => ?_))
      | exact ih0 _ _ _ _
      | exact ih1 _ _ _
      | exact LeO.none _
      | refine LeO.ite ?_ ?_
      | refine LeO.bind ?_ (fun _ => ?_)
theorem snmp_appendBase128Int.mono : ∀ a0 a1 k, LeO (snmp_appendBase128Int.f k a0 a1) (snmp_appendBase128Int.f (k + 1) a0 a1) := by
  intro a0 a1 k
  obtain ⟨ih0, ih1⟩ := snmp_appendBase128Int.mono_l k
  unfold snmp_appendBase128Int.f
  repeat' first
      | (with_reducible exact ih0 _ _ _ _)
      | (with_reducible exact ih1 _ _ _)
      | (with_reducible exact LeO.refl _)
      | (with_reducible exact LeO.none _)
      | (with_reducible refine LeO.ite ?_ ?_)
      | (with_reducible refine LeO.bind ?_ (fun _ => ?_))
      | exact ih0 _ _ _ _
      | exact ih1 _ _ _
      | exact LeO.none _
      | refine LeO.ite ?_ ?_
      | refine LeO.bind ?_ (fun _ => ?_)
set_option maxHeartbeats 8000000 in
set_option maxRecDepth 100000 in
theorem snmp_appendBase128Int.calls (k : Nat) (P0_ : Nat → Prop) (u9000_ : Value) (l0 : List Int) (a1 : Int) (r : List Int) (w0 w : World) (hB : Below w0.heap.size w0 w) (ho0 : Kd.R (Kd.int .u8) 5 w w0.heap.size P0_ u9000_ l0) (h : snmp_appendBase128Int.f k l0 a1 = some r) :
    Calls Tryd.prog 90 #[u9000_, .int .i64 a1] w fun e w' => ∃ v0_ : Value, e = .returned (v0_) ∧ Kd.R (Kd.int .u8) 5 w' w0.heap.size (fun k_ => (P0_ k_ ∨ w.heap.size ≤ k_)) v0_ r ∧ Below w0.heap.size w0 w' ∧ Kept w w' (fun k_ => P0_ k_) := by
  have HO0 := Aside0.mk (show Kd.R (Kd.int .u8) 5 w w0.heap.size (fun k_ => (P0_ k_ ∨ w.heap.size ≤ k_)) u9000_ l0 from Kd.R_mono ho0 (fun k_ hk => (.inl hk)))
  have HK := Aside0.mk (Kept.refl w (fun k_ => P0_ k_))
  have HW0 := Aside0.mk hB.size
  have HB := Aside0.mk hB
  clear hB
  have H : (if a1 = 0 then (if l0.length < 140737488355328 then (some (l0 ++ [0])) else (none)) else (snmp_appendBase128Int.l0 k l0 a1 0 a1)) = some r := h
  clear h
  by_cases c3 : a1 = 0
  · rw [if_pos c3] at H
    have c3b0 : (a1 == 0) = true := beq_iff_eq.mpr c3
    have c3b1 : (a1 != 0) = false := bne_eq_false_iff_eq.mpr c3
    clear c3
    by_cases c4 : l0.length < 140737488355328
    · rw [if_pos c4] at H
      have LMc4 := Aside0.mk c4
      clear c4
      obtain ⟨y252, hy252⟩ : ∃ y_ : List Int, y_ = (l0 ++ [0]) := ⟨_, rfl⟩
      replace H : (some y252) = some r := by first | (rw [hy252]; with_reducible exact H) | (have H2_ := (Option.bind_some _ _).symm.trans H; rw [hy252]; with_reducible exact H2_) | (have H2_ := (Option.bind_some _ _).symm.trans H; with_reducible exact H2_) | with_reducible exact H | (rw [hy252]; exact H) | exact H
      have Ny252 := Aside0.mk hy252
      clear hy252
      obtain rfl := Option.some.inj H
      go_enter Tryd.func90, Tryd.ntmps90
      go_wp2_with (first | ((with_reducible refine gate_builtin (b := .append) (xs := #[.tmp 11, .tmp 12]) rfl ?_); at_builtin; refine Kd.R_append (Kd.int .u8) (w0 := w0) w0.heap.size rfl (.tmp 11) (.tmp 12) 26 5 (.int .u8 0) 1 rfl Tryd.underlying26 info5 rfl (by decide) (by omega) u9000_ l0 0 [.int .u8 0] (fun k_ => (P0_ k_ ∨ w.heap.size ≤ k_)) (fun _ => False) rfl rfl ?aP (fun _ hk => hk.elim) ?aF ?aO ?aB ?aS ?aL ?_; (case aP => exact rfl); (case aB => exact (by repeat (first | (with_reducible first | exact HB.out | apply below_alloc | apply pw_below_drewN | apply below_drew1) | exact HB.out))); (case aF => exact (fun k_ hk => (.inr (Nat.le_trans (by first | exact HK.out.1 | exact (show Kept w _ (fun k_ => P0_ k_) from by repeat (first | (with_reducible first | exact HK.out | apply Kept.alloc | apply Kept.drewN | apply Kept.drew) | exact HK.out)).1) hk)))); (case aO => exact (by (with_reducible repeat (first | apply Kd.R_alloc | apply Kd.R_drewN | apply Kd.R_drew)); exact HO0.out)); (case aS => exact (below_size (by repeat (first | (with_reducible first | exact HB.out | apply below_alloc | apply pw_below_drewN | apply below_drew1) | exact HB.out)))); (case aL => have := LMc4.out; omega); intro v253 w5 ho hb hg hat; rw [← Ny252.out] at ho; have n0_ := Aside0.mk (hb); have n1_ := Aside0.mk (Kept.of_grown (S := (fun k_ => P0_ k_)) hg (by repeat (first | (with_reducible first | exact HK.out | apply Kept.alloc | apply Kept.drewN | apply Kept.drew) | exact HK.out)) (fun k_ e_ => (HO0.out.1 k_ e_))); have n2_ := Aside0.mk (ho); clear HB; clear HK; clear HO0; have HB := n0_; have HK := n1_; have HO254 := n2_; clear n0_ n1_ n2_; clear ho hb hg hat))
      go_ret
      exact ⟨_, by first | rfl | (simp [errW_none, errW_some] <;> rfl) | (simp [*, errW_none, errW_some] <;> rfl), by (with_reducible repeat (first | apply Kd.R_alloc | apply Kd.R_drewN | apply Kd.R_drew)); exact HO254.out, by repeat (first | (with_reducible first | exact HB.out | apply below_alloc | apply pw_below_drewN | apply below_drew1) | exact HB.out), by repeat (first | (with_reducible first | exact HK.out | apply Kept.alloc | apply Kept.drewN | apply Kept.drew) | exact HK.out)⟩
    · rw [if_neg c4] at H
      exact absurd H (by simp)
  · rw [if_neg c3] at H
    have c3b0 : (a1 == 0) = false := beq_eq_false_iff_ne.mpr c3
    have c3b1 : (a1 != 0) = true := bne_iff_ne.mpr c3
    have H' := Aside0.mk H
    clear H
    go_enter Tryd.func90, Tryd.ntmps90
    go_wp2
    go_loopg [5, 6] k (fun kq v5 v6 w' => ∃ (x5_1 : Int) (x6_1 : Int), v5 = .int .i64 x5_1 ∧ v6 = .int .i64 x6_1 ∧ Aside0 (snmp_appendBase128Int.l0 kq l0 a1 x5_1 x6_1 = some r) ∧ Aside0 (kq ≤ k) ∧ Aside0 (Kd.R (Kd.int .u8) 5 w' w0.heap.size (fun k_ => (P0_ k_ ∨ w.heap.size ≤ k_)) u9000_ l0) ∧ Aside0 (Kept w w' (fun k_ => P0_ k_)) ∧ Aside0 (Below w0.heap.size w0 w'))
    case atStart => exact ⟨(0), (a1), (by first | rfl | (simp; done) | (simp [*]; done)), (by first | rfl | (simp; done) | (simp [*]; done)), H', ⟨Nat.le_refl _⟩, ⟨by (with_reducible repeat (first | apply Kd.R_alloc | apply Kd.R_drewN | apply Kd.R_drew)); exact HO0.out⟩, ⟨by repeat (first | (with_reducible first | exact HK.out | apply Kept.alloc | apply Kept.drewN | apply Kept.drew) | exact HK.out)⟩, ⟨by repeat (first | (with_reducible first | exact HB.out | apply below_alloc | apply pw_below_drewN | apply below_drew1) | exact HB.out)⟩⟩
    case round =>
      clear H'
      try clear p2
      try clear c3
      try clear c3b0
      try clear c3b1
      try clear c4
      obtain ⟨x5_1, x6_1, rfl, rfl, HA, HK1, HO_0, HK, HB⟩ := hrel
      cases gk with
      | zero => exact absurd HA.out (by simp [snmp_appendBase128Int.l0])
      | succ k1 =>
        have H := HA.out
        clear HA
        simp only [snmp_appendBase128Int.l0] at H
        by_cases c6 : x6_1 > 0
        · rw [if_pos c6] at H
          have c6b0 : decide (0 < x6_1) = true := decide_eq_true c6
          clear c6
          have H' := Aside0.mk H
          clear H
          go_wp2
          go_roundg k1
          case measure => have := HK1.out; omega
          case rel => exact ⟨(wrap64 (x5_1 + 1)), (x6_1 / 128), (by first | rfl | (simp; done) | (simp [*]; done)), (by first | rfl | (simp; done) | (simp [*]; done)), H', ⟨by have := HK1.out; omega⟩, ⟨by (with_reducible repeat (first | apply Kd.R_alloc | apply Kd.R_drewN | apply Kd.R_drew)); exact HO_0.out⟩, ⟨by repeat (first | (with_reducible first | exact HK.out | apply Kept.alloc | apply Kept.drewN | apply Kept.drew) | exact HK.out)⟩, ⟨by repeat (first | (with_reducible first | exact HB.out | apply below_alloc | apply pw_below_drewN | apply below_drew1) | exact HB.out)⟩⟩
        · rw [if_neg c6] at H
          have c6b0 : decide (0 < x6_1) = false := decide_eq_false c6
          clear c6
          have H' := Aside0.mk H
          clear H
          go_wp2
          go_loopg [0, 7] k1 (fun kq v0 v7 w' => ∃ (x0_2 : List Int) (x7_2 : Int), v7 = .int .i64 x7_2 ∧ Aside0 (snmp_appendBase128Int.l1 kq x0_2 a1 x7_2 = some r) ∧ Aside0 (kq ≤ k1) ∧ Aside0 (Kd.R (Kd.int .u8) 5 w' w0.heap.size (fun k_ => (P0_ k_ ∨ w.heap.size ≤ k_)) v0 x0_2) ∧ Aside0 (Kept w w' (fun k_ => P0_ k_)) ∧ Aside0 (Below w0.heap.size w0 w'))
          case atStart => exact ⟨(l0), (wrap64 (x5_1 - 1)), (by first | rfl | (simp; done) | (simp [*]; done)), H', ⟨Nat.le_refl _⟩, ⟨by (with_reducible repeat (first | apply Kd.R_alloc | apply Kd.R_drewN | apply Kd.R_drew)); exact HO_0.out⟩, ⟨by repeat (first | (with_reducible first | exact HK.out | apply Kept.alloc | apply Kept.drewN | apply Kept.drew) | exact HK.out)⟩, ⟨by repeat (first | (with_reducible first | exact HB.out | apply below_alloc | apply pw_below_drewN | apply below_drew1) | exact HB.out)⟩⟩
          case round =>
            clear H'
            try clear p2
            try clear c3
            try clear c3b0
            try clear c3b1
            try clear c4
            try clear c6
            try clear c6b0
            try clear p6
            try clear p2
            obtain ⟨x0_2, x7_2, rfl, HA, HK2, HO_0, HK, HB⟩ := hrel
            cases gk with
            | zero => exact absurd HA.out (by simp [snmp_appendBase128Int.l1])
            | succ k2 =>
              have H := HA.out
              clear HA
              simp only [snmp_appendBase128Int.l1] at H
              by_cases c7 : x7_2 ≥ 0
              · rw [if_pos c7] at H
                have c7b0 : decide (0 ≤ x7_2) = true := decide_eq_true c7
                clear c7
                obtain ⟨ji8, hji8⟩ : ∃ j_ : Int, (IntKind.u64.wrap (wrap64 (x7_2 * 7))) = j_ := ⟨_, rfl⟩
                replace H : (if 0 ≤ (ji8) then (if x7_2 = 0 then (if x0_2.length < 140737488355328 then (snmp_appendBase128Int.l1 k2 (x0_2 ++ [Go.bits .and .u8 ((shr .i64 a1 (ji8)) % 256) 127]) a1 (wrap64 (x7_2 - 1))) else (none)) else (if x0_2.length < 140737488355328 then (snmp_appendBase128Int.l1 k2 (x0_2 ++ [Go.bits .or .u8 (Go.bits .and .u8 ((shr .i64 a1 (ji8)) % 256) 127) 128]) a1 (wrap64 (x7_2 - 1))) else (none))) else (none)) = some r := by first | (rw [hji8] at H; exact H) | (simp only [hji8] at H ⊢; exact H)
                by_cases c9 : 0 ≤ (ji8)
                · rw [if_pos c9] at H
                  have c9b0 := eq_true c9
                  have c9b1 : decide (0 ≤ (ji8)) = true := decide_eq_true c9
                  clear c9
                  obtain ⟨ji10, hji10⟩ : ∃ j_ : Int, (shr .i64 a1 (ji8)) = j_ := ⟨_, rfl⟩
                  replace H : (if x7_2 = 0 then (if x0_2.length < 140737488355328 then (snmp_appendBase128Int.l1 k2 (x0_2 ++ [Go.bits .and .u8 ((ji10) % 256) 127]) a1 (wrap64 (x7_2 - 1))) else (none)) else (if x0_2.length < 140737488355328 then (snmp_appendBase128Int.l1 k2 (x0_2 ++ [Go.bits .or .u8 (Go.bits .and .u8 ((ji10) % 256) 127) 128]) a1 (wrap64 (x7_2 - 1))) else (none))) = some r := by first | (rw [hji10] at H; exact H) | (simp only [hji10] at H ⊢; exact H)
                  have hji10_ : (a1 / 2 ^ min (ji8).toNat 64) = ji10 := hji10
                  have hji10z : (ji8) ≤ 64 → (a1 / 2 ^ (ji8).toNat) = ji10 := shr_small hji10
                  by_cases c11 : x7_2 = 0
                  · rw [if_pos c11] at H
                    have c11b0 : (x7_2 == 0) = true := beq_iff_eq.mpr c11
                    have c11b1 : (x7_2 != 0) = false := bne_eq_false_iff_eq.mpr c11
                    clear c11
                    by_cases c12 : x0_2.length < 140737488355328
                    · rw [if_pos c12] at H
                      have LMc12 := Aside0.mk c12
                      clear c12
                      obtain ⟨y255, hy255⟩ : ∃ y_ : List Int, y_ = (x0_2 ++ [Go.bits .and .u8 ((ji10) % 256) 127]) := ⟨_, rfl⟩
                      replace H : (snmp_appendBase128Int.l1 k2 y255 a1 (wrap64 (x7_2 - 1))) = some r := by first | (rw [hy255]; with_reducible exact H) | (have H2_ := (Option.bind_some _ _).symm.trans H; rw [hy255]; with_reducible exact H2_) | (have H2_ := (Option.bind_some _ _).symm.trans H; with_reducible exact H2_) | with_reducible exact H | (rw [hy255]; exact H) | exact H
                      have Ny255 := Aside0.mk hy255
                      clear hy255
                      have H' := Aside0.mk H
                      clear H
                      go_wp2_with (first | ((with_reducible refine gate_builtin (b := .append) (xs := #[.tmp 38, .tmp 40]) rfl ?_); at_builtin; refine Kd.R_append (Kd.int .u8) (w0 := w0) w0.heap.size rfl (.tmp 38) (.tmp 40) 26 5 (.int .u8 0) 1 rfl Tryd.underlying26 info5 rfl (by decide) (by omega) u0 x0_2 (Go.bits .and .u8 ((ji10) % 256) 127) [.int .u8 (Go.bits .and .u8 ((ji10) % 256) 127)] (fun k_ => (P0_ k_ ∨ w.heap.size ≤ k_)) (fun _ => False) rfl rfl ?aP (fun _ hk => hk.elim) ?aF ?aO ?aB ?aS ?aL ?_; (case aP => exact rfl); (case aB => exact (by repeat (first | (with_reducible first | exact HB.out | apply below_alloc | apply pw_below_drewN | apply below_drew1) | exact HB.out))); (case aF => exact (fun k_ hk => (.inr (Nat.le_trans (by first | exact HK.out.1 | exact (show Kept w _ (fun k_ => P0_ k_) from by repeat (first | (with_reducible first | exact HK.out | apply Kept.alloc | apply Kept.drewN | apply Kept.drew) | exact HK.out)).1) hk)))); (case aO => exact (by (with_reducible repeat (first | apply Kd.R_alloc | apply Kd.R_drewN | apply Kd.R_drew)); exact HO_0.out)); (case aS => exact (below_size (by repeat (first | (with_reducible first | exact HB.out | apply below_alloc | apply pw_below_drewN | apply below_drew1) | exact HB.out)))); (case aL => have := LMc12.out; omega); intro v256 w13 ho hb hg hat; rw [← Ny255.out] at ho; have n0_ := Aside0.mk (hb); have n1_ := Aside0.mk (Kept.of_grown (S := (fun k_ => P0_ k_)) hg (by repeat (first | (with_reducible first | exact HK.out | apply Kept.alloc | apply Kept.drewN | apply Kept.drew) | exact HK.out)) (fun k_ e_ => (HO_0.out.1 k_ e_))); have n2_ := Aside0.mk (ho); clear HB; clear HK; clear HO_0; have HB := n0_; have HK := n1_; have HO257 := n2_; clear n0_ n1_ n2_; clear ho hb hg hat))
                      go_roundg k2
                      case measure => have := HK1.out; have := HK2.out; omega
                      case rel => exact ⟨(y255), (wrap64 (x7_2 - 1)), (by first | rfl | (simp; done) | (simp [*]; done)), H', ⟨by have := HK1.out; have := HK2.out; omega⟩, ⟨by (with_reducible repeat (first | apply Kd.R_alloc | apply Kd.R_drewN | apply Kd.R_drew)); exact HO257.out⟩, ⟨by repeat (first | (with_reducible first | exact HK.out | apply Kept.alloc | apply Kept.drewN | apply Kept.drew) | exact HK.out)⟩, ⟨by repeat (first | (with_reducible first | exact HB.out | apply below_alloc | apply pw_below_drewN | apply below_drew1) | exact HB.out)⟩⟩
                    · rw [if_neg c12] at H
                      exact absurd H (by simp)
                  · rw [if_neg c11] at H
                    have c11b0 : (x7_2 == 0) = false := beq_eq_false_iff_ne.mpr c11
                    have c11b1 : (x7_2 != 0) = true := bne_iff_ne.mpr c11
                    by_cases c14 : x0_2.length < 140737488355328
                    · rw [if_pos c14] at H
                      have LMc14 := Aside0.mk c14
                      clear c14
                      obtain ⟨y258, hy258⟩ : ∃ y_ : List Int, y_ = (x0_2 ++ [Go.bits .or .u8 (Go.bits .and .u8 ((ji10) % 256) 127) 128]) := ⟨_, rfl⟩
                      replace H : (snmp_appendBase128Int.l1 k2 y258 a1 (wrap64 (x7_2 - 1))) = some r := by first | (rw [hy258]; with_reducible exact H) | (have H2_ := (Option.bind_some _ _).symm.trans H; rw [hy258]; with_reducible exact H2_) | (have H2_ := (Option.bind_some _ _).symm.trans H; with_reducible exact H2_) | with_reducible exact H | (rw [hy258]; exact H) | exact H
                      have Ny258 := Aside0.mk hy258
                      clear hy258
                      have H' := Aside0.mk H
                      clear H
                      go_wp2_with (first | ((with_reducible refine gate_builtin (b := .append) (xs := #[.tmp 38, .tmp 40]) rfl ?_); at_builtin; refine Kd.R_append (Kd.int .u8) (w0 := w0) w0.heap.size rfl (.tmp 38) (.tmp 40) 26 5 (.int .u8 0) 1 rfl Tryd.underlying26 info5 rfl (by decide) (by omega) u0 x0_2 (Go.bits .or .u8 (Go.bits .and .u8 ((ji10) % 256) 127) 128) [.int .u8 (Go.bits .or .u8 (Go.bits .and .u8 ((ji10) % 256) 127) 128)] (fun k_ => (P0_ k_ ∨ w.heap.size ≤ k_)) (fun _ => False) rfl rfl ?aP (fun _ hk => hk.elim) ?aF ?aO ?aB ?aS ?aL ?_; (case aP => exact rfl); (case aB => exact (by repeat (first | (with_reducible first | exact HB.out | apply below_alloc | apply pw_below_drewN | apply below_drew1) | exact HB.out))); (case aF => exact (fun k_ hk => (.inr (Nat.le_trans (by first | exact HK.out.1 | exact (show Kept w _ (fun k_ => P0_ k_) from by repeat (first | (with_reducible first | exact HK.out | apply Kept.alloc | apply Kept.drewN | apply Kept.drew) | exact HK.out)).1) hk)))); (case aO => exact (by (with_reducible repeat (first | apply Kd.R_alloc | apply Kd.R_drewN | apply Kd.R_drew)); exact HO_0.out)); (case aS => exact (below_size (by repeat (first | (with_reducible first | exact HB.out | apply below_alloc | apply pw_below_drewN | apply below_drew1) | exact HB.out)))); (case aL => have := LMc14.out; omega); intro v259 w15 ho hb hg hat; rw [← Ny258.out] at ho; have n0_ := Aside0.mk (hb); have n1_ := Aside0.mk (Kept.of_grown (S := (fun k_ => P0_ k_)) hg (by repeat (first | (with_reducible first | exact HK.out | apply Kept.alloc | apply Kept.drewN | apply Kept.drew) | exact HK.out)) (fun k_ e_ => (HO_0.out.1 k_ e_))); have n2_ := Aside0.mk (ho); clear HB; clear HK; clear HO_0; have HB := n0_; have HK := n1_; have HO260 := n2_; clear n0_ n1_ n2_; clear ho hb hg hat))
                      go_roundg k2
                      case measure => have := HK1.out; have := HK2.out; omega
                      case rel => exact ⟨(y258), (wrap64 (x7_2 - 1)), (by first | rfl | (simp; done) | (simp [*]; done)), H', ⟨by have := HK1.out; have := HK2.out; omega⟩, ⟨by (with_reducible repeat (first | apply Kd.R_alloc | apply Kd.R_drewN | apply Kd.R_drew)); exact HO260.out⟩, ⟨by repeat (first | (with_reducible first | exact HK.out | apply Kept.alloc | apply Kept.drewN | apply Kept.drew) | exact HK.out)⟩, ⟨by repeat (first | (with_reducible first | exact HB.out | apply below_alloc | apply pw_below_drewN | apply below_drew1) | exact HB.out)⟩⟩
                    · rw [if_neg c14] at H
                      exact absurd H (by simp)
                · rw [if_neg c9] at H
                  exact absurd H (by simp)
              · rw [if_neg c7] at H
                have c7b0 : decide (0 ≤ x7_2) = false := decide_eq_false c7
                clear c7
                obtain rfl := Option.some.inj H
                go_wp2
                go_ret
                exact ⟨_, by first | rfl | (simp [errW_none, errW_some] <;> rfl) | (simp [*, errW_none, errW_some] <;> rfl), by (with_reducible repeat (first | apply Kd.R_alloc | apply Kd.R_drewN | apply Kd.R_drew)); exact HO_0.out, by repeat (first | (with_reducible first | exact HB.out | apply below_alloc | apply pw_below_drewN | apply below_drew1) | exact HB.out), by repeat (first | (with_reducible first | exact HK.out | apply Kept.alloc | apply Kept.drewN | apply Kept.drew) | exact HK.out)⟩

-- NOT PRINTED: function 56 (snmp_marshalObjectIdentifier)

-- NOT PRINTED: function 91 (bytes_Buffer_tryGrowByReslice)

/-- A state of type 127 at block g of W; what its slices lead to came in by w0. -/
def IsS127 (w0 W : World) (g : Nat) (f0 : List Int) (f1 : Int) (f2 : Int) : Prop := ∃ A0 c0, W.heap[g]? = some (.cells #[.slice A0 f0.length c0, .int .i64 f1, .int .i8 f2] 127 (0, 0)) ∧ w0.heap.size ≤ g ∧ Kd.C (Kd.int .u8) w0 A0 f0.length f0
theorem IsS127.grown {w0 W : World} {g : Nat} {f0 : List Int} {f1 : Int} {f2 : Int} {W1 : World} {row : Option Nat} (h : IsS127 w0 W g f0 f1 f2) (hw : W.grownBy W1 row) (hne : some g ≠ row) : IsS127 w0 W1 g f0 f1 f2 := by
  obtain ⟨A0, c0, hb, hg, hr0⟩ := h
  exact ⟨A0, c0, blk_grown hb hw hne, hg, hr0⟩
theorem IsS127.own_neN {w0 W : World} {g : Nat} {f0 : List Int} {f1 : Int} {f2 : Int} {α : Type} {d : Kd α} {e : Nat} {base : Nat} {ok : Nat → Prop} {v : Value} {xs : List α} (h : IsS127 w0 W g f0 f1 f2) (ho : Kd.N d e W base ok v xs) (ht : e ≠ 127) : some g ≠ v.ownBlock := by
  obtain ⟨A0, c0, hb, hg, hr0⟩ := h
  exact Kd.N_ne ho hb ht
theorem IsS127.fresh {w0 W : World} {g : Nat} {f0 : List Int} {f1 : Int} {f2 : Int} (h : IsS127 w0 W g f0 f1 f2) : ∀ k, W.heap.size ≤ k → k ≠ g := by
  obtain ⟨A0, c0, hb, hg, hr0⟩ := h
  exact Kd.freshB hb
theorem IsS127.kept {w0 W : World} {g : Nat} {f0 : List Int} {f1 : Int} {f2 : Int} {W1 : World} {S : Nat → Prop} (h : IsS127 w0 W g f0 f1 f2) (hk : Kept W W1 S) (hne : ¬ S g) : IsS127 w0 W1 g f0 f1 f2 := by
  obtain ⟨A0, c0, hb, hg, hr0⟩ := h
  exact ⟨A0, c0, blk_kept hb hk hne, hg, hr0⟩
theorem IsS127.below {w0 W : World} {g : Nat} {f0 : List Int} {f1 : Int} {f2 : Int} {W1 : World} (h : IsS127 w0 W g f0 f1 f2) (hw : Below W.heap.size W W1) : IsS127 w0 W1 g f0 f1 f2 := h.grown (grown_of_below hw none) (by simp)
theorem IsS127.alloc {w0 W : World} {g : Nat} {f0 : List Int} {f1 : Int} {f2 : Int} (h : IsS127 w0 W g f0 f1 f2) (o : Obj) : IsS127 w0 (W.alloc o) g f0 f1 f2 := h.below (below_alloc (Below.refl _ _) o)
theorem IsS127.drewN {w0 W : World} {g : Nat} {f0 : List Int} {f1 : Int} {f2 : Int} (h : IsS127 w0 W g f0 f1 f2) (m : Nat) : IsS127 w0 (W.drewN m) g f0 f1 f2 := h
theorem IsS127.drew {w0 W : World} {g : Nat} {f0 : List Int} {f1 : Int} {f2 : Int} (h : IsS127 w0 W g f0 f1 f2) : IsS127 w0 W.drew g f0 f1 f2 := h
theorem IsS127.at_ {w0 W : World} {g : Nat} {f0 : List Int} {f1 : Int} {f2 : Int} {w' : World} {m : Nat} (hq : W.drewN m = w') (h : IsS127 w0 W g f0 f1 f2) : IsS127 w0 w' g f0 f1 f2 := by subst hq; exact IsS127.drewN h m
theorem IsS127.apart {w0 W : World} {g : Nat} {f0 : List Int} {f1 : Int} {f2 : Int} {α : Type} {d : Kd α} {e : Nat} {base : Nat} {ok : Nat → Prop} {v : Value} {xs : List α} (h : IsS127 w0 W g f0 f1 f2) (ho : d.R e W base ok v xs) (ht : ∀ q, q ∈ e :: d.E → q ≠ 127) : d.R e W base (fun k => ok k ∧ k ≠ g) v xs := by
  obtain ⟨A0, c0, hb, hg, hr0⟩ := h
  exact Kd.R_types ho hb ht
theorem IsS127.own_ne {w0 W : World} {g : Nat} {f0 : List Int} {f1 : Int} {f2 : Int} {α : Type} {d : Kd α} {e : Nat} {base : Nat} {ok : Nat → Prop} {v : Value} {xs : List α} (h : IsS127 w0 W g f0 f1 f2) (ho : d.R e W base ok v xs) (ht : e ≠ 127) : some g ≠ v.ownBlock := by
  obtain ⟨A0, c0, hb, hg, hr0⟩ := h
  exact Kd.R_ne ho hb ht
theorem IsS127.apartQ {w0 W : World} {g : Nat} {f0 : List Int} {f1 : Int} {f2 : Int} {α : Type} {d : Kd α} {e : Nat} {base : Nat} {ok : Nat → Prop} {v : Value} {xs : List α} (h : IsS127 w0 W g f0 f1 f2) (ho : d.Q e W base ok v xs) (ht : ∀ q, q ∈ e :: d.E → q ≠ 127) : d.Q e W base (fun k => ok k ∧ k ≠ g) v xs := by
  obtain ⟨A0, c0, hb, hg, hr0⟩ := h
  exact Kd.Q_types ho hb ht
theorem IsS127.own_neQ {w0 W : World} {g : Nat} {f0 : List Int} {f1 : Int} {f2 : Int} {α : Type} {d : Kd α} {e : Nat} {base : Nat} {ok : Nat → Prop} {v : Value} {xs : List α} (h : IsS127 w0 W g f0 f1 f2) (ho : d.Q e W base ok v xs) (ht : e ≠ 127) : some g ≠ v.ownBlock := by
  obtain ⟨A0, c0, hb, hg, hr0⟩ := h
  exact Kd.Q_ne ho hb ht
theorem IsS127.apartS {w0 W : World} {g : Nat} {f0 : List Int} {f1 : Int} {f2 : Int} {α : Type} {d : Kd α} {e : Nat} {base : Nat} {ok : Nat → Prop} {v : Value} {xs : List α} (h : IsS127 w0 W g f0 f1 f2) (ho : d.S e W base ok v xs) (ht : ∀ q, q ∈ e :: d.E → q ≠ 127) : d.S e W base (fun k => ok k ∧ k ≠ g) v xs := by
  obtain ⟨A0, c0, hb, hg, hr0⟩ := h
  exact Kd.S_types ho hb ht
theorem IsS127.own_neS {w0 W : World} {g : Nat} {f0 : List Int} {f1 : Int} {f2 : Int} {α : Type} {d : Kd α} {e : Nat} {base : Nat} {ok : Nat → Prop} {v : Value} {xs : List α} (h : IsS127 w0 W g f0 f1 f2) (ho : d.S e W base ok v xs) (ht : e ≠ 127) : some g ≠ v.ownBlock := by
  obtain ⟨A0, c0, hb, hg, hr0⟩ := h
  exact Kd.S_ne ho hb ht
theorem IsS127.lt {w0 W : World} {g : Nat} {f0 : List Int} {f1 : Int} {f2 : Int} (h : IsS127 w0 W g f0 f1 f2) : g < W.heap.size := by
  obtain ⟨A0, c0, hb, hg, hr0⟩ := h
  exact blk_lt hb
theorem IsS127.ge {w0 W : World} {g : Nat} {f0 : List Int} {f1 : Int} {f2 : Int} (h : IsS127 w0 W g f0 f1 f2) : w0.heap.size ≤ g := by
  obtain ⟨A0, c0, hb, hg, hr0⟩ := h
  exact hg
theorem IsS127.ne_blk {w0 W : World} {g : Nat} {f0 : List Int} {f1 : Int} {f2 : Int} {a : Nat} {cs : Array Value} {t : TypeId} {fr : Nat × Nat} (h : IsS127 w0 W g f0 f1 f2) (hb2 : W.heap[a]? = some (.cells cs t fr)) (ht : t ≠ 127) : g ≠ a := by
  obtain ⟨A0, c0, hb, hg, hr0⟩ := h
  rintro rfl
  rw [hb] at hb2
  injection hb2 with hb2
  injection hb2 with _ ht2
  exact ht ht2.symm
theorem IsS127.far {w0 W : World} {g : Nat} {f0 : List Int} {f1 : Int} {f2 : Int} {p : Addr} (h : IsS127 w0 W g f0 f1 f2) (hne : g ≠ p.block) (u : Value) : IsS127 w0 (W.setCell p u) g f0 f1 f2 := by
  obtain ⟨A0, c0, hb, hg, hr0⟩ := h
  exact ⟨A0, c0, blk_far hb hne u, hg, hr0⟩
theorem cellS127_0 {W : World} {g : Nat} {A0 : Option Addr} {c0 : Nat} {f0 : List Int} {f1 : Int} {f2 : Int} (h : W.heap[g]? = some (.cells #[.slice A0 f0.length c0, .int .i64 f1, .int .i8 f2] 127 (0, 0))) : W.cell? ⟨g, 0, none⟩ = some (.slice A0 f0.length c0) := (blk_cell h 0).trans rfl
theorem cellS127_1 {W : World} {g : Nat} {A0 : Option Addr} {c0 : Nat} {f0 : List Int} {f1 : Int} {f2 : Int} (h : W.heap[g]? = some (.cells #[.slice A0 f0.length c0, .int .i64 f1, .int .i8 f2] 127 (0, 0))) : W.cell? ⟨g, 1, none⟩ = some (.int .i64 f1) := (blk_cell h 1).trans rfl
theorem IsS127.set_1 {w0 W : World} {g : Nat} {f0 : List Int} {f1 : Int} {f2 : Int} (h : IsS127 w0 W g f0 f1 f2) (x : Int) : IsS127 w0 (W.setCell ⟨g, 1, none⟩ (.int .i64 x)) g f0 x f2 := by
  obtain ⟨A0, c0, hb, hg, hr0⟩ := h
  exact ⟨A0, c0, by simpa using blk_set hb 1 (.int .i64 x), hg, hr0⟩
theorem cellS127_2 {W : World} {g : Nat} {A0 : Option Addr} {c0 : Nat} {f0 : List Int} {f1 : Int} {f2 : Int} (h : W.heap[g]? = some (.cells #[.slice A0 f0.length c0, .int .i64 f1, .int .i8 f2] 127 (0, 0))) : W.cell? ⟨g, 2, none⟩ = some (.int .i8 f2) := (blk_cell h 2).trans rfl
theorem IsS127.set_2 {w0 W : World} {g : Nat} {f0 : List Int} {f1 : Int} {f2 : Int} (h : IsS127 w0 W g f0 f1 f2) (x : Int) : IsS127 w0 (W.setCell ⟨g, 2, none⟩ (.int .i8 x)) g f0 f1 x := by
  obtain ⟨A0, c0, hb, hg, hr0⟩ := h
  exact ⟨A0, c0, by simpa using blk_set hb 2 (.int .i8 x), hg, hr0⟩
theorem IsS127.new (w0 W : World) (A0 : Option Addr) (c0 : Nat) (f0 : List Int) (f1 : Int) (f2 : Int) (hB : Below w0.heap.size w0 W) (hr0 : Kd.C (Kd.int .u8) w0 A0 f0.length f0) : IsS127 w0 (W.alloc (.cells #[.slice A0 f0.length c0, .int .i64 f1, .int .i8 f2] 127)) W.heap.size f0 f1 f2 := ⟨A0, c0, by simpa using heap_alloc_new W _, hB.size, hr0⟩

/-! ### bytes_Buffer_Len: function 85 -/
def bytes_Buffer_Len.f (s0_0 : List Int) (s0_1 : Int) (s0_2 : Int) : Option (Int × Int × Int) := some (wrap64 ((s0_0.length : Int) - s0_1), s0_1, s0_2)
set_option maxHeartbeats 8000000 in
set_option maxRecDepth 100000 in
theorem bytes_Buffer_Len.calls (g : Nat) (s0_0 : List Int) (s0_1 : Int) (s0_2 : Int) (r1 : Int) (r2 : Int) (r3 : Int) (w0 w : World) (hI : IsS127 w0 w g s0_0 s0_1 s0_2) (hB : Below w0.heap.size w0 w) (h : bytes_Buffer_Len.f s0_0 s0_1 s0_2 = some (r1, r2, r3)) :
    Calls Tryd.prog 85 #[.pointer (some ⟨g, 0, none⟩)] w fun e w' => e = .returned (.int .i64 r1) ∧ IsS127 w0 w' g s0_0 r2 r3 ∧ Below w0.heap.size w0 w' ∧ KeepBut w w' g none := by
  have HI0 := Aside0.mk hI
  have HK := Aside0.mk (KeepBut.refl w g none)
  have HL := Aside0.mk hB.size
  clear hI
  have HW0 := Aside0.mk hB.size
  have HB := Aside0.mk hB
  clear hB
  have H : (some (wrap64 ((s0_0.length : Int) - s0_1), s0_1, s0_2)) = some (r1, r2, r3) := h
  clear h
  simp only [Option.some.injEq, Prod.mk.injEq] at H
  obtain ⟨rfl, rfl, rfl⟩ := H
  obtain ⟨ASz2_0, cSz2_0, HGz2, hgz2, HSz2_0⟩ := HI0.out
  have hcz2_0 := cellS127_0 HGz2
  have hcz2_1 := cellS127_1 HGz2
  have hcz2_2 := cellS127_2 HGz2
  have hfz2_1 := blk_frozen HGz2 1
  have hfz2_2 := blk_frozen HGz2 2
  clear HGz2 hgz2
  go_enter Tryd.func85, Tryd.ntmps85
  go_wp2
  repeat (go_quiet (fail); try go_wp2)
  go_ret
  exact ⟨by first | rfl | (simp [errW_none, errW_some] <;> rfl) | (simp [*, errW_none, errW_some] <;> rfl), by repeat (first | (with_reducible first | exact HI0.out | apply IsS127.alloc | apply IsS127.drewN | apply IsS127.drew | apply IsS127.set_1 | apply IsS127.set_2) | exact HI0.out), by repeat (first | (with_reducible first | exact HB.out | apply below_alloc | apply pw_below_drewN | apply below_drew1 | refine below_set ?_ (IsS127.ge HI0.out)) | exact HB.out), by repeat (first | (with_reducible first | exact HK.out | apply KeepBut.set_ | apply keep_drewN | apply keep_drew | apply keep_alloc) | exact HK.out)⟩

-- NOT PRINTED: function 111 (bytes_Buffer_Reset)

-- NOT PRINTED: function 113 (bytes_growSlice)

-- NOT PRINTED: function 92 (bytes_Buffer_grow)

-- NOT PRINTED: function 58 (bytes_Buffer_WriteByte)

-- NOT PRINTED: function 94 (binary_bigEndian_PutUint64)

-- NOT PRINTED: function 66 (snmp_marshalLength)

-- NOT PRINTED: function 67 (bytes_Buffer_Write)

-- NOT PRINTED: function 57 (snmp_marshalTLV)

-- NOT PRINTED: function 59 (bytes_Buffer_Bytes)

-- NOT PRINTED: function 60 (snmp_marshalInt32)

-- NOT PRINTED: function 93 (binary_bigEndian_PutUint32)

-- NOT PRINTED: function 62 (snmp_marshalUint32)

/-! ### snmp_ipv4toBytes: function 63 -/
def snmp_ipv4toBytes.f (l0 : List Int) : Option (List Int) := if 12 ≤ (l0.length : Int) then (some (l0.drop (12 : Int).toNat)) else (none)
set_option maxHeartbeats 8000000 in
set_option maxRecDepth 100000 in
theorem snmp_ipv4toBytes.calls (P0_ : Nat → Prop) (u9000_ : Value) (l0 : List Int) (r : List Int) (w0 w : World) (hB : Below w0.heap.size w0 w) (ho0 : Kd.R (Kd.int .u8) 5 w w0.heap.size P0_ u9000_ l0) (h : snmp_ipv4toBytes.f l0 = some r) :
    Calls Tryd.prog 63 #[u9000_] w fun e w' => ∃ v0_ : Value, e = .returned (v0_) ∧ Kd.Q (Kd.int .u8) 5 w' w0.heap.size (fun k_ => (P0_ k_ ∨ w.heap.size ≤ k_)) v0_ r ∧ Below w0.heap.size w0 w' ∧ Kept w w' (fun k_ => P0_ k_) := by
  have HO0 := Aside0.mk (show Kd.R (Kd.int .u8) 5 w w0.heap.size (fun k_ => (P0_ k_ ∨ w.heap.size ≤ k_)) u9000_ l0 from Kd.R_mono ho0 (fun k_ hk => (.inl hk)))
  have HK := Aside0.mk (Kept.refl w (fun k_ => P0_ k_))
  have HW0 := Aside0.mk hB.size
  have HB := Aside0.mk hB
  clear hB
  have H : (if 12 ≤ (l0.length : Int) then (some (l0.drop (12 : Int).toNat)) else (none)) = some r := h
  clear h
  by_cases c2 : 12 ≤ (l0.length : Int)
  · rw [if_pos c2] at H
    have c2b0 := eq_true c2
    have c2b1 : decide (12 ≤ (l0.length : Int)) = true := decide_eq_true c2
    clear c2
    obtain ⟨y264, hy264⟩ : ∃ y_ : List Int, y_ = (l0.drop (12 : Int).toNat) := ⟨_, rfl⟩
    replace H : (some y264) = some r := by first | (rw [hy264]; with_reducible exact H) | (have H2_ := (Option.bind_some _ _).symm.trans H; rw [hy264]; with_reducible exact H2_) | (have H2_ := (Option.bind_some _ _).symm.trans H; with_reducible exact H2_) | with_reducible exact H | (rw [hy264]; exact H) | exact H
    have Ny264 := Aside0.mk hy264
    clear hy264
    obtain rfl := Option.some.inj H
    obtain ⟨Ao3, co3, eo3⟩ := Kd.R_slice HO0.out
    subst eo3
    have q4 : (12 : Int) ≤ ((l0.length : Int) : Int) := of_decide_eq_true (by first | (with_reducible assumption) | assumption)
    obtain ⟨i04, hi04, _, hsz4, _⟩ := info_parts info5
    have hcut4 := cut_from (P := Tryd.prog) 26 5 .i64 Tryd.underlying26 hi04 1 hsz4 Ao3 l0.length co3 12 (by omega) q4
    have hr4 := Kd.Q_drop (k := (12 : Int).toNat) (Kd.Q_of_R HO0.out) (by omega)
    obtain ⟨A4, hA4⟩ : ∃ A1, A1 = (if co3 = (12 : Int).toNat then Ao3 else (Ao3 : Option Addr).map (·.add ((12 : Int).toNat * 1))) := ⟨_, rfl⟩
    obtain ⟨c4, hc4⟩ : ∃ c1, c1 = co3 - (12 : Int).toNat := ⟨_, rfl⟩
    have hy4 : y264.length = l0.length - (12 : Int).toNat := (by rw [Ny264.out, List.length_drop])
    rw [← Ny264.out] at hr4
    rw [← hy4, ← hA4, ← hc4] at hcut4
    replace hr4 : Kd.Q (Kd.int .u8) 5 w w0.heap.size (fun k_ => (P0_ k_ ∨ w.heap.size ≤ k_)) (.slice A4 y264.length c4) y264 := (by rw [hA4, hc4, hy4]; exact hr4)
    have HE4 : Aside0 ((Value.slice A4 y264.length c4).ownBlock = (.slice Ao3 l0.length co3 : Value).ownBlock) := ⟨by rw [hA4]; split <;> (cases (Ao3 : Option Addr) <;> rfl)⟩
    clear hy4 hi04 hsz4 HO0 hA4 hc4
    have HO266 := Aside0.mk hr4
    clear hr4
    replace q4 := eq_true q4
    go_enter Tryd.func63, Tryd.ntmps63
    go_wp2
    go_ret
    exact ⟨_, by first | rfl | (simp [errW_none, errW_some] <;> rfl) | (simp [*, errW_none, errW_some] <;> rfl), by (with_reducible repeat (first | apply Kd.Q_alloc | apply Kd.Q_drewN | apply Kd.Q_drew)); exact HO266.out, by repeat (first | (with_reducible first | exact HB.out | apply below_alloc | apply pw_below_drewN | apply below_drew1) | exact HB.out), by repeat (first | (with_reducible first | exact HK.out | apply Kept.alloc | apply Kept.drewN | apply Kept.drew) | exact HK.out)⟩
  · rw [if_neg c2] at H
    exact absurd H (by simp)

-- NOT PRINTED: function 50 (math_Float32bits)

-- NOT PRINTED: function 64 (snmp_marshalFloat32)

-- NOT PRINTED: function 51 (math_Float64bits)

-- NOT PRINTED: function 65 (snmp_marshalFloat64)

/-! ### snmp_zzTrim: function 95 -/
def snmp_zzTrim.l0 : Nat → List Int → Option (List Int)
  | 0, _ => none
  | k + 1, x0 => if (x0.length : Int) > 0 then (if 0 < (x0.length : Int) then (if (rd x0 0) = 0 then (if 1 ≤ (x0.length : Int) then (snmp_zzTrim.l0 k (x0.drop 1)) else (none)) else (some x0)) else (none)) else (some x0)
def snmp_zzTrim.f (k : Nat) (l0 : List Int) : Option (List Int) := snmp_zzTrim.l0 k l0
theorem snmp_zzTrim.mono_l : ∀ k, (∀ y0, LeO (snmp_zzTrim.l0 k y0) (snmp_zzTrim.l0 (k + 1) y0))
  | 0 => fun _ r h => by simp [snmp_zzTrim.l0] at h
  | k + 1 => by
    have ih0 := snmp_zzTrim.mono_l k
    · intro y0
      unfold snmp_zzTrim.l0
      repeat' first
      | (with_reducible exact ih0 _)
      | (with_reducible exact LeO.refl _)
      | (with_reducible exact LeO.none _)
      | (with_reducible refine LeO.ite ?_ ?_)
      | (with_reducible refine LeO.bind ?_ (fun _ => ?_))
      | exact ih0 _
      | exact LeO.none _
      | refine LeO.ite ?_ ?_
      | refine LeO.bind ?_ (fun _ => ?_)
theorem snmp_zzTrim.mono : ∀ a0 k, LeO (snmp_zzTrim.f k a0) (snmp_zzTrim.f (k + 1) a0) := by
  intro a0 k
  have ih0 := snmp_zzTrim.mono_l k
  unfold snmp_zzTrim.f
  repeat' first
      | (with_reducible exact ih0 _)
      | (with_reducible exact LeO.refl _)
      | (with_reducible exact LeO.none _)
      | (with_reducible refine LeO.ite ?_ ?_)
      | (with_reducible refine LeO.bind ?_ (fun _ => ?_))
      | exact ih0 _
      | exact LeO.none _
      | refine LeO.ite ?_ ?_
      | refine LeO.bind ?_ (fun _ => ?_)
set_option maxHeartbeats 8000000 in
set_option maxRecDepth 100000 in
theorem snmp_zzTrim.calls (k : Nat) (P0_ : Nat → Prop) (A0 : Option Addr) (c0 : Nat) (l0 : List Int) (r : List Int) (w : World) (hs0 : Kd.V (Kd.int .u8) 5 w w.heap.size (fun k_ => P0_ k_) (.slice A0 l0.length c0) l0) (h : snmp_zzTrim.f k l0 = some r) :
    Calls Tryd.prog 95 #[.slice A0 l0.length c0] w fun e w' => ∃ v0_ : Value, e = .returned (v0_) ∧ Kd.V (Kd.int .u8) 5 w' w.heap.size (fun k_ => (P0_ k_ ∨ w.heap.size ≤ k_)) v0_ r ∧ Below w.heap.size w w' := by
  have HO0 := Aside0.mk (show Kd.V (Kd.int .u8) 5 w w.heap.size (fun k_ => (P0_ k_ ∨ w.heap.size ≤ k_)) (.slice A0 l0.length c0) l0 from Kd.V_mono hs0 (fun k_ hk => .inl hk))
  have HB := Aside0.mk (Below.refl w.heap.size w)
  have H : (snmp_zzTrim.l0 k l0) = some r := h
  clear h
  have H' := Aside0.mk H
  clear H
  go_enter Tryd.func95, Tryd.ntmps95
  go_wp2
  go_loopg [0] k (fun kq v0 w' => ∃ (x0_1 : List Int), Aside0 (snmp_zzTrim.l0 kq x0_1 = some r) ∧ Aside0 (kq ≤ k) ∧ Aside0 (Kd.V (Kd.int .u8) 5 w' w.heap.size (fun k_ => (P0_ k_ ∨ w.heap.size ≤ k_)) v0 x0_1) ∧ Aside0 (Below w.heap.size w w'))
  case atStart => exact ⟨(l0), H', ⟨Nat.le_refl _⟩, ⟨by (with_reducible repeat (first | apply Kd.V_alloc | apply Kd.V_drewN | apply Kd.V_drew)); exact HO0.out⟩, ⟨by repeat (first | (with_reducible first | exact HB.out | apply below_alloc | apply pw_below_drewN | apply below_drew1) | exact HB.out)⟩⟩
  case round =>
    clear H'
    obtain ⟨x0_1, HA, HK1, HO_0, HB⟩ := hrel
    cases gk with
    | zero => exact absurd HA.out (by simp [snmp_zzTrim.l0])
    | succ k1 =>
      have H := HA.out
      clear HA
      simp only [snmp_zzTrim.l0] at H
      by_cases c2 : (x0_1.length : Int) > 0
      · rw [if_pos c2] at H
        have c2b0 : decide (0 < (x0_1.length : Int)) = true := decide_eq_true c2
        have c2b1 : decide (0 < x0_1.length) = true := decide_eq_true (by omega)
        clear c2
        by_cases c3 : 0 < (x0_1.length : Int)
        · rw [if_pos c3] at H
          have c3b0 : decide (0 < (x0_1.length : Int)) = true := decide_eq_true c3
          have c3b1 : decide (0 < x0_1.length) = true := decide_eq_true (by omega)
          clear c3
          by_cases c4 : (rd x0_1 0) = 0
          · rw [if_pos c4] at H
            have c4b0 : ((rd x0_1 0) == 0) = true := beq_iff_eq.mpr c4
            have c4b1 : ((rd x0_1 0) != 0) = false := bne_eq_false_iff_eq.mpr c4
            clear c4
            by_cases c5 : 1 ≤ (x0_1.length : Int)
            · rw [if_pos c5] at H
              have c5b0 := eq_true c5
              have c5b1 : decide (1 ≤ (x0_1.length : Int)) = true := decide_eq_true c5
              clear c5
              obtain ⟨y268, hy268⟩ : ∃ y_ : List Int, y_ = (x0_1.drop 1) := ⟨_, rfl⟩
              replace H : (snmp_zzTrim.l0 k1 y268) = some r := by first | (rw [hy268]; with_reducible exact H) | (have H2_ := (Option.bind_some _ _).symm.trans H; rw [hy268]; with_reducible exact H2_) | (have H2_ := (Option.bind_some _ _).symm.trans H; with_reducible exact H2_) | with_reducible exact H | (rw [hy268]; exact H) | exact H
              have Ny268 := Aside0.mk hy268
              clear hy268
              have H' := Aside0.mk H
              clear H
              obtain ⟨Ao6, co6, eo6⟩ := Kd.V_slice HO_0.out
              subst eo6
              have p267 : 0 ≤ (0 : Int) := (by omega)
              have q267 : 0 < (x0_1.length : Int) := of_decide_eq_true (by first | (with_reducible assumption) | assumption)
              obtain ⟨ad267, e267, hx267_0⟩ := Kd.at_int (Kd.V_reads' HO_0.out).2.2 0 p267 q267
              cases e267
              have qi267 : (0 < x0_1.length) = True := eq_true (by omega)
              (try rw [show ((0 : Int)).toNat = 0 from rfl] at hx267_0)
              (try rw [Addr.add_zero'] at hx267_0)
              replace p267 := eq_true p267
              replace q267 := eq_true q267
              have q7 : (1 : Int) ≤ ((x0_1.length : Int) : Int) := of_decide_eq_true (by first | (with_reducible assumption) | assumption)
              obtain ⟨i07, hi07, _, hsz7, _⟩ := info_parts info5
              have hroom7 : x0_1.length ≤ co6 := (Kd.V_reads' HO_0.out).2.1
              have hC7 : Kd.F (Kd.int .u8) _ _ (some ad267) x0_1.length x0_1 := (Kd.V_at (base := w.heap.size) HO_0.out).2.2
              have hcut7 := cut_from (P := Tryd.prog) 26 5 .i64 Tryd.underlying26 hi07 1 hsz7 (some ad267) x0_1.length co6 1 (by omega) q7
              have hr7 := Kd.F_cut (m := (1 : Int).toNat) (c := co6) hC7 (by omega) hroom7
              obtain ⟨A7, hA7⟩ : ∃ A1, A1 = (if co6 = (1 : Int).toNat then (some ad267) else ((some ad267) : Option Addr).map (·.add ((1 : Int).toNat * 1))) := ⟨_, rfl⟩
              obtain ⟨c7, hc7⟩ : ∃ c1, c1 = co6 - (1 : Int).toNat := ⟨_, rfl⟩
              have hy7 : y268.length = x0_1.length - (1 : Int).toNat := (by rw [Ny268.out, List.length_drop] <;> omega)
              rw [show (x0_1).drop (1 : Int).toNat = y268 from Ny268.out.symm] at hr7
              replace hr7 : Kd.F (Kd.int .u8) _ _ A7 y268.length y268 := (by rw [hA7]; exact hr7)
              rw [← hy7, ← hA7, ← hc7] at hcut7
              have HO272 := Aside0.mk (show Kd.V (Kd.int .u8) 5 _ w.heap.size _ (.slice A7 y268.length c7) y268 from Kd.V_mk (by rw [hy7, hc7]; exact Nat.sub_le_sub_right hroom7 _) hr7)
              have HC272 := Aside0.mk (show y268.length ≤ c7 from by rw [hy7, hc7]; exact Nat.sub_le_sub_right hroom7 _)
              clear hr7 hC7 hroom7 hi07 hsz7 hc7
              have KY7 := Aside0.mk hy7
              have KA7 := Aside0.mk hA7
              clear hy7 hA7
              replace q7 := eq_true q7
              go_wp2
              go_roundg k1
              case measure => have := HK1.out; omega
              case rel => exact ⟨(y268), H', ⟨by have := HK1.out; omega⟩, ⟨by (with_reducible repeat (first | apply Kd.V_alloc | apply Kd.V_drewN | apply Kd.V_drew)); exact HO272.out⟩, ⟨by repeat (first | (with_reducible first | exact HB.out | apply below_alloc | apply pw_below_drewN | apply below_drew1) | exact HB.out)⟩⟩
            · rw [if_neg c5] at H
              exact absurd H (by simp)
          · rw [if_neg c4] at H
            have c4b0 : ((rd x0_1 0) == 0) = false := beq_eq_false_iff_ne.mpr c4
            have c4b1 : ((rd x0_1 0) != 0) = true := bne_iff_ne.mpr c4
            obtain rfl := Option.some.inj H
            obtain ⟨Ao8, co8, eo8⟩ := Kd.V_slice HO_0.out
            subst eo8
            have p267 : 0 ≤ (0 : Int) := (by omega)
            have q267 : 0 < (x0_1.length : Int) := of_decide_eq_true (by first | (with_reducible assumption) | assumption)
            obtain ⟨ad267, e267, hx267_0⟩ := Kd.at_int (Kd.V_reads' HO_0.out).2.2 0 p267 q267
            cases e267
            have qi267 : (0 < x0_1.length) = True := eq_true (by omega)
            (try rw [show ((0 : Int)).toNat = 0 from rfl] at hx267_0)
            (try rw [Addr.add_zero'] at hx267_0)
            replace p267 := eq_true p267
            replace q267 := eq_true q267
            go_wp2
            go_ret
            exact ⟨_, by first | rfl | (simp [errW_none, errW_some] <;> rfl) | (simp [*, errW_none, errW_some] <;> rfl), by (with_reducible repeat (first | apply Kd.V_alloc | apply Kd.V_drewN | apply Kd.V_drew)); exact HO_0.out, by repeat (first | (with_reducible first | exact HB.out | apply below_alloc | apply pw_below_drewN | apply below_drew1) | exact HB.out)⟩
        · rw [if_neg c3] at H
          exact absurd H (by simp)
      · rw [if_neg c2] at H
        have c2b0 : decide (0 < (x0_1.length : Int)) = false := decide_eq_false c2
        have c2b1 : decide (0 < x0_1.length) = false := decide_eq_false (by omega)
        clear c2
        obtain rfl := Option.some.inj H
        obtain ⟨Ao9, co9, eo9⟩ := Kd.V_slice HO_0.out
        subst eo9
        go_wp2
        go_ret
        exact ⟨_, by first | rfl | (simp [errW_none, errW_some] <;> rfl) | (simp [*, errW_none, errW_some] <;> rfl), by (with_reducible repeat (first | apply Kd.V_alloc | apply Kd.V_drewN | apply Kd.V_drew)); exact HO_0.out, by repeat (first | (with_reducible first | exact HB.out | apply below_alloc | apply pw_below_drewN | apply below_drew1) | exact HB.out)⟩

-- NOT PRINTED: function 68 (snmp_marshalUint64)

-- NOT PRINTED: function 48 (snmp_marshalVarbind)

-- NOT PRINTED: function 27 (snmp_ZZVarbind)

-- NOT PRINTED: function 28 (slices_Clone_byte_byte)

-- NOT PRINTED: function 11 (impl_Value)

-- NOT PRINTED: function 31 (spec_Open)

-- NOT PRINTED: function 29 (spec_next)

end Go.Proofs.YtangjgclpipjdaaDoor.PFnValue
