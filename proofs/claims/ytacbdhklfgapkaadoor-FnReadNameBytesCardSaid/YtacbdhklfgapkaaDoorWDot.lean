/- spec.figures, spec.Dotted: the walks. -/
import Derived.Test.YtacbdhklfgapkaaDoorPOid
set_option linter.unusedVariables false
namespace Go.Proofs.YtacbdhklfgapkaaDoor
open Go.RowKit Go.Proofs.YtacbdhklfgapkaaDoorW.PrintWords Go.Proofs.YtacbdhklfgapkaaDoorW.PrintLast Go.Proofs.YtacbdhklfgapkaaDoorW.PrintMore

theorem str_app (l m : List Int) : strOfNums l ++ strOfNums m = strOfNums (l ++ m) := by
  unfold strOfNums
  apply ByteArray.ext
  simp [ByteArray.data_append]
theorem dec_step (m : Nat) : dec m = (if m / 10 = 0 then [] else dec (m / 10)) ++ [((48 + m % 10 : Nat) : Int)] := by
  have hd : ((UInt8.ofNat (48 + m % 10)).toNat : Int) = ((48 + m % 10 : Nat) : Int) := by
    rw [UInt8.toNat_ofNat']
    omega
  unfold dec
  rw [Lib.decDigits]
  by_cases h : m < 10
  · rw [dif_pos h, if_pos (by omega)]
    have e : m % 10 = m := by omega
    rw [e] at hd ⊢
    simpa using hd
  · rw [dif_neg h, if_neg (by omega), List.map_append]
    simp only [List.map_cons, List.map_nil]
    rw [hd]

set_option maxRecDepth 100000 in
theorem figures_any (n : Int) (h0 : 0 ≤ n) (h1 : n ≤ 4294967295) (w : World) :
    Calls Tryd.prog 26 #[.int .u64 n] w fun e w' => e = .returned (.string (strOfNums (dec n.toNat))) ∧ Below w.heap.size w w' := by
  have HN := Lib.hid (And.intro h0 h1)
  clear h0 h1
  go_enter Tryd.func26, Tryd.ntmps26
  go_wp2
  go_loopg [0, 3] n.toNat (fun k v0 v3 wr => ∃ (m : Nat) (l : List Int), v0 = .int .u64 m ∧ v3 = .string (strOfNums l) ∧ Hid (k = m ∧ (m : Int) ≤ n ∧ dec n.toNat = dec m ++ l ∧ l.length + m ≤ 5000000000 ∧ Below w.heap.size w wr))
  case atStart =>
    have := HN.out
    exact ⟨n.toNat, [], by rw [Int.toNat_of_nonneg this.1], rfl, Lib.hid ⟨rfl, by omega, by simp, by simp; omega, Below.refl _ _⟩⟩
  case round =>
    obtain ⟨m, l, rfl, rfl, HR⟩ := hrel
    have hm : (m : Int) ≤ 4294967295 := by have := HN.out; have := HR.out.2.1; omega
    have e1 : IntKind.u64.wrap (48 + (m : Int) % 10) = 48 + (m : Int) % 10 := wraps_u64 _ (by omega) (by omega)
    have e2 : (48 + (m : Int) % 10) % 256 = 48 + (m : Int) % 10 := by omega
    have e3 : ((48 + m % 10 : Nat) : Int) = 48 + (m : Int) % 10 := by omega
    have hds := dec_step m
    rw [e3] at hds
    have HD := Lib.hid hds
    have hcv := (OwnB.lit wr wr.heap.size [48 + (m : Int) % 10] (Nat.le_refl _) (by simp) (cs := #[Value.int .u8 (48 + (m : Int) % 10)]) (by rfl)).string (P := Tryd.prog) Tryd.underlying23 Tryd.underlying5 Tryd.underlying9
    simp only [List.length_cons, List.length_nil, Nat.zero_add] at hcv
    have hap := str_app [48 + (m : Int) % 10] l
    have hsz : (strOfNums [48 + (m : Int) % 10]).size + (strOfNums l).size ≤ 9223372036854775807 := by
      have := HR.out.2.2.2.1
      simp [strOfNums, ByteArray.size]
      omega
    clear hds e3
    by_cases hz : m < 10
    · have hz2 : (m : Int) / 10 = 0 := by omega
      go_wp2
      go_ret
      have hd := HD.out
      rw [if_pos (by omega)] at hd
      refine ⟨?_, HR.out.2.2.2.2.alloc (HR.out.2.2.2.2).size _⟩
      rw [HR.out.2.2.1, hd]
      rfl
    · go_wp2
      go_roundg (m / 10)
      case measure =>
        have := HR.out.1
        omega
      case rel =>
        have hd := HD.out
        rw [if_neg (by omega)] at hd
        refine ⟨m / 10, (48 + (m : Int) % 10) :: l, by rw [show ((m / 10 : Nat) : Int) = (m : Int) / 10 by omega], rfl, Lib.hid ⟨rfl, by have := HR.out.2.1; omega, ?_, by have := HR.out.2.2.2.1; simp; omega, HR.out.2.2.2.2.alloc (HR.out.2.2.2.2).size _⟩⟩
        rw [HR.out.2.2.1, hd]
        simp

set_option maxRecDepth 100000 in
theorem dotted_any (arcs : List Int) (hx : ∀ x ∈ arcs, 0 ≤ x ∧ x ≤ 4294967295) (hl : arcs.length ≤ 1000) (A : Option Addr) (c : Nat) (w : World) (hC : Kd.C (Kd.int .u64) w A arcs.length arcs) :
    Calls Tryd.prog 18 #[.slice A arcs.length c] w fun e w' => e = .returned (.string (strOfNums (sDot arcs))) ∧ Below w.heap.size w w' := by
  have HH := Lib.hid (And.intro hx hC)
  clear hx hC
  go_enter Tryd.func18, Tryd.ntmps18
  go_wp2
  go_loopg [3, 8] arcs.length (fun k v3 v8 wr => ∃ i : Nat, v8 = .int .i64 i ∧ v3 = .string (strOfNums (sDot (arcs.take i))) ∧ Hid (i ≤ arcs.length ∧ k = arcs.length - i ∧ Below w.heap.size w wr))
  case atStart => exact ⟨0, rfl, rfl, Lib.hid ⟨Nat.zero_le _, rfl, Below.refl _ _⟩⟩
  case round =>
    obtain ⟨i, rfl, rfl, HR⟩ := hrel
    by_cases hi : (i : Int) < arcs.length
    · have hil : i < arcs.length := by omega
      obtain ⟨x0, x1⟩ := HH.out.1 arcs[i] (List.getElem_mem hil)
      obtain ⟨ad, rfl, g⟩ := Kd.at_int (Kd.C_below HH.out.2 HR.out.2.2) i (by omega) hi
      have hrd : rd arcs i = arcs[i] := by
        unfold Go.Proofs.YtacbdhklfgapkaaDoorW.PrintWords.rd
        rw [Int.toNat_natCast, List.getD_eq_getElem?_getD, List.getElem?_eq_getElem hil]
        rfl
      rw [hrd, Int.toNat_natCast] at g
      have hst : sDot (arcs.take (i + 1)) = sDot (arcs.take i) ++ (46 :: dec (arcs[i]).toNat) := by
        rw [List.take_succ_eq_append_getElem hil, sDot_snoc]
        simp
      have hsl := sDot_len (arcs.take i) (fun x hx => HH.out.1 x (List.mem_of_mem_take hx))
      have hdl := dec_len arcs[i] x0 x1
      have hil' : (i < arcs.length) = True := eq_true hil
      rw [List.length_take] at hsl
      have hsl2 : (sDot (arcs.take i)).length ≤ 21000 := by omega
      clear hrd hsl
      generalize arcs[i] = x at *
      clear hil
      generalize hs : sDot (arcs.take i) = s at *
      generalize hs2 : sDot (arcs.take (i + 1)) = s2 at *
      subst hst
      have p1 : (ByteArray.mk #[46]) ++ strOfNums (dec x.toNat) = strOfNums (46 :: dec x.toNat) := str_app [46] _
      have p2 := str_app s (46 :: dec x.toNat)
      have q1 : (ByteArray.mk #[46]).size + (strOfNums (dec x.toNat)).size ≤ 9223372036854775807 := by simp [strOfNums, ByteArray.size]; omega
      have q2 : (strOfNums s).size + (strOfNums (46 :: dec x.toNat)).size ≤ 9223372036854775807 := by simp [strOfNums, ByteArray.size]; omega
      have HS := Lib.hid (And.intro hs hs2)
      clear hs hs2 hdl hsl2
      go_wp2_with fail
      refine (figures_any x x0 x1 wr).mono ?_
      rintro e w2 ⟨rfl, hb2⟩
      have HB := Lib.hid (below_step HR.out.2.2 hb2)
      clear hb2
      go_wp2
      go_roundg (arcs.length - (i + 1))
      case measure =>
        have := HR.out.2.1
        omega
      case rel => exact ⟨i + 1, by go_num, by rw [HS.out.2], Lib.hid ⟨by omega, rfl, HB.out⟩⟩
    · have HE := HR.out
      have hie : i = arcs.length := by omega
      rw [hie, List.take_length]
      clear hi HE
      go_wp2
      go_ret
      exact ⟨rfl, HR.out.2.2⟩
end Go.Proofs.YtacbdhklfgapkaaDoor
