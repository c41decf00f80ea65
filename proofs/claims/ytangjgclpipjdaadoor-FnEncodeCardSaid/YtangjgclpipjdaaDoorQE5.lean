/- The lemmas and walks that FnEncode rests on, part 5: WArcs OfNm SVal2 PInt SOfUintFnValue SOfVar WOf SOfIntFnValue SIntFnValue SUintFnValue SLenFnValue SSealedFnValue ESpecFnValue WContFnValue WPlainFnValue. -/
import Derived.Lib.EndianBits
import Derived.Lib.ConvBytes
import Derived.Lib.AtoiErrMem
import Derived.Test.YtangjgclpipjdaaDoorQE2
import Derived.Test.YtangjgclpipjdaaDoorQE3
import Derived.Test.YtangjgclpipjdaaDoorQE4
set_option linter.unusedVariables false
namespace Go.Proofs.YtangjgclpipjdaaDoor
open Go.RowKit Go.Proofs.YtangjgclpipjdaaDoorW.PrintWords Go.Proofs.YtangjgclpipjdaaDoorW.PrintLast Go.Proofs.YtangjgclpipjdaaDoorW.PrintMore
/-- A row of uint64 of the call's own. -/
def OwnU (w : World) (B : Nat) (v : Value) (xs : List Int) : Prop := Kd.R (Kd.int .u64) 22 w B (fun _ => True) v xs
theorem OwnU.lit (w : World) (B : Nat) (xs : List Int) (hB : B ≤ w.heap.size) (h : xs.length ≤ 9223372036854775807) {cs : Array Value} (hc : cs.toList = xs.map (Value.int .u64)) :
    OwnU (w.alloc (.cells cs 22)) B (.slice (some ⟨w.heap.size, 0, none⟩) xs.length xs.length) xs := by
  obtain ⟨l⟩ := cs
  simp only at hc
  subst hc
  have := own_lit_of (enc := Value.int .u64) w B 22 xs hB h
  exact Kd.R_of_own this (fun _ _ => trivial)
/-- 'append(s, x...)' of uint64, s a row of the call's own. -/
theorem app_u64s {P : Program} {W : World} {ops : Array Oper} {rest : List Oper} {o : Oper} {a : Act} {Q : Exit → Act → World → Prop} (hgd : o.guard = none) (s x : Operand) (t : TypeId)
    (ho : o.op = .call { callee := .builtin .append, args := #[s, x], argTypes := #[t, t] }) (ht : P.underlying t = some (.slice 22)) (hinfo : (P.info? 22).map (fun i => (i.zero, i.size, i.bytes)) = some (some (.int .u64 0), 1, 8))
    (B : Nat) (v : Value) (xs ys : List Int) (A : Option Addr) (m c : Nat) (hs : a.eval s = v) (hx : a.eval x = .slice A m c) (HO : OwnU W B v xs) (HR : Kd.C (Kd.int .u64) W A m ys) (hB : B ≤ W.heap.size) (hl : xs.length + m ≤ 17592186044416)
    (h : ∀ v1 w1, OwnU w1 B v1 (xs ++ ys) → W.grownBy w1 v.ownBlock → (v1.ownBlock = v.ownBlock ∨ ∃ b, v1.ownBlock = some b ∧ W.heap.size ≤ b) → wpList P ops Q rest (a.put o.dst v1) w1) : wpList P ops Q (o :: rest) a W := by
  refine Kd.R_append_rows (Kd.int .u64) (w0 := W) B hgd s x t 22 (.int .u64 0) 8 ho ht hinfo rfl (by decide) (by omega) v xs ys A m c (fun _ => True) (fun _ => False) hs hx HO HR ?_ (fun _ hk => hk.elim) (fun _ _ => trivial) (Below.refl _ _) hB (by omega) ?_
  · intro x cs h; exact h
  · intro v1 w1 h1 _ hg hat
    exact h v1 w1 h1 hg hat
def finA : Option (List Int) → List Int × Bool
  | none => ([], false)
  | some out => if arcsOk out then (out, decide ((sName out).length ≤ 100)) else (out, false)
theorem sArcs_finA (s : List Int) : sArcs s = finA (arcsGo (strip s) [] 0 false) := by
  unfold sArcs finA
  cases arcsGo (strip s) [] 0 false <;> rfl
theorem arcs_start (s : ByteArray) (hs : s.size ≤ 2147483647) : ∃ t : ByteArray, strip (bs s) = bs t ∧ t.size ≤ 2147483647 ∧ ((∃ h : 0 < s.size, ((s[0]'h).toNat : Int) = 46 ∧ s.extract 1 s.size = t) ∨ (∃ h : 0 < s.size, ((((s[0]'h).toNat : Int) == 46) = false) ∧ t = s) ∨ (s.size = 0 ∧ t = s)) := by
  cases hb : bs s with
  | nil =>
    have : s.size = 0 := by have := congrArg List.length hb; rw [bs_length] at this; simpa using this
    exact ⟨s, by rw [hb]; rfl, hs, .inr (.inr ⟨this, rfl⟩)⟩
  | cons c l =>
    obtain ⟨h, h1, h2⟩ := char_at s 0 c l hb
    by_cases hc : c = 46
    · refine ⟨s.extract 1 s.size, ?_, by simp; omega, .inl ⟨h, by rw [h1, hc], rfl⟩⟩
      subst hc
      show l = _
      rw [← h2]
      unfold bs
      simp
      exact (List.take_of_length_le (by simp)).symm
    · refine ⟨s, ?_, hs, .inr (.inl ⟨h, beq_eq_false_iff_ne.2 (by rw [h1]; exact hc), rfl⟩)⟩
      rw [hb]
      unfold strip
      split
      · rename_i heq; injection heq with e1 e2; exact absurd e1 hc
      · rfl
def GotA (w w' : World) (R : List Int × Bool) (e : Ending) : Prop := ∃ v, e = .returned (.tuple #[v, .bool R.2]) ∧ OwnU w' w.heap.size v R.1 ∧ Below w.heap.size w w'
theorem gotA {w w' : World} {R : List Int × Bool} {v : Value} {xs : List Int} {b : Bool} (h : R = (xs, b)) (ho : OwnU w' w.heap.size v xs) (hb : Below w.heap.size w w') : GotA w w' R (.returned (.tuple #[v, .bool b])) := by
  subst h
  exact ⟨v, rfl, ho, hb⟩
theorem litU_C (w : World) (n : Int) : Kd.C (Kd.int .u64) (w.alloc (.cells #[Value.int .u64 n] 22)) (some ⟨w.heap.size, 0, none⟩) 1 [n] := by
  obtain ⟨A, c, e, _, hC⟩ := Kd.R_reads (OwnU.lit w w.heap.size [n] (Nat.le_refl _) (by simp) (cs := #[Value.int .u64 n]) (by rfl))
  injection e with e1 e2 e3
  rw [e1]
  exact hC
theorem OwnU.block {w : World} {B : Nat} {v : Value} {xs : List Int} (h : OwnU w B v xs) (k : Nat) (hk : v.ownBlock = some k) : B ≤ k := ((Kd.R_bound h).1 k hk).2.1
theorem finA_no (out : List Int) (h : ¬ arcsOk out) : finA (some out) = (out, false) := by simp [finA, h]
theorem OwnU.nil (w : World) (B : Nat) : OwnU w B (.slice none 0 0) [] := Kd.R_nil (Kd.int .u64) _ _ _ _
theorem arcsGo_bounds (l : List Int) : ∀ (out : List Int) (n : Int) (sm : Bool) (r : List Int), arcsGo l out n sm = some r → 0 ≤ n → n ≤ 4294967295 → (∀ x ∈ out, 0 ≤ x ∧ x ≤ 4294967295) → ∀ x ∈ r, 0 ≤ x ∧ x ≤ 4294967295 := by
  have snoc : ∀ (out : List Int) (n : Int), 0 ≤ n → n ≤ 4294967295 → (∀ x ∈ out, 0 ≤ x ∧ x ≤ 4294967295) → ∀ x ∈ out ++ [n], 0 ≤ x ∧ x ≤ 4294967295 := by
    intro out n h0 h1 ha x hx
    rcases List.mem_append.1 hx with h' | h'
    · exact ha x h'
    · rw [List.mem_singleton.1 h']; exact ⟨h0, h1⟩
  induction l with
  | nil =>
    intro out n sm r h h0 h1 ha
    cases sm with
    | false => simp [arcsGo] at h
    | true =>
      simp [arcsGo] at h
      rw [← h]
      exact snoc out n h0 h1 ha
  | cons c l ih =>
    intro out n sm r h h0 h1 ha
    simp only [arcsGo] at h
    by_cases hc : c = 46
    · rw [if_pos hc] at h
      cases sm with
      | false => simp at h
      | true =>
        simp only [if_true] at h
        exact ih _ _ _ _ h (by omega) (by omega) (snoc out n h0 h1 ha)
    · rw [if_neg hc] at h
      by_cases hg : c < 48 ∨ c > 57 ∨ (sm = true ∧ n = 0) ∨ 10 * n + (c - 48) ≥ 4294967296
      · rw [if_pos hg] at h; cases h
      · rw [if_neg hg] at h
        exact ih _ _ _ _ h (by omega) (by omega) ha
theorem sArcs_bounds (s : List Int) (arcs : List Int) (h : sArcs s = (arcs, true)) : ∀ x ∈ arcs, 0 ≤ x ∧ x ≤ 4294967295 := by
  unfold sArcs at h
  cases e : arcsGo (strip s) [] 0 false with
  | none => rw [e] at h; simp at h
  | some out =>
    rw [e] at h
    simp only at h
    by_cases ho : arcsOk out
    · rw [if_pos ho] at h
      simp at h
      rw [← h.1]
      exact arcsGo_bounds _ _ _ _ _ e (by omega) (by omega) (by simp)
    · rw [if_neg ho] at h; simp at h
set_option maxRecDepth 100000 in
set_option maxHeartbeats 8000000 in
theorem specArcs_any (s : ByteArray) (hs : s.size ≤ 2147483647) (w : World) :
    Calls Tryd.prog 21 #[.string s] w fun e w' => GotA w w' (sArcs (bs s)) e := by
  obtain ⟨t, hst, hz, hcase⟩ := arcs_start s hs
  rw [sArcs_finA, hst]
  clear hst hs
  have ho0 : OwnU (w.alloc (.cells #[] 22)) w.heap.size (.slice (some ⟨w.heap.size, 0, none⟩) 0 0) [] := OwnU.lit w _ [] (Nat.le_refl _) (by simp) (by rfl)
  have HO0 := Lib.hid (And.intro ho0 ((Below.refl w.heap.size w).alloc (Nat.le_refl _) (.cells #[] 22)))
  clear ho0
  rcases hcase with ⟨h, h46, hext⟩ | ⟨h, h46, rfl⟩ | ⟨hp, rfl⟩
  all_goals
    obtain ⟨R, hR⟩ : ∃ R, R = arcsGo (bs t) [] 0 false := ⟨_, rfl⟩
    rw [← hR]
    have HRR := Lib.hid hR
    clear hR
    go_enter Tryd.func21, Tryd.ntmps21
    go_wp2_with fail
    go_loopg [4, 5, 6, 7] (t.size + 1) (fun g v4 v5 v6 v7 wr => ∃ (i : Nat) (out : List Int) (n : Int) (sm : Bool), v7 = .int .i64 i ∧ v5 = .int .u64 n ∧ v6 = .bool sm ∧ Hid (g = t.size + 1 - i ∧ 0 ≤ n ∧ n ≤ 4294967295 ∧ OwnU wr w.heap.size v4 out ∧ Below w.heap.size w wr ∧ out.length ≤ i ∧ (∀ x ∈ out, 0 ≤ x ∧ x ≤ 4294967295) ∧ ((i ≤ t.size ∧ arcsGo ((bs t).drop i) out n sm = R) ∨ (i = t.size + 1 ∧ R = some out))))
    case atStart => exact ⟨0, [], 0, false, rfl, rfl, rfl, Lib.hid ⟨rfl, by omega, by omega, HO0.out.1, HO0.out.2, by simp, by simp, .inl ⟨Nat.zero_le _, HRR.out.symm⟩⟩⟩
    case round =>
      try clear hp
      obtain ⟨i, out, n, sm, rfl, rfl, rfl, HR⟩ := hrel
      obtain ⟨hg, n0, n1, ho, hb, hlen, hall, hst⟩ := HR.out
      have HK := Lib.hid (And.intro hg (And.intro ho (And.intro hb (And.intro hlen hall))))
      clear hg ho hb hlen hall HO0 HRR HR
      rcases hst with ⟨hi, hR⟩ | ⟨rfl, hR⟩
      · by_cases hi2 : i = t.size
        · subst hi2
          rw [List.drop_of_length_le (by rw [bs_length]; omega)] at hR
          cases sm with
          | false =>
            have HS := Lib.hid (show finA R = ([], false) by rw [← hR]; rfl)
            clear hR
            go_wp2
            go_ret2
            exact gotA HS.out (OwnU.nil _ _) HK.out.2.2.1
          | true =>
            obtain ⟨A, c0, rfl, hcc, hC⟩ := Kd.R_reads HK.out.2.1
            have HS := Lib.hid (show R = some (out ++ [n]) by rw [← hR]; rfl)
            clear hR hC
            go_wp2_with (at_builtin; refine app_u64s rfl (.tmp 37) (.tmp 39) 52 rfl Tryd.underlying52 infoU64 w.heap.size (.slice A out.length c0) out [n] (some ⟨wr.heap.size, 0, none⟩) 1 1 rfl rfl (Kd.R_alloc HK.out.2.1 _) (litU_C wr n) (by have := HK.out.2.2.1.size; simp; omega) (by have := HK.out.2.2.2.1; omega) ?_; intro v1 w3 ho3 hg3 hat3)
            go_roundg 0
            case measure =>
              have := HK.out.1
              omega
            case rel =>
              obtain ⟨hg, ho, hb, hlen, hall⟩ := HK.out
              exact ⟨t.size + 1, out ++ [n], 0, false, by go_num, rfl, rfl, Lib.hid ⟨by omega, by omega, by omega, ho3, (hb.alloc hb.size _).grown hg3 (by have := hb.size; simp; omega) (fun k hk => OwnU.block ho k hk), by simp; omega, by intro x hx; rcases List.mem_append.1 hx with h' | h'; exact hall x h'; rw [List.mem_singleton.1 h']; omega, .inr ⟨rfl, HS.out⟩⟩⟩
        · have hil : i < t.size := by omega
          obtain ⟨c, l, hcl⟩ : ∃ c l, (bs t).drop i = c :: l := ⟨_, _, List.drop_eq_getElem_cons (by rw [bs_length]; exact hil)⟩
          obtain ⟨hit, hc, hdr⟩ := char_at t i c l hcl
          rw [hcl] at hR
          have hc0 : 0 ≤ c := by omega
          have hc1 : c ≤ 255 := by have := (t[i]'hit).toNat_lt; omega
          have hin : ((i : Int) == t.size) = false := beq_eq_false_iff_ne.2 (by omega)
          by_cases c46 : c = 46
          · subst c46
            cases sm with
            | false =>
              have HS := Lib.hid (show finA R = ([], false) by rw [← hR]; rfl)
              clear hR hcl hdr
              go_wp2
              go_ret2
              exact gotA HS.out (OwnU.nil _ _) HK.out.2.2.1
            | true =>
              obtain ⟨A, c0, rfl, hcc, hC⟩ := Kd.R_reads HK.out.2.1
              have HS := Lib.hid (show arcsGo ((bs t).drop (i + 1)) (out ++ [n]) 0 false = R by rw [← hR, hdr]; rfl)
              clear hR hcl hdr hC
              go_wp2_with (at_builtin; refine app_u64s rfl (.tmp 37) (.tmp 39) 52 rfl Tryd.underlying52 infoU64 w.heap.size (.slice A out.length c0) out [n] (some ⟨wr.heap.size, 0, none⟩) 1 1 rfl rfl (Kd.R_alloc HK.out.2.1 _) (litU_C wr n) (by have := HK.out.2.2.1.size; simp; omega) (by have := HK.out.2.2.2.1; omega) ?_; intro v1 w3 ho3 hg3 hat3)
              go_roundg (t.size + 1 - (i + 1))
              case measure =>
                have := HK.out.1
                omega
              case rel =>
                obtain ⟨hg, ho, hb, hlen, hall⟩ := HK.out
                exact ⟨i + 1, out ++ [n], 0, false, by go_num, rfl, rfl, Lib.hid ⟨by omega, by omega, by omega, ho3, (hb.alloc hb.size _).grown hg3 (by have := hb.size; simp; omega) (fun k hk => OwnU.block ho k hk), by simp; omega, by intro x hx; rcases List.mem_append.1 hx with h' | h'; exact hall x h'; rw [List.mem_singleton.1 h']; omega, .inl ⟨by omega, HS.out⟩⟩⟩
          · have h46' : (c == 46) = false := beq_eq_false_iff_ne.2 c46
            simp only [arcsGo, if_neg c46] at hR
            by_cases c48 : c < 48
            · rw [if_pos (.inl c48)] at hR
              have HS := Lib.hid (show finA R = ([], false) by rw [← hR]; rfl)
              clear hR hcl hdr
              go_wp2
              go_ret2
              exact gotA HS.out (OwnU.nil _ _) HK.out.2.2.1
            by_cases c57 : 57 < c
            · rw [if_pos (.inr (.inl c57))] at hR
              have HS := Lib.hid (show finA R = ([], false) by rw [← hR]; rfl)
              clear hR hcl hdr
              go_wp2
              go_ret2
              exact gotA HS.out (OwnU.nil _ _) HK.out.2.2.1
            have e1 : IntKind.u64.wrap (10 * n) = 10 * n := wraps_u64 _ (by omega) (by omega)
            have e2 : (c - 48) % 256 = c - 48 := by omega
            have e3 : IntKind.u64.wrap (10 * n + (c - 48)) = 10 * n + (c - 48) := wraps_u64 _ (by omega) (by omega)
            have hgo : (¬ (sm = true ∧ n = 0)) → ¬ (10 * n + (c - 48) ≥ 4294967296) → arcsGo ((bs t).drop (i + 1)) out (10 * n + (c - 48)) true = R := by
              intro h1 h2
              rw [if_neg (by rintro (h | h | h | h); exact absurd h c48; exact absurd h c57; exact h1 h; exact h2 h)] at hR
              rw [hdr]; exact hR
            have hno : ((sm = true ∧ n = 0) ∨ 10 * n + (c - 48) ≥ 4294967296) → finA R = ([], false) := by
              intro h1
              rw [if_pos (.inr (.inr h1))] at hR
              rw [← hR]; rfl
            have HGO := Lib.hid (And.intro hgo hno)
            clear hgo hno hR hcl hdr
            cases sm with
            | true =>
              by_cases hn : n = 0
              · have hnb : (n == 0) = true := beq_iff_eq.2 hn
                clear hn e1 e3
                go_wp2
                go_ret2
                exact gotA (HGO.out.2 (.inl (by first | exact ⟨rfl, beq_iff_eq.1 hnb⟩ | exact ⟨trivial, beq_iff_eq.1 hnb⟩))) (OwnU.nil _ _) HK.out.2.2.1
              · have hnb : (n == 0) = false := beq_eq_false_iff_ne.2 hn
                by_cases hbig : 4294967296 ≤ 10 * n + (c - 48)
                · go_wp2
                  go_ret2
                  exact gotA (HGO.out.2 (.inr hbig)) (OwnU.nil _ _) HK.out.2.2.1
                · go_wp2
                  go_roundg (t.size + 1 - (i + 1))
                  case measure =>
                    have := HK.out.1
                    omega
                  case rel =>
                    obtain ⟨hg, ho, hb, hlen, hall⟩ := HK.out
                    exact ⟨i + 1, out, 10 * n + (c - 48), true, by go_num, rfl, rfl, Lib.hid ⟨by omega, by omega, by omega, ho, hb, by omega, hall, .inl ⟨by omega, HGO.out.1 (by simp; exact hn) (by omega)⟩⟩⟩
            | false =>
              by_cases hbig : 4294967296 ≤ 10 * n + (c - 48)
              · go_wp2
                go_ret2
                exact gotA (HGO.out.2 (.inr hbig)) (OwnU.nil _ _) HK.out.2.2.1
              · go_wp2
                go_roundg (t.size + 1 - (i + 1))
                case measure =>
                  have := HK.out.1
                  omega
                case rel =>
                  obtain ⟨hg, ho, hb, hlen, hall⟩ := HK.out
                  exact ⟨i + 1, out, 10 * n + (c - 48), true, by go_num, rfl, rfl, Lib.hid ⟨by omega, by omega, by omega, ho, hb, by omega, hall, .inl ⟨by omega, HGO.out.1 (by simp) (by omega)⟩⟩⟩
      · have HS := Lib.hid hR
        clear hR
        obtain ⟨A, c, rfl, hcc, hC⟩ := Kd.R_reads HK.out.2.1
        obtain ⟨hg, ho, hb, hlen, hall⟩ := HK.out
        have hRo := HS.out
        by_cases hl2 : 2 ≤ (out.length : Int)
        · obtain ⟨ad, rfl, g0⟩ := Kd.at_int hC 0 (by omega) (by omega)
          obtain ⟨ad', ea, g1⟩ := Kd.at_int hC 1 (by omega) (by omega)
          obtain rfl : ad = ad' := by injection ea
          rw [show (0 : Int).toNat = 0 from rfl, Addr.add_zero'] at g0
          simp only [show (1 : Int).toNat = 1 from rfl, Go.Addr.add, Nat.reduceEqDiff, if_false] at g1
          have m0 : (0 < out.length) = True := eq_true (by omega)
          have m1 : (1 < out.length) = True := eq_true (by omega)
          by_cases hok : arcsOk out
          · have hok' := hok
            obtain ⟨-, o2, o3, o4⟩ := hok
            have o2' : (out.length : Int) ≤ 60 := by omega
            have HH := Lib.hid (And.intro ho (And.intro hb (And.intro (show finA R = (out, decide (((sName out).length : Int) ≤ 100)) by rw [hRo]; simp [finA, hok']; omega) (And.intro hall hC))))
            clear hok' ho hb hRo hall hC ea hg hlen HK HS
            go_wp2_with fail
            refine (specName_any out (by omega) o2 HH.out.2.2.2.1 _ c hcc wr HH.out.2.2.2.2).mono ?_
            rintro e w2 ⟨v2, rfl, ho2, hb2⟩
            obtain ⟨A2, c2, rfl, hcc2, hC2⟩ := Kd.R_reads ho2
            have H2 := Lib.hid (And.intro (Kd.R_below HH.out.1 hb2) (below_step HH.out.2.1 hb2))
            clear ho2 hb2 hC2
            go_wp2
            go_ret2
            exact gotA HH.out.2.2.1 H2.out.1 H2.out.2
          · have HH := Lib.hid (And.intro ho (And.intro hb (show finA R = (out, false) by rw [hRo, finA_no _ hok])))
            have hno := Lib.hid hok
            clear ho hb hRo hall hC ea hg hlen HK HS hok
            go_wp2_with fail
            all_goals first | exact absurd (show arcsOk out from ⟨by omega, by omega, by assumption, by assumption⟩) hno.out | (go_ret2; exact gotA HH.out.2.2 HH.out.1 HH.out.2.1)
        · have HH := Lib.hid (And.intro ho (And.intro hb (show finA R = (out, false) by rw [hRo, finA_no _ (by unfold arcsOk; omega)])))
          clear ho hb hRo hall hC hg hlen HK HS
          go_wp2
          go_ret2
          exact gotA HH.out.2.2 HH.out.1 HH.out.2.1
end Go.Proofs.YtangjgclpipjdaaDoor
set_option linter.unusedVariables false
namespace Go.Proofs.YtangjgclpipjdaaDoor
open Go.RowKit Go.Proofs.YtangjgclpipjdaaDoorW.PrintWords Go.Proofs.YtangjgclpipjdaaDoorW.PrintLast Go.Proofs.YtangjgclpipjdaaDoorW.PrintMore
def ofGo : List Int → List Int → Int → Bool → Option (List Int × Bool)
  | [], out, _, op => some (out, op)
  | x :: l, out, n, op =>
    if (op = false ∧ x = 128) ∨ n ≥ 33554432 then none
    else if x ≤ 127 then ofGo l (out ++ [n * 128 + x % 128]) 0 false
    else ofGo l out (n * 128 + x % 128) true
def sOf (b : List Int) : List Int × Bool :=
  if b.length = 0 ∨ rd b 0 ≥ 120 ∨ b.length > 300 then ([], false)
  else match ofGo (b.drop 1) [rd b 0 / 40, rd b 0 % 40] 0 false with
    | none => ([], false)
    | some (out, op) => (out, !op && decide ((out.length : Int) ≤ 60))
/-- The bytes of a number that goes on. -/
def cont (n : Int) : List Int :=
  if n < 128 then [n + 128] else if n < 16384 then [n / 128 + 128, n % 128 + 128] else if n < 2097152 then [n / 16384 + 128, n / 128 % 128 + 128, n % 128 + 128]
  else [n / 2097152 + 128, n / 16384 % 128 + 128, n / 128 % 128 + 128, n % 128 + 128]
theorem cont_last (n x : Int) (h0 : 1 ≤ n) (h1 : n < 33554432) (x0 : 0 ≤ x) (x1 : x ≤ 127) : cont n ++ [x] = b128 (n * 128 + x) := by
  unfold cont b128
  have e1 : (n * 128 + x) / 128 = n := by omega
  have e2 : (n * 128 + x) / 16384 = n / 128 := by omega
  have e3 : (n * 128 + x) / 2097152 = n / 16384 := by omega
  have e4 : (n * 128 + x) / 268435456 = n / 2097152 := by omega
  have e5 : (n * 128 + x) % 128 = x := by omega
  rw [e1, e2, e3, e4, e5, if_neg (by omega : ¬ n * 128 + x < 128)]
  by_cases c1 : n < 128
  · rw [if_pos c1, if_pos (by omega)]; simp
  rw [if_neg c1, if_neg (by omega : ¬ n * 128 + x < 16384)]
  by_cases c2 : n < 16384
  · rw [if_pos c2, if_pos (by omega)]; simp
  rw [if_neg c2, if_neg (by omega : ¬ n * 128 + x < 2097152)]
  by_cases c3 : n < 2097152
  · rw [if_pos c3, if_pos (by omega)]; simp
  rw [if_neg c3, if_neg (by omega : ¬ n * 128 + x < 268435456)]
  simp
theorem cont_more (n x : Int) (h0 : 1 ≤ n) (h1 : n * 128 + (x - 128) < 33554432) (x0 : 128 ≤ x) (x1 : x ≤ 255) : cont n ++ [x] = cont (n * 128 + (x - 128)) := by
  unfold cont
  have e1 : (n * 128 + (x - 128)) / 128 = n := by omega
  have e2 : (n * 128 + (x - 128)) / 16384 = n / 128 := by omega
  have e3 : (n * 128 + (x - 128)) / 2097152 = n / 16384 := by omega
  have e5 : (n * 128 + (x - 128)) % 128 + 128 = x := by omega
  rw [e1, e2, e3, e5, if_neg (by omega : ¬ n * 128 + (x - 128) < 128)]
  by_cases c1 : n < 128
  · rw [if_pos c1, if_pos (by omega)]; simp
  rw [if_neg c1, if_neg (by omega : ¬ n * 128 + (x - 128) < 16384)]
  by_cases c2 : n < 16384
  · rw [if_pos c2, if_pos (by omega)]; simp
  rw [if_neg c2, if_pos (by omega : n < 2097152), if_neg (by omega : ¬ n * 128 + (x - 128) < 2097152)]
  simp
def Bnd (l : List Int) : Prop := ∀ x ∈ l, 0 ≤ x ∧ x ≤ 4294967295
theorem ofGo_text (l : List Int) (hb : IsB l) : (∀ out r, ofGo l out 0 false = some (r, false) → ∃ rest, r = out ++ rest ∧ l = b128s rest ∧ Bnd rest) ∧
    (∀ out n r, 1 ≤ n → n ≤ 4294967295 → ofGo l out n true = some (r, false) → n < 33554432 ∧ ∃ a rest, r = out ++ a :: rest ∧ cont n ++ l = b128 a ++ b128s rest ∧ Bnd (a :: rest)) := by
  induction l with
  | nil =>
    refine ⟨?_, ?_⟩
    · intro out r h
      simp [ofGo] at h
      exact ⟨[], by simp [h], rfl, fun x hx => by simp at hx⟩
    · intro out n r h0 h1 h
      simp [ofGo] at h
  | cons x l ih =>
    have hx := hb x (by simp)
    obtain ⟨ih1, ih2⟩ := ih (fun y hy => hb y (by simp [hy]))
    have bcons : ∀ a rest, 0 ≤ a → a ≤ 4294967295 → Bnd rest → Bnd (a :: rest) := by
      intro a rest h0 h1 h y hy
      rcases List.mem_cons.1 hy with rfl | h'
      · exact ⟨h0, h1⟩
      · exact h y h'
    refine ⟨?_, ?_⟩
    · intro out r h
      simp only [ofGo] at h
      by_cases c : x = 128
      · rw [if_pos (.inl (by simp [c]))] at h; cases h
      rw [if_neg (by rintro (h' | h'); exact c h'.2; exact absurd h' (by decide))] at h
      by_cases c2 : x ≤ 127
      · rw [if_pos c2] at h
        obtain ⟨rest, h1, h2, h3⟩ := ih1 _ _ h
        refine ⟨(0 * 128 + x % 128) :: rest, by rw [h1]; simp, ?_, bcons _ _ (by omega) (by omega) h3⟩
        rw [b128s_cons, ← h2, show (0 : Int) * 128 + x % 128 = x by omega]
        unfold b128
        rw [if_pos (by omega)]
        rfl
      · rw [if_neg c2] at h
        obtain ⟨hlt, a, rest, h1, h2, h3⟩ := ih2 _ _ _ (by omega) (by omega) h
        refine ⟨a :: rest, h1, ?_, h3⟩
        rw [b128s_cons, ← h2]
        unfold cont
        rw [if_pos (by omega), show (0 : Int) * 128 + x % 128 + 128 = x by omega]
        rfl
    · intro out n r h0 h1 h
      simp only [ofGo] at h
      by_cases c : n ≥ 33554432
      · rw [if_pos (.inr c)] at h; cases h
      rw [if_neg (by rintro (h' | h'); exact absurd h'.1 (by simp); exact c h')] at h
      refine ⟨by omega, ?_⟩
      by_cases c2 : x ≤ 127
      · rw [if_pos c2] at h
        obtain ⟨rest, e1, e2, e3⟩ := ih1 _ _ h
        refine ⟨n * 128 + x % 128, rest, by rw [e1]; simp, ?_, bcons _ _ (by omega) (by omega) e3⟩
        rw [← e2, show x % 128 = x by omega, ← cont_last n x h0 (by omega) hx.1 c2]
        simp
      · rw [if_neg c2] at h
        obtain ⟨hlt, a, rest, e1, e2, e3⟩ := ih2 _ _ _ (by omega) (by omega) h
        refine ⟨a, rest, e1, ?_, e3⟩
        rw [show x % 128 = x - 128 by omega] at e2 hlt
        rw [← e2, ← cont_more n x h0 hlt (by omega) hx.2]
        simp
/-- The content that is taken is that of its name. -/
theorem sOf_text (b : List Int) (hb : IsB b) (arcs : List Int) (h : sOf b = (arcs, true)) : ∃ x y rest, arcs = x :: y :: rest ∧ b = sName arcs ∧ 0 ≤ x ∧ x ≤ 2 ∧ 0 ≤ y ∧ y < 40 ∧ Bnd rest ∧ arcs.length ≤ 60 := by
  unfold sOf at h
  by_cases c : b.length = 0 ∨ rd b 0 ≥ 120 ∨ b.length > 300
  · rw [if_pos c] at h; simp at h
  rw [if_neg c] at h
  obtain ⟨v, l, rfl⟩ : ∃ v l, b = v :: l := List.exists_cons_of_ne_nil (by rintro rfl; exact c (.inl rfl))
  have hv : rd (v :: l) 0 = v := rfl
  rw [hv] at h c
  have hv0 := hb v (by simp)
  cases e : ofGo l [v / 40, v % 40] 0 false with
  | none => rw [show (v :: l).drop 1 = l from rfl, e] at h; simp at h
  | some p =>
    obtain ⟨out, op⟩ := p
    rw [show (v :: l).drop 1 = l from rfl, e] at h
    simp at h
    obtain ⟨rfl, rfl, h60⟩ := h
    obtain ⟨rest, e1, e2, e3⟩ := (ofGo_text l (fun y hy => hb y (by simp [hy]))).1 _ _ e
    refine ⟨v / 40, v % 40, rest, by rw [e1]; rfl, ?_, by omega, by omega, by omega, by omega, e3, by omega⟩
    rw [e1]
    show v :: l = ((40 * (v / 40) + v % 40) % 256) :: b128s rest
    rw [← e2]
    congr 1
    omega
end Go.Proofs.YtangjgclpipjdaaDoor
set_option linter.unusedVariables false
namespace Go.Proofs.YtangjgclpipjdaaDoor
open Go.RowKit Go.Proofs.YtangjgclpipjdaaDoorW.PrintWords Go.Proofs.YtangjgclpipjdaaDoorW.PrintLast Go.Proofs.YtangjgclpipjdaaDoorW.PrintMore
theorem mInt32_isB (n : Int) : IsB (mInt32 n) := by
  intro x hx
  unfold mInt32 at hx
  split at hx
  · simp at hx; omega
  split at hx
  · simp at hx; omega
  split at hx
  · simp at hx; omega
  · simp at hx; omega
theorem sVal_mInt32 (n : Int) (h0 : -2147483648 ≤ n) (h1 : n ≤ 2147483647) : sVal (mInt32 n) = n := by
  unfold sVal mInt32
  split
  · simp only [Go.Proofs.YtangjgclpipjdaaDoorW.PrintWords.rd, beVal, Int.toNat_zero, List.getD_cons_zero]
    unfold wrap64
    split <;> omega
  split
  · simp only [Go.Proofs.YtangjgclpipjdaaDoorW.PrintWords.rd, beVal, Int.toNat_zero, List.getD_cons_zero]
    unfold wrap64
    split <;> omega
  split
  · simp only [Go.Proofs.YtangjgclpipjdaaDoorW.PrintWords.rd, beVal, Int.toNat_zero, List.getD_cons_zero]
    unfold wrap64
    split <;> omega
  · simp only [Go.Proofs.YtangjgclpipjdaaDoorW.PrintWords.rd, beVal, Int.toNat_zero, List.getD_cons_zero]
    unfold wrap64
    split <;> omega
theorem bs_isB (s : ByteArray) : IsB (bs s) := by
  intro x hx
  unfold bs at hx
  obtain ⟨b, -, rfl⟩ := List.mem_map.1 hx
  have := b.toNat_lt
  omega
theorem b128_isB (n : Int) (h0 : 0 ≤ n) (h1 : n ≤ 4294967295) : IsB (b128 n) := by
  intro x hx
  unfold b128 at hx
  split at hx
  · simp at hx; omega
  split at hx
  · simp at hx; omega
  split at hx
  · simp at hx; omega
  split at hx
  · simp at hx; omega
  · simp at hx; omega
theorem b128s_isB (l : List Int) (h : ∀ x ∈ l, 0 ≤ x ∧ x ≤ 4294967295) : IsB (b128s l) := by
  induction l with
  | nil => intro x hx; simp [b128s] at hx
  | cons a l ih =>
    rw [b128s_cons]
    have ha := h a (by simp)
    exact isB_append (b128_isB a ha.1 ha.2) (ih (fun x hx => h x (by simp [hx])))
theorem sName_isB (arcs : List Int) (h : ∀ x ∈ arcs, 0 ≤ x ∧ x ≤ 4294967295) : IsB (sName arcs) := by
  unfold sName
  exact isB_cons (by omega) (by omega) (b128s_isB _ (fun x hx => h x (List.mem_of_mem_drop hx)))
theorem uBytes_isB' (n : Int) (h0 : 0 ≤ n) (h1 : n ≤ 18446744073709551615) : IsB (uBytes n) := by
  intro x hx
  obtain ⟨i, hi, rfl⟩ := List.getElem_of_mem hx
  have := uBytes_isB n h0 h1 (i : Int)
  unfold Go.Proofs.YtangjgclpipjdaaDoorW.PrintWords.rd at this
  rw [Int.toNat_natCast, List.getD_eq_getElem?_getD, List.getElem?_eq_getElem hi] at this
  exact this
theorem sUint_isB (n : Int) (h0 : 0 ≤ n) (h1 : n ≤ 18446744073709551615) : IsB (sUint n) := by
  unfold sUint
  split
  · exact isB_cons (by omega) (by omega) (uBytes_isB' n h0 h1)
  · exact uBytes_isB' n h0 h1
theorem beVal_uBytes (n : Int) (h0 : 0 ≤ n) (h1 : n ≤ 18446744073709551615) : beVal (uBytes n) 0 = n := by
  unfold uBytes
  repeat' split
  all_goals simp only [beVal]
  all_goals omega
theorem sUint_val (n : Int) (h0 : 0 ≤ n) (h1 : n ≤ 18446744073709551615) : beVal (sUint n) 0 = n ∧ 1 ≤ (sUint n).length ∧ ((sUint n).length ≤ 8 ∨ ((sUint n).length = 9 ∧ rd (sUint n) 0 = 0)) := by
  have hb := beVal_uBytes n h0 h1
  have hl := uBytes_len n
  unfold sUint
  split
  · refine ⟨?_, by simp, ?_⟩
    · show beVal (uBytes n) (0 * 256 + 0) = n
      simpa using hb
    · by_cases h : (uBytes n).length = 8
      · exact .inr ⟨by simp [h], rfl⟩
      · exact .inl (by simp only [List.length_cons]; omega)
  · exact ⟨hb, hl.1, .inl hl.2⟩
theorem Cont.isB {ty i u : Int} {tx : ByteArray} {c : List Int} {i' u' : Int} {tx' : List Int} (h : Cont ty i u (bs tx) c i' u' tx') (u0 : 0 ≤ u) (u1 : u ≤ 18446744073709551615) : IsB c := by
  cases h with
  | int h h0 h1 => exact mInt32_isB i
  | oct h h0 => exact bs_isB tx
  | null h => intro x hx; simp at hx
  | oid h arcs ha => exact sName_isB arcs (sArcs_bounds _ _ ha)
  | addr h out ha => intro x hx; exact (sAddr_text _ _ ha).2.2 x hx
  | u32 h h0 => exact sUint_isB u u0 u1
  | u64 h => exact sUint_isB u u0 u1
end Go.Proofs.YtangjgclpipjdaaDoor
set_option linter.unusedVariables false
namespace Go.Proofs.YtangjgclpipjdaaDoor
open Go.RowKit Go.Proofs.YtangjgclpipjdaaDoorW.PrintWords Go.Proofs.YtangjgclpipjdaaDoorW.PrintLast Go.Proofs.YtangjgclpipjdaaDoorW.PrintMore
theorem beVal_take (xs : List Int) (k : Nat) (h : k < xs.length) (a : Int) : beVal (xs.take (k + 1)) a = beVal (xs.take k) a * 256 + rd xs k := by
  rw [List.take_succ_eq_append_getElem h, beVal_snoc]
  congr 1
  unfold Go.Proofs.YtangjgclpipjdaaDoorW.PrintWords.rd
  rw [Int.toNat_natCast, List.getD_eq_getElem?_getD, List.getElem?_eq_getElem h]
  rfl
theorem beVal_app (l m : List Int) : ∀ a, beVal (l ++ m) a = beVal m (beVal l a) := by
  induction l with
  | nil => intro a; rfl
  | cons x l ih => intro a; exact ih _
theorem beVal_take_le (xs : List Int) (hb : IsB xs) (k : Nat) : 0 ≤ beVal (xs.take k) 0 ∧ beVal (xs.take k) 0 ≤ beVal xs 0 := by
  have h1 := beVal_bound _ (isB_take hb k) 0 (by omega)
  have h2 := beVal_bound _ (isB_drop hb k) 0 (by omega)
  refine ⟨h1.1, ?_⟩
  have e : beVal xs 0 = beVal (xs.take k) 0 * 256 ^ (xs.drop k).length + beVal (xs.drop k) 0 := by
    rw [← beVal_start, ← beVal_app, List.take_append_drop]
  rw [e]
  have hp : (1 : Int) ≤ 256 ^ (xs.drop k).length := by
    have : (0 : Int) < 256 ^ (xs.drop k).length := Int.pow_pos (by decide)
    omega
  have := Int.mul_le_mul_of_nonneg_left hp h1.1
  omega
end Go.Proofs.YtangjgclpipjdaaDoor
set_option linter.unusedVariables false
namespace Go.Proofs.YtangjgclpipjdaaDoor
open Go.RowKit Go.Proofs.YtangjgclpipjdaaDoorW.PrintWords Go.Proofs.YtangjgclpipjdaaDoorW.PrintLast Go.Proofs.YtangjgclpipjdaaDoorW.PrintMore
theorem ofUint_rows (xs : List Int) (hb : IsB xs) (h8 : xs.length ≤ 8) (hv : beVal xs 0 < 18446744073709551616) (m : Nat) : ∀ k i, xs.length = i + m → m + 1 ≤ k →
    PFnValue.spec_OfUint.l0 k (beVal (xs.take i) 0) xs xs.length (i : Nat) = some (beVal xs 0, true) := by
  induction m with
  | zero =>
    intro k i hi hk
    obtain ⟨k, rfl⟩ : ∃ j, k = j + 1 := ⟨k - 1, by omega⟩
    rw [PFnValue.spec_OfUint.l0, if_neg (by omega), List.take_of_length_le (by omega)]
  | succ m ih =>
    intro k i hi hk
    obtain ⟨k, rfl⟩ : ∃ j, k = j + 1 := ⟨k - 1, by omega⟩
    have hbd := hb.rd i
    have h0 := (beVal_take_le xs hb i).1
    have h1 := (beVal_take_le xs hb (i + 1)).2
    have e := beVal_take xs i (by omega) 0
    rw [PFnValue.spec_OfUint.l0, if_pos (by omega), if_pos (by omega), if_pos (by omega), wraps_u64 (rd xs i) hbd.1 (by omega), wraps_u64 _ (by omega) (by omega), u64_or_low _ _ (by omega) hbd.1 (by omega) (by omega) (by omega),
      ← e, show wrap64 ((i : Int) + 1) = ((i + 1 : Nat) : Int) by unfold wrap64; omega]
    exact ih k (i + 1) (by omega) (by omega)
/-- The bytes of the number: without a nought ahead of eight. -/
def uPart (xs : List Int) : List Int := if xs.length = 9 ∧ rd xs 0 = 0 then xs.drop 1 else xs
theorem ofUint_eq (xs : List Int) (hb : IsB xs) (h1 : 1 ≤ (uPart xs).length) (h8 : (uPart xs).length ≤ 8) : PFnValue.spec_OfUint.f 14 xs = some (beVal (uPart xs) 0, true) := by
  have hbu : IsB (uPart xs) := by unfold uPart; split; exact isB_drop hb 1; exact hb
  have hv : beVal (uPart xs) 0 < 18446744073709551616 := by
    have h := beVal_bound _ hbu 0 (by omega)
    have : (256 : Int) ^ (uPart xs).length ≤ 256 ^ 8 := by
      have : (uPart xs).length = 1 ∨ (uPart xs).length = 2 ∨ (uPart xs).length = 3 ∨ (uPart xs).length = 4 ∨ (uPart xs).length = 5 ∨ (uPart xs).length = 6 ∨ (uPart xs).length = 7 ∨ (uPart xs).length = 8 := by omega
      rcases this with e | e | e | e | e | e | e | e <;> rw [e] <;> decide
    omega
  have fin : ∀ k, 11 ≤ k → PFnValue.spec_OfUint.j1 k (uPart xs) = some (beVal (uPart xs) 0, true) := by
    intro k hk
    obtain ⟨k, rfl⟩ : ∃ j, k = j + 2 := ⟨k - 2, by omega⟩
    rw [PFnValue.spec_OfUint.j1, if_neg (by omega), show decide (((uPart xs).length : Int) > 8) = false by simp; omega, PFnValue.spec_OfUint.j2, if_neg (by simp)]
    have := ofUint_rows (uPart xs) hbu h8 hv (uPart xs).length k 0 (by omega) (by omega)
    simpa [beVal] using this
  unfold PFnValue.spec_OfUint.f
  by_cases c9 : xs.length = 9
  · rw [if_pos (by omega), if_pos (by omega), PFnValue.spec_OfUint.j0]
    by_cases cz : rd xs 0 = 0
    · have e : uPart xs = xs.drop 1 := if_pos ⟨c9, cz⟩
      rw [if_pos (by simp [cz]), if_pos (by omega), ← e]
      exact fin 13 (by omega)
    · have e : uPart xs = xs := if_neg (by simp [cz])
      rw [e] at h8; omega
  · have e : uPart xs = xs := if_neg (by simp [c9])
    rw [if_neg (by omega), PFnValue.spec_OfUint.j0, if_neg (by simp)]
    have := fin 13 (by omega)
    rw [e] at this ⊢
    exact this
theorem ofUint_no (xs : List Int) (h : ¬ (1 ≤ (uPart xs).length ∧ (uPart xs).length ≤ 8)) : PFnValue.spec_OfUint.f 14 xs = some (0, false) := by
  have fin : ∀ k, 11 ≤ k → PFnValue.spec_OfUint.j1 k (uPart xs) = some (0, false) := by
    intro k hk
    obtain ⟨k, rfl⟩ : ∃ j, k = j + 2 := ⟨k - 2, by omega⟩
    rw [PFnValue.spec_OfUint.j1]
    by_cases c : (uPart xs).length = 0
    · rw [if_pos (by omega), PFnValue.spec_OfUint.j2, if_pos rfl]
    · rw [if_neg (by omega), show decide (((uPart xs).length : Int) > 8) = true by simp; omega, PFnValue.spec_OfUint.j2, if_pos rfl]
  unfold PFnValue.spec_OfUint.f
  by_cases c9 : xs.length = 9
  · rw [if_pos (by omega), if_pos (by omega), PFnValue.spec_OfUint.j0]
    by_cases cz : rd xs 0 = 0
    · have e : uPart xs = xs.drop 1 := if_pos ⟨c9, cz⟩
      rw [if_pos (by simp [cz]), if_pos (by omega), ← e]
      exact fin 13 (by omega)
    · have e : uPart xs = xs := if_neg (by simp [cz])
      rw [if_neg (by simp [cz])]
      have := fin 13 (by omega)
      rw [e] at this
      exact this
  · have e : uPart xs = xs := if_neg (by simp [c9])
    rw [if_neg (by omega), PFnValue.spec_OfUint.j0, if_neg (by simp)]
    have := fin 13 (by omega)
    rw [e] at this
    exact this
end Go.Proofs.YtangjgclpipjdaaDoor
set_option linter.unusedVariables false
namespace Go.Proofs.YtangjgclpipjdaaDoor
open Go.RowKit Go.Proofs.YtangjgclpipjdaaDoorW.PrintWords Go.Proofs.YtangjgclpipjdaaDoorW.PrintLast Go.Proofs.YtangjgclpipjdaaDoorW.PrintMore
theorem ofGo_lo (x : Int) (l out : List Int) (n : Int) (op : Bool) (h0 : 0 ≤ x) (h1 : x ≤ 127) (hn : n < 33554432) : ofGo (x :: l) out n op = ofGo l (out ++ [n * 128 + x]) 0 false := by
  simp only [ofGo]
  rw [if_neg (by rintro (h | h); omega; omega), if_pos h1, show x % 128 = x by omega]
theorem ofGo_hi (x : Int) (l out : List Int) (h0 : 129 ≤ x) (h1 : x ≤ 255) : ofGo (x :: l) out 0 false = ofGo l out (x - 128) true := by
  simp only [ofGo]
  rw [if_neg (by rintro (h | h); omega; omega), if_neg (by omega), show (0 : Int) * 128 + x % 128 = x - 128 by omega]
theorem ofGo_on (x : Int) (l out : List Int) (n : Int) (h0 : 128 ≤ x) (h1 : x ≤ 255) (hn : n < 33554432) : ofGo (x :: l) out n true = ofGo l out (n * 128 + (x - 128)) true := by
  simp only [ofGo]
  rw [if_neg (by rintro (h | h); simp at h; omega), if_neg (by omega), show x % 128 = x - 128 by omega]
theorem ofGo_b128 (a : Int) (h0 : 0 ≤ a) (h1 : a ≤ 4294967295) (l out : List Int) : ofGo (b128 a ++ l) out 0 false = ofGo l (out ++ [a]) 0 false := by
  unfold b128
  split
  · rw [List.cons_append, List.nil_append, ofGo_lo _ _ _ _ _ h0 (by omega) (by omega)]
    simp
  split
  · simp only [List.cons_append, List.nil_append]
    rw [ofGo_hi _ _ _ (by omega) (by omega), ofGo_lo _ _ _ _ _ (by omega) (by omega) (by omega), show (a / 128 + 128 - 128) * 128 + a % 128 = a by omega]
  split
  · simp only [List.cons_append, List.nil_append]
    rw [ofGo_hi _ _ _ (by omega) (by omega), ofGo_on _ _ _ _ (by omega) (by omega) (by omega), ofGo_lo _ _ _ _ _ (by omega) (by omega) (by omega)]
    rw [show ((a / 16384 + 128 - 128) * 128 + (a / 128 % 128 + 128 - 128)) * 128 + a % 128 = a by omega]
  split
  · simp only [List.cons_append, List.nil_append]
    rw [ofGo_hi _ _ _ (by omega) (by omega), ofGo_on _ _ _ _ (by omega) (by omega) (by omega), ofGo_on _ _ _ _ (by omega) (by omega) (by omega), ofGo_lo _ _ _ _ _ (by omega) (by omega) (by omega)]
    rw [show (((a / 2097152 + 128 - 128) * 128 + (a / 16384 % 128 + 128 - 128)) * 128 + (a / 128 % 128 + 128 - 128)) * 128 + a % 128 = a by omega]
  · simp only [List.cons_append, List.nil_append]
    rw [ofGo_hi _ _ _ (by omega) (by omega), ofGo_on _ _ _ _ (by omega) (by omega) (by omega), ofGo_on _ _ _ _ (by omega) (by omega) (by omega), ofGo_on _ _ _ _ (by omega) (by omega) (by omega), ofGo_lo _ _ _ _ _ (by omega) (by omega) (by omega)]
    rw [show ((((a / 268435456 + 128 - 128) * 128 + (a / 2097152 % 128 + 128 - 128)) * 128 + (a / 16384 % 128 + 128 - 128)) * 128 + (a / 128 % 128 + 128 - 128)) * 128 + a % 128 = a by omega]
theorem ofGo_b128s (rest : List Int) (h : Bnd rest) : ∀ out, ofGo (b128s rest) out 0 false = some (out ++ rest, false) := by
  induction rest with
  | nil => intro out; simp [b128s, ofGo]
  | cons a l ih =>
    intro out
    have ha := h a (by simp)
    rw [b128s_cons, ofGo_b128 a ha.1 ha.2, ih (fun x hx => h x (by simp [hx]))]
    simp
theorem sOf_name (arcs : List Int) (h : arcsOk arcs) (hb : ∀ x ∈ arcs, 0 ≤ x ∧ x ≤ 4294967295) (hl : (sName arcs).length ≤ 300) : sOf (sName arcs) = (arcs, true) := by
  obtain ⟨h2, h60, h0, h1⟩ := h
  obtain ⟨x, y, rest, rfl⟩ : ∃ x y rest, arcs = x :: y :: rest := by
    match arcs, h2 with
    | x :: y :: rest, _ => exact ⟨x, y, rest, rfl⟩
  have hx := hb x (by simp)
  have hy := hb y (by simp)
  change x ≤ 2 at h0
  change y < 40 at h1
  have e : sName (x :: y :: rest) = (40 * x + y) :: b128s rest := by
    show ((40 * x + y) % 256) :: b128s rest = _
    rw [show (40 * x + y) % 256 = 40 * x + y by omega]
  rw [e] at hl ⊢
  have hr : rd ((40 * x + y) :: b128s rest) 0 = 40 * x + y := rfl
  unfold sOf
  rw [hr, if_neg (by simp at hl ⊢; omega), show (40 * x + y) / 40 = x by omega, show (40 * x + y) % 40 = y by omega]
  rw [show ((40 * x + y) :: b128s rest).drop 1 = b128s rest from rfl, ofGo_b128s rest (fun z hz => hb z (by simp [hz]))]
  simp at h60 ⊢
  omega
theorem sOf_asked {tx arcs : List Int} (h : sArcs tx = (arcs, true)) : sOf (sName arcs) = (arcs, true) := by
  obtain ⟨h1, h2, -⟩ := sArcs_text _ _ h
  exact sOf_name arcs h1 (sArcs_bounds _ _ h) (by omega)
/-- What is told of a content: number, number without a sign, text. -/
def sTold (tag : Int) (c : List Int) : Option (Int × Int × List Int) :=
  if tag = 2 then (if 1 ≤ c.length ∧ c.length ≤ 8 then some (sVal c, 0, []) else none)
  else if tag = 4 then some (0, 0, c)
  else if tag = 5 ∨ tag = 128 ∨ tag = 129 ∨ tag = 130 then (if c.length = 0 then some (0, 0, []) else none)
  else if tag = 6 then (if (sOf c).2 = true then some (0, 0, sDot (sOf c).1) else none)
  else if tag = 64 then (if c.length = 4 then some (0, 0, dots c) else none)
  else if tag = 65 ∨ tag = 66 ∨ tag = 67 ∨ tag = 70 then (if 1 ≤ (uPart c).length ∧ (uPart c).length ≤ 8 then some (0, beVal (uPart c) 0, []) else none)
  else none
theorem uPart_sUint (u : Int) (h0 : 0 ≤ u) (h1 : u ≤ 18446744073709551615) : 1 ≤ (uPart (sUint u)).length ∧ (uPart (sUint u)).length ≤ 8 ∧ beVal (uPart (sUint u)) 0 = u := by
  obtain ⟨a, b, c⟩ := sUint_val u h0 h1
  unfold uPart
  split
  · rename_i h
    obtain ⟨h9, hz⟩ := h
    cases hs : sUint u with
    | nil => rw [hs] at h9; simp at h9
    | cons x l =>
      rw [hs] at h9 hz a
      have hx : x = 0 := hz
      subst hx
      have e : beVal (0 :: l) 0 = beVal l 0 := rfl
      rw [e] at a
      simp at h9 ⊢
      exact ⟨by omega, by omega, a⟩
  · rename_i h
    refine ⟨b, ?_, a⟩
    rcases c with c | c
    · exact c
    · exact absurd c h
theorem Cont.sTold {ty i u : Int} {tx : ByteArray} {c : List Int} {i' u' : Int} {tx' : List Int} (h : Cont ty i u (bs tx) c i' u' tx') (u0 : 0 ≤ u) (u1 : u ≤ 18446744073709551615) : sTold ty c = some (i', u', tx') := by
  unfold Go.Proofs.YtangjgclpipjdaaDoor.sTold
  cases h with
  | int h h0 h1 =>
    have := mInt32_len i
    rw [if_pos h, if_pos (by omega), sVal_mInt32 i h0 h1]
  | oct h h0 => rw [if_neg (by omega), if_pos h]
  | null h => rw [if_neg (by omega), if_neg (by omega), if_pos h]; rfl
  | oid h arcs ha => rw [if_neg (by omega), if_neg (by omega), if_neg (by omega), if_pos h, sOf_asked ha]; rfl
  | addr h out ha =>
    obtain ⟨h4, hd, -⟩ := sAddr_text _ _ ha
    rw [if_neg (by omega), if_neg (by omega), if_neg (by omega), if_neg (by omega), if_pos h, if_pos h4, ← hd]
  | u32 h h0 =>
    obtain ⟨a, b, e⟩ := uPart_sUint u u0 u1
    rw [if_neg (by omega), if_neg (by omega), if_neg (by omega), if_neg (by omega), if_neg (by omega), if_pos (by omega), if_pos ⟨a, b⟩, e]
  | u64 h =>
    obtain ⟨a, b, e⟩ := uPart_sUint u u0 u1
    rw [if_neg (by omega), if_neg (by omega), if_neg (by omega), if_neg (by omega), if_neg (by omega), if_pos (by omega), if_pos ⟨a, b⟩, e]
def tellVar (arcs : List Int) (tag : Int) (rest : List Int) : Option (Int × Int × List Int) → Option ((List Int × Int × Int × Int × List Int) × List Int)
  | none => none
  | some (i, u, tx) => some ((arcs, tag, i, u, tx), rest)
/-- The reference's OfVar: arcs, type, number, number without a sign, text; what is behind. -/
def sOfVar (b : List Int) : Option ((List Int × Int × Int × Int × List Int) × List Int) :=
  match sNext b 48 with
  | none => none
  | some (inn, rest) => match sNext inn 6 with
    | none => none
    | some (nm, in2) => match sOpen in2 with
      | none => none
      | some (tag, c, left) =>
        if (sOf nm).2 = true ∧ left.length = 0 then tellVar (sOf nm).1 tag rest (sTold tag c) else none
end Go.Proofs.YtangjgclpipjdaaDoor
set_option linter.unusedVariables false
namespace Go.Proofs.YtangjgclpipjdaaDoor
open Go.RowKit Go.Proofs.YtangjgclpipjdaaDoorW.PrintWords Go.Proofs.YtangjgclpipjdaaDoorW.PrintLast Go.Proofs.YtangjgclpipjdaaDoorW.PrintMore
theorem and127c (x : Int) (h0 : 0 ≤ x) (h1 : x < 256) : bits .and .u8 x 127 = x % 128 := by
  have := bits_mask .u8 8 (by decide) wraps_u8 7 (by decide) x h0 (by omega)
  simpa using this
theorem or_low7 (n y : Int) (h0 : 0 ≤ n) (h1 : n < 33554432) (y0 : 0 ≤ y) (y1 : y < 128) : bits .or .u64 (n * 128) y = n * 128 + y := by
  rw [u64_or _ _ (by omega) (by omega) (by omega) (by omega), nat_join 7 _ _ (by omega) (by omega)]
  omega
set_option maxRecDepth 100000 in
set_option maxHeartbeats 4000000 in
theorem specOfName_any (A : Option Addr) (c : Nat) (xs : List Int) (hc : xs.length ≤ c) (hb : IsB xs) (w : World) (hC : Kd.C (Kd.int .u8) w A xs.length xs) :
    Calls Tryd.prog 30 #[.slice A xs.length c] w fun e w' => GotA w w' (sOf xs) e := by
  by_cases c0 : xs.length = 0
  · have he : sOf xs = ([], false) := if_pos (.inl c0)
    have HE := Lib.hid he
    have d0 : ((xs.length : Int) == 0) = true := beq_iff_eq.2 (by omega)
    clear he c0
    go_enter Tryd.func30, Tryd.ntmps30
    go_wp2
    go_ret2
    exact gotA HE.out (OwnU.nil _ _) (Below.refl _ _)
  · obtain ⟨ad, rfl, g0⟩ := Kd.at_int hC 0 (by omega) (by omega)
    rw [show (0 : Int).toNat = 0 from rfl, Addr.add_zero'] at g0
    have d0 : ((xs.length : Int) == 0) = false := beq_eq_false_iff_ne.2 (by omega)
    have m0 : (0 < xs.length) = True := eq_true (by omega)
    have hv := hb.rd 0
    by_cases c1 : 120 ≤ rd xs 0
    · have he : sOf xs = ([], false) := if_pos (.inr (.inl c1))
      have HE := Lib.hid he
      clear he c0
      go_enter Tryd.func30, Tryd.ntmps30
      go_wp2
      go_ret2
      exact gotA HE.out (OwnU.nil _ _) (Below.refl _ _)
    · by_cases c2 : 300 < (xs.length : Int)
      · have he : sOf xs = ([], false) := if_pos (.inr (.inr (by omega)))
        have HE := Lib.hid he
        clear he c0
        go_enter Tryd.func30, Tryd.ntmps30
        go_wp2
        go_ret2
        exact gotA HE.out (OwnU.nil _ _) (Below.refl _ _)
      · have HH := Lib.hid (And.intro hb hC)
        have hal : ∀ o, Below w.heap.size w (w.alloc o).drew := fun o => below_drew ((Below.refl _ _).alloc (Nat.le_refl _) o)
        have hl1 : 1 ≤ (xs.length : Int) := by omega
        have hso : sOf xs = match ofGo (xs.drop 1) [rd xs 0 / 40, rd xs 0 % 40] 0 false with
            | none => ([], false)
            | some (out, op) => (out, !op && decide ((out.length : Int) ≤ 60)) := if_neg (by rintro (h | h | h); exact c0 h; exact c1 h; omega)
        have HS := Lib.hid hso
        clear hb hC c0 hso
        have hv0 := hv.1
        have hv1 := hv.2
        obtain ⟨v, hvd⟩ : ∃ v, v = rd xs 0 := ⟨_, rfl⟩
        rw [← hvd] at g0 hv0 hv1 c1
        have HV := Lib.hid hvd
        clear hvd hv
        go_enter Tryd.func30, Tryd.ntmps30
        go_wp2
        go_region_held (fun w' => w'.cell? ad = some (.int .u8 v)) (first | exact g0 | exact ((hal _).cell (World.block_lt_of_cell? w _ g0)).trans g0) (fail)
        have w1 : IntKind.u64.wrap v = v := wraps_u64 _ hv0 (by omega)
        have w2 : v.tdiv 40 = v / 40 := Int.tdiv_eq_ediv_of_nonneg hv0
        have w3 : v.tmod 40 = v % 40 := Int.tmod_eq_emod_of_nonneg hv0
        have w4 : IntKind.u64.wrap (v / 40) = v / 40 := wraps_u64 _ (by omega) (by omega)
        rw [w1, w2, w3, w4]
        have ho0 : OwnU (w.alloc (.cells #[Value.int .u64 (v / 40), Value.int .u64 (v % 40)] 22)).drew w.heap.size (.slice (some ⟨w.heap.size, 0, none⟩) 2 2) [v / 40, v % 40] := Kd.R_drew (OwnU.lit w _ [v / 40, v % 40] (Nat.le_refl _) (by simp) (by rfl))
        obtain ⟨hb, hC⟩ := HH.out
        obtain ⟨i8, hi8, hz8⟩ := Option.map_eq_some_iff.1 infoB
        have hs8 : i8.size = 1 := by simp at hz8; exact hz8.2.1
        obtain ⟨A8, hcut, hA8, hC8⟩ := print_drop_of (P := Tryd.prog) (Value.int .u8) 0 26 5 .i64 Tryd.underlying26 hi8 hs8 (some ad) c xs 1 (by omega) (by omega) hc
        have hCl := Kd.C_of_reads (h1 := fun _ => rfl) (hA8 _ (Kd.reads_of_C hC))
        rw [show (1 : Int).toNat = 1 from rfl] at hcut hCl
        have hbl : IsB (xs.drop 1) := isB_drop hb 1
        have hll : (xs.drop 1).length ≤ 300 := by rw [List.length_drop]; omega
        have hso := HS.out
        rw [← HV.out] at hso
        have HL := Lib.hid (And.intro hbl (And.intro hCl (And.intro ho0 (And.intro (hal (.cells #[Value.int .u64 (v / 40), Value.int .u64 (v % 40)] 22)) hso))))
        clear hbl hCl ho0 hal hso HS hA8 hC8 hb hC HH hi8 hz8 hs8 w1 w2 w3 w4 g0 HV m0
        generalize xs.drop 1 = l at *
        go_wp2
        obtain ⟨R, hRR⟩ : ∃ R, R = ofGo l [v / 40, v % 40] 0 false := ⟨_, rfl⟩
        have hend : (R = none → sOf xs = ([], false)) ∧ ∀ out op, R = some (out, op) → sOf xs = (out, !op && decide ((out.length : Int) ≤ 60)) := by
          have h := HL.out.2.2.2.2
          rw [← hRR] at h
          exact ⟨fun e => by rw [h, e], fun out op e => by rw [h, e]⟩
        have HE := Lib.hid hend
        have HR0 := Lib.hid hRR
        clear hRR hend
        go_loopg [4, 5, 6, 37] l.length (fun k v4 v5 v6 v37 wr => ∃ (i : Nat) (out : List Int) (n : Int) (op : Bool), v37 = .int .i64 i ∧ v5 = .int .u64 n ∧ v6 = .bool op ∧ Hid (i ≤ l.length ∧ k = l.length - i ∧ 0 ≤ n ∧ n ≤ 4294967295 ∧ OwnU wr w.heap.size v4 out ∧ Below w.heap.size w wr ∧ ofGo (l.drop i) out n op = R ∧ out.length ≤ i + 2))
        case atStart => exact ⟨0, _, 0, false, rfl, rfl, rfl, Lib.hid ⟨Nat.zero_le _, rfl, by omega, by omega, HL.out.2.2.1, HL.out.2.2.2.1, HR0.out.symm, by simp⟩⟩
        case round =>
          obtain ⟨i, out, n, op, rfl, rfl, rfl, HR⟩ := hrel
          obtain ⟨hi, hk, n0, n1, ho, hbw, hR, hol⟩ := HR.out
          by_cases hil : (i : Int) < l.length
          · have hln : i < l.length := by omega
            obtain ⟨ad8, rfl, g⟩ := Kd.at_int (Kd.C_below HL.out.2.1 hbw) i (by omega) hil
            have hrd : rd l i = l[i] := by
              unfold Go.Proofs.YtangjgclpipjdaaDoorW.PrintWords.rd
              rw [Int.toNat_natCast, List.getD_eq_getElem?_getD, List.getElem?_eq_getElem hln]
              rfl
            rw [hrd, Int.toNat_natCast] at g
            rw [List.drop_eq_getElem_cons hln] at hR
            have hxb := HL.out.1 l[i] (List.getElem_mem hln)
            have HK := Lib.hid (And.intro hi (And.intro hk (And.intro ho (And.intro hbw hol))))
            clear hrd hi hk hbw hol HR HR0
            generalize l[i] = x at *
            have hlt : (i < l.length) = True := eq_true hln
            have x0 := hxb.1
            have x1 := hxb.2
            clear hln hxb
            simp only [ofGo] at hR
            obtain ⟨Ao, co, rfl, hco, hCo⟩ := Kd.R_reads ho
            clear hCo ho
            by_cases hbad : (op = false ∧ x = 128) ∨ n ≥ 33554432
            · have HS := Lib.hid (HE.out.1 (by rw [← hR, if_pos hbad]))
              clear hR
              have hx8 : op = false → n < 33554432 → (x == 128) = true := fun h1 h2 => beq_iff_eq.2 (by rcases hbad with h | h; exact h.2; omega)
              cases op with
              | true =>
                have hbig : 33554432 ≤ n := by rcases hbad with h | h; exact absurd h.1 (by simp); exact h
                clear hbad hx8
                go_wp2
                go_ret2
                exact gotA HS.out (OwnU.nil _ _) HK.out.2.2.2.1
              | false =>
                by_cases hx : x = 128
                · have hxb : (x == 128) = true := beq_iff_eq.2 hx
                  clear hbad hx8 hx
                  go_wp2
                  go_ret2
                  exact gotA HS.out (OwnU.nil _ _) HK.out.2.2.2.1
                · have hxb : (x == 128) = false := beq_eq_false_iff_ne.2 hx
                  have hbig : 33554432 ≤ n := by rcases hbad with h | h; exact absurd h.2 hx; exact h
                  clear hbad hx8 hx
                  go_wp2
                  go_ret2
                  exact gotA HS.out (OwnU.nil _ _) HK.out.2.2.2.1
            · rw [if_neg hbad] at hR
              have hn : n < 33554432 := by omega
              have hxb : op = false → (x == 128) = false := fun h => beq_eq_false_iff_ne.2 (fun e => hbad (.inl ⟨h, e⟩))
              have e1 : IntKind.u64.wrap (n * 128) = n * 128 := wraps_u64 _ (by omega) (by omega)
              have a1 := and127c x x0 (by omega)
              have e2 := or_low7 n (x % 128) n0 hn (by omega) (by omega)
              clear hbad
              by_cases hx7 : x ≤ 127
              · rw [if_pos hx7] at hR
                have hd7 : decide (127 < x) = false := by simp; omega
                have HS := Lib.hid hR
                clear hR
                cases op
                all_goals
                  (try have hxb := hxb rfl)
                  go_wp2_with (at_builtin; refine app_u64s rfl (.tmp 61) (.tmp 63) 52 rfl Tryd.underlying52 infoU64 w.heap.size (.slice Ao out.length co) out [n * 128 + x % 128] (some ⟨wr.heap.size, 0, none⟩) 1 1 rfl rfl (Kd.R_alloc HK.out.2.2.1 _) (litU_C wr (n * 128 + x % 128)) (by have := HK.out.2.2.2.1.size; simp; omega) (by have := HK.out.2.2.2.2; have := HK.out.1; omega) ?_; intro v1 w3 ho3 hg3 hat3)
                  go_roundg (l.length - (i + 1))
                  case measure =>
                    have := HK.out.2.1
                    omega
                  case rel =>
                    obtain ⟨hi, hk, ho, hbw, hol⟩ := HK.out
                    exact ⟨i + 1, out ++ [n * 128 + x % 128], 0, false, by go_num, rfl, by first | rfl | (congr 1; simp; omega) | (congr 1; simpa using hx7), Lib.hid ⟨by omega, rfl, by omega, by omega, ho3, (hbw.alloc hbw.size _).grown hg3 (by have := hbw.size; simp; omega) (fun k hk => OwnU.block ho k hk), HS.out, by simp; omega⟩⟩
              · rw [if_neg hx7] at hR
                have hd7 : decide (127 < x) = true := by simp; omega
                have hx9 : 127 < x := by omega
                have HS := Lib.hid hR
                clear hR
                cases op
                all_goals
                  (try have hxb := hxb rfl)
                  go_wp2
                  go_roundg (l.length - (i + 1))
                  case measure =>
                    have := HK.out.2.1
                    omega
                  case rel =>
                    obtain ⟨hi, hk, ho, hbw, hol⟩ := HK.out
                    exact ⟨i + 1, out, n * 128 + x % 128, true, by go_num, rfl, by first | rfl | (congr 1; simp; omega), Lib.hid ⟨by omega, rfl, by omega, by omega, ho, hbw, HS.out, by omega⟩⟩
          · rw [List.drop_of_length_le (by omega)] at hR
            simp only [ofGo] at hR
            have HS := Lib.hid (HE.out.2 out op hR.symm)
            obtain ⟨Ao, co, rfl, hco, hCo⟩ := Kd.R_reads ho
            have HK := Lib.hid (And.intro ho hbw)
            clear hR hCo ho hbw HR HR0
            cases op
            all_goals
              go_wp2
              go_ret2
              exact gotA HS.out HK.out.1 HK.out.2
end Go.Proofs.YtangjgclpipjdaaDoor
set_option linter.unusedVariables false
namespace Go.Proofs.YtangjgclpipjdaaDoor
open Go.RowKit Go.Proofs.YtangjgclpipjdaaDoorW.PrintWords Go.Proofs.YtangjgclpipjdaaDoorW.PrintLast Go.Proofs.YtangjgclpipjdaaDoorW.PrintMore
theorem ofInt_rows (xs : List Int) (hb : IsB xs) (s : Int) (h8 : xs.length ≤ 8) (m : Nat) : ∀ k i, xs.length = i + m → m + 1 ≤ k →
    PFnValue.spec_OfInt.l0 k (wrap64 (beVal (xs.take i) s)) xs xs.length (i : Nat) = some (wrap64 (beVal xs s), true) := by
  induction m with
  | zero =>
    intro k i hi hk
    obtain ⟨k, rfl⟩ : ∃ j, k = j + 1 := ⟨k - 1, by omega⟩
    rw [PFnValue.spec_OfInt.l0, if_neg (by omega), List.take_of_length_le (by omega)]
  | succ m ih =>
    intro k i hi hk
    obtain ⟨k, rfl⟩ : ∃ j, k = j + 1 := ⟨k - 1, by omega⟩
    have hbd := hb.rd i
    rw [PFnValue.spec_OfInt.l0, if_pos (by omega), if_pos (by omega), if_pos (by omega), show wrap64 (rd xs i) = rd xs i by unfold wrap64; omega, w64_step _ _ hbd.1 (by omega),
      ← beVal_take xs i (by omega), show wrap64 ((i : Int) + 1) = ((i + 1 : Nat) : Int) by unfold wrap64; omega]
    exact ih k (i + 1) (by omega) (by omega)
theorem ofInt_eq (xs : List Int) (hb : IsB xs) (h1 : 1 ≤ xs.length) (h8 : xs.length ≤ 8) : PFnValue.spec_OfInt.f 12 xs = some (sVal xs, true) := by
  unfold PFnValue.spec_OfInt.f
  rw [if_neg (by omega), PFnValue.spec_OfInt.j0, show decide ((xs.length : Int) > 8) = false by simp; omega, if_neg (by simp), if_pos (by omega)]
  unfold sVal
  by_cases c : rd xs 0 > 127
  · rw [if_pos c, if_pos c, PFnValue.spec_OfInt.j1]
    have := ofInt_rows xs hb (-1) h8 xs.length 10 0 (by omega) (by omega)
    simpa [beVal, wrap64] using this
  · rw [if_neg c, if_neg c, PFnValue.spec_OfInt.j1]
    have := ofInt_rows xs hb 0 h8 xs.length 10 0 (by omega) (by omega)
    simpa [beVal, wrap64] using this
theorem ofInt_no (xs : List Int) (h : ¬ (1 ≤ xs.length ∧ xs.length ≤ 8)) : PFnValue.spec_OfInt.f 12 xs = some (0, false) := by
  unfold PFnValue.spec_OfInt.f
  by_cases c : xs.length = 0
  · rw [if_pos (by omega), PFnValue.spec_OfInt.j0, if_pos rfl]
  · rw [if_neg (by omega), show decide ((xs.length : Int) > 8) = true by simp; omega, PFnValue.spec_OfInt.j0, if_pos rfl]
end Go.Proofs.YtangjgclpipjdaaDoor
set_option linter.unusedVariables false
namespace Go.Proofs.YtangjgclpipjdaaDoor
open Go.RowKit Go.Proofs.YtangjgclpipjdaaDoorW.PrintWords Go.Proofs.YtangjgclpipjdaaDoorW.PrintLast Go.Proofs.YtangjgclpipjdaaDoorW.PrintMore
theorem sInt_step (k : Nat) (x : Int) (l : List Int) (hl : l.length < 1000) (h : x < -128 ∨ 127 < x) : PFnValue.spec_Int.l0 (k + 1) x l = PFnValue.spec_Int.l0 k (x / 256) ((x / 256) % 256 :: l) := by
  simp only [PFnValue.spec_Int.l0]
  by_cases h1 : x < -128
  · rw [if_pos h1]
    simp only [Option.bind_some, List.length_cons, List.length_nil, List.cons_append, List.nil_append]
    rw [if_pos (by omega)]
  · rw [if_neg h1, if_pos (by omega)]
    simp only [Option.bind_some, List.length_cons, List.length_nil, List.cons_append, List.nil_append]
    rw [if_pos (by omega)]
theorem sInt_stop (k : Nat) (x : Int) (l : List Int) (h : -128 ≤ x ∧ x ≤ 127) : PFnValue.spec_Int.l0 (k + 1) x l = some l := by
  simp only [PFnValue.spec_Int.l0]
  rw [if_neg (by omega), if_neg (by omega)]
end Go.Proofs.YtangjgclpipjdaaDoor
set_option linter.unusedVariables false
namespace Go.Proofs.YtangjgclpipjdaaDoor
open Go.RowKit Go.Proofs.YtangjgclpipjdaaDoorW.PrintWords Go.Proofs.YtangjgclpipjdaaDoorW.PrintLast Go.Proofs.YtangjgclpipjdaaDoorW.PrintMore
theorem sUint_step (k : Nat) (x : Int) (l : List Int) (hl : l.length < 1000) (h : 255 < x) : PFnValue.spec_Uint.l0 (k + 1) x l = PFnValue.spec_Uint.l0 k (x / 256) ((x / 256) % 256 :: l) := by
  rw [PFnValue.spec_Uint.l0, if_pos (by omega)]
  simp only [Option.bind_some, List.length_cons, List.length_nil, List.cons_append, List.nil_append]
  rw [if_pos (by omega)]
theorem sUint_stop (k : Nat) (x : Int) (l : List Int) (h : x ≤ 255) (h0 : 0 < l.length) (hl : l.length < 1000) : PFnValue.spec_Uint.l0 (k + 1) x l = some (if rd l 0 > 127 then 0 :: l else l) := by
  rw [PFnValue.spec_Uint.l0, if_neg (by omega), if_pos (by omega)]
  split
  · simp only [Option.bind_some, List.length_cons, List.length_nil, List.cons_append, List.nil_append]
    rw [if_pos (by omega)]
  · rfl
theorem sUint_eq (n : Int) (h0 : 0 ≤ n) (h1 : n ≤ 18446744073709551615) : PFnValue.spec_Uint.f 10 n = some (sUint n) := by
  unfold PFnValue.spec_Uint.f sUint uBytes
  have e0 : n ≤ 255 → n % 256 = n := by omega
  have e1 : n / 256 / 256 = n / 65536 := by omega
  have e2 : n / 65536 / 256 = n / 16777216 := by omega
  have e3 : n / 16777216 / 256 = n / 4294967296 := by omega
  have e4 : n / 4294967296 / 256 = n / 1099511627776 := by omega
  have e5 : n / 1099511627776 / 256 = n / 281474976710656 := by omega
  have e6 : n / 281474976710656 / 256 = n / 72057594037927936 := by omega
  by_cases c1 : n ≤ 255
  · simp only [if_pos c1]
    rw [sUint_stop _ _ _ c1 (by simp) (by simp), e0 c1]
  simp only [if_neg c1]
  rw [sUint_step _ _ _ (by simp) (by omega)]
  by_cases c2 : n ≤ 65535
  · simp only [if_pos c2]
    rw [sUint_stop _ _ _ (by omega) (by simp) (by simp), show n / 256 % 256 = n / 256 by omega]
  simp only [if_neg c2]
  rw [sUint_step _ _ _ (by simp) (by omega), e1]
  by_cases c3 : n ≤ 16777215
  · simp only [if_pos c3]
    rw [sUint_stop _ _ _ (by omega) (by simp) (by simp), show n / 65536 % 256 = n / 65536 by omega]
  simp only [if_neg c3]
  rw [sUint_step _ _ _ (by simp) (by omega), e2]
  by_cases c4 : n ≤ 4294967295
  · simp only [if_pos c4]
    rw [sUint_stop _ _ _ (by omega) (by simp) (by simp), show n / 16777216 % 256 = n / 16777216 by omega]
  simp only [if_neg c4]
  rw [sUint_step _ _ _ (by simp) (by omega), e3]
  by_cases c5 : n ≤ 1099511627775
  · simp only [if_pos c5]
    rw [sUint_stop _ _ _ (by omega) (by simp) (by simp), show n / 4294967296 % 256 = n / 4294967296 by omega]
  simp only [if_neg c5]
  rw [sUint_step _ _ _ (by simp) (by omega), e4]
  by_cases c6 : n ≤ 281474976710655
  · simp only [if_pos c6]
    rw [sUint_stop _ _ _ (by omega) (by simp) (by simp), show n / 1099511627776 % 256 = n / 1099511627776 by omega]
  simp only [if_neg c6]
  rw [sUint_step _ _ _ (by simp) (by omega), e5]
  by_cases c7 : n ≤ 72057594037927935
  · simp only [if_pos c7]
    rw [sUint_stop _ _ _ (by omega) (by simp) (by simp), show n / 281474976710656 % 256 = n / 281474976710656 by omega]
  simp only [if_neg c7]
  rw [sUint_step _ _ _ (by simp) (by omega), e6, sUint_stop _ _ _ (by omega) (by simp) (by simp), show n / 72057594037927936 % 256 = n / 72057594037927936 by omega]
end Go.Proofs.YtangjgclpipjdaaDoor
set_option linter.unusedVariables false
namespace Go.Proofs.YtangjgclpipjdaaDoor
open Go.RowKit Go.Proofs.YtangjgclpipjdaaDoorW.PrintWords Go.Proofs.YtangjgclpipjdaaDoorW.PrintLast Go.Proofs.YtangjgclpipjdaaDoorW.PrintMore
theorem len_l1 (d : Nat) : ∀ (k : Nat) (x : List Int) (wide i : Nat), i + d = wide → wide ≤ 100 → x.length + d ≤ 100 → PFnValue.spec_Length.l1 (k + d + 1) x wide i = some (((128 + (x.length + d : Nat) : Int)) :: (List.replicate d 0 ++ x)) := by
  induction d with
  | zero =>
    intro k x wide i h hw hx
    simp only [PFnValue.spec_Length.l1]
    rw [if_neg (by omega)]
    simp only [Option.bind_some, List.length_cons, List.length_nil, List.cons_append, List.nil_append, List.replicate_zero]
    rw [if_pos (by omega)]
    have e : wrap64 (128 + (x.length : Int)) % 256 = 128 + ((x.length + 0 : Nat) : Int) := by unfold wrap64; omega
    rw [e]
  | succ d ih =>
    intro k x wide i h hw hx
    rw [show k + (d + 1) + 1 = (k + d + 1) + 1 by omega, PFnValue.spec_Length.l1]
    rw [if_pos (by omega)]
    simp only [Option.bind_some, List.length_cons, List.length_nil, List.cons_append, List.nil_append]
    rw [if_pos (by omega)]
    have e : wrap64 ((i : Int) + 1) = ((i + 1 : Nat) : Int) := by unfold wrap64; omega
    rw [e, ih k (0 :: x) wide (i + 1) (by omega) hw (by simp; omega)]
    have e2 : List.replicate d 0 ++ 0 :: x = List.replicate (d + 1) (0 : Int) ++ x := by
      rw [List.replicate_succ', List.append_assoc]; rfl
    rw [e2]
    simp only [List.length_cons]
    rw [show x.length + 1 + d = x.length + (d + 1) by omega]
theorem len_l0_stop (k : Nat) (n wide : Int) (x : List Int) (h : n ≤ 0) : PFnValue.spec_Length.l0 (k + 1) n wide x = PFnValue.spec_Length.l1 k x wide 0 := by
  simp only [PFnValue.spec_Length.l0]
  rw [if_neg (by omega)]
theorem len_l0_step (k : Nat) (n wide : Int) (x : List Int) (h : 0 < n) (hx : x.length ≤ 100) : PFnValue.spec_Length.l0 (k + 1) n wide x = PFnValue.spec_Length.l0 k (n / 256) wide (n % 256 :: x) := by
  simp only [PFnValue.spec_Length.l0]
  rw [if_pos (by omega)]
  simp only [Option.bind_some, List.length_cons, List.length_nil, List.cons_append, List.nil_append]
  rw [if_pos (by omega)]
theorem len_l0 (n : Int) (wide : Nat) (hw : wide ≤ 5) (h1 : n ≤ 4294967295) : PFnValue.spec_Length.l0 20 n wide [] = some (((128 + ((lenBytes n).length + wide : Nat) : Int)) :: (List.replicate wide 0 ++ lenBytes n)) := by
  have d2 : n / 256 / 256 = n / 65536 := by omega
  have d3 : n / 65536 / 256 = n / 16777216 := by omega
  have fin : ∀ (j : Nat) (x : List Int), x.length ≤ 4 → wide + 1 ≤ j → PFnValue.spec_Length.l1 j x wide 0 = some (((128 + (x.length + wide : Nat) : Int)) :: (List.replicate wide 0 ++ x)) := by
    intro j x hx hj
    have := len_l1 wide (j - wide - 1) x wide 0 (by omega) (by omega) (by omega)
    rw [show j - wide - 1 + wide + 1 = j by omega] at this
    exact this
  unfold lenBytes
  split
  · rw [len_l0_stop _ _ _ _ (by omega), fin _ _ (by simp) (by omega)]
  rw [len_l0_step _ _ _ _ (by omega) (by simp)]
  split
  · rw [len_l0_stop _ _ _ _ (by omega), fin _ _ (by simp) (by omega), show n % 256 = n by omega]
  rw [len_l0_step _ _ _ _ (by omega) (by simp), d2]
  split
  · rw [len_l0_stop _ _ _ _ (by omega), fin _ _ (by simp) (by omega), show n / 256 % 256 = n / 256 by omega]
  rw [len_l0_step _ _ _ _ (by omega) (by simp), d3]
  split
  · rw [len_l0_stop _ _ _ _ (by omega), fin _ _ (by simp) (by omega), show n / 65536 % 256 = n / 65536 by omega]
  rw [len_l0_step _ _ _ _ (by omega) (by simp), len_l0_stop _ _ _ _ (by omega), fin _ _ (by simp) (by omega), show n / 16777216 % 256 = n / 16777216 by omega]
theorem sLen_eq (n : Int) (wide : Nat) (hw : wide ≤ 5) (h0 : 0 ≤ n) (h1 : n ≤ 4294967295) : PFnValue.spec_Length.f 21 n wide = some (sLen n wide) := by
  unfold PFnValue.spec_Length.f sLen
  by_cases c : n < 128
  · rw [if_pos c]
    by_cases c2 : wide = 0
    · rw [if_pos ⟨c, c2⟩]
      subst c2
      simp only [PFnValue.spec_Length.j0]
      rw [if_pos (by rfl), show n % 256 = n by omega]
    · rw [if_neg (by omega)]
      simp only [PFnValue.spec_Length.j0]
      rw [if_neg (by simp; omega)]
      exact len_l0 n wide hw h1
  · rw [if_neg c, if_neg (by omega)]
    simp only [PFnValue.spec_Length.j0]
    rw [if_neg (by simp)]
    exact len_l0 n wide hw h1
end Go.Proofs.YtangjgclpipjdaaDoor
set_option linter.unusedVariables false
namespace Go.Proofs.YtangjgclpipjdaaDoor
open Go.RowKit Go.Proofs.YtangjgclpipjdaaDoorW.PrintWords Go.Proofs.YtangjgclpipjdaaDoorW.PrintLast Go.Proofs.YtangjgclpipjdaaDoorW.PrintMore
theorem sSealed_eq (tag : Int) (c : List Int) (wide : Nat) (hw : wide ≤ 5) (h : c.length ≤ 4294967295) : PFnValue.spec_Sealed.f 21 tag c wide = some (sSealed tag c wide) := by
  unfold PFnValue.spec_Sealed.f sSealed
  have hl := sLen_len c.length wide
  rw [sLen_eq c.length wide hw (by omega) (by omega)]
  simp only [Option.bind_some, List.length_cons, List.length_nil]
  rw [if_pos (by omega)]
  simp only [List.length_append, List.length_cons, List.length_nil]
  rw [if_pos (by omega)]
  simp
end Go.Proofs.YtangjgclpipjdaaDoor
set_option linter.unusedVariables false
namespace Go.Proofs.YtangjgclpipjdaaDoor
open Go.RowKit Go.Proofs.YtangjgclpipjdaaDoorW.PrintWords Go.Proofs.YtangjgclpipjdaaDoorW.PrintLast Go.Proofs.YtangjgclpipjdaaDoorW.PrintMore
/-- A call of the printed kind: bytes of the call's own. -/
def GotB (w w' : World) (xs : List Int) (e : Ending) : Prop := ∃ v, e = .returned v ∧ OwnB w' w.heap.size v xs ∧ Below w.heap.size w w'
/-- ([]byte, bool). -/
def GotD (w w' : World) (R : List Int × Bool) (e : Ending) : Prop := ∃ v, e = .returned (.tuple #[v, .bool R.2]) ∧ OwnB w' w.heap.size v R.1 ∧ Below w.heap.size w w'
theorem sInt_all (k : Nat) : ∀ (x : Int) (l : List Int), -128 * 256 ^ k ≤ x → x < 128 * 256 ^ k → l.length + k ≤ 100 → PFnValue.spec_Int.l0 (k + 1) x l = some (intF k x l) := by
  induction k with
  | zero =>
    intro x l h0 h1 hl
    simp only [Int.pow_zero] at h0 h1
    exact sInt_stop _ _ _ (by omega)
  | succ k ih =>
    intro x l h0 h1 hl
    rw [intF]
    split
    · exact sInt_stop _ _ _ (by omega)
    · rw [sInt_step _ _ _ (by omega) (by omega)]
      rw [Int.pow_succ] at h0 h1
      exact ih _ _ (by omega) (by omega) (by simp; omega)
theorem specInt_any (n : Int) (h0 : -9223372036854775808 ≤ n) (h1 : n ≤ 9223372036854775807) (w : World) : Calls Tryd.prog 42 #[.int .i64 n] w fun e w' => GotB w w' (sInt n) e :=
  PFnValue.spec_Int.calls 9 n (sInt n) w (sInt_all 8 n [n % 256] (by omega) (by omega) (by simp))
theorem specUint_any (n : Int) (h0 : 0 ≤ n) (h1 : n ≤ 18446744073709551615) (w : World) : Calls Tryd.prog 46 #[.int .u64 n] w fun e w' => GotB w w' (sUint n) e :=
  PFnValue.spec_Uint.calls 10 n (sUint n) w (sUint_eq n h0 h1)
theorem specSealed_any (tag : Int) (A : Option Addr) (c : Nat) (xs : List Int) (wide : Nat) (hw : wide ≤ 5) (hc : xs.length ≤ c) (hl : xs.length ≤ 4294967295) (w : World) (hr : Kd.C (Kd.int .u8) w A xs.length xs) :
    Calls Tryd.prog 23 #[.int .i64 tag, .slice A xs.length c, .int .i64 wide] w fun e w' => GotB w w' (sSealed tag xs wide) e :=
  PFnValue.spec_Sealed.calls 21 tag A c xs wide (sSealed tag xs wide) w hr hc (sSealed_eq tag xs wide hw hl)
theorem addr_l0 (t : ByteArray) (hz : t.size ≤ 2147483647) (m : Nat) : ∀ (i k : Nat) (out : List Int) (n : Int) (sm : Bool), i + m = t.size → 0 ≤ n → n ≤ 255 → 3 * m + 4 ≤ k → out.length ≤ i → PFnValue.spec_address.l0 k t out n sm i = some (finD (addrGo ((bs t).drop i) out n sm)) := by
  induction m with
  | zero =>
    intro i k out n sm hi n0 n1 hk ho
    obtain ⟨k, rfl⟩ : ∃ j, k = j + 3 := ⟨k - 3, by omega⟩
    have hd : (bs t).drop i = [] := List.drop_of_length_le (by rw [bs_length]; omega)
    have e1 : wrap64 ((i : Int) + 1) = ((i + 1 : Nat) : Int) := by unfold wrap64; omega
    rw [hd, PFnValue.spec_address.l0, if_pos (by omega), if_pos (by omega), PFnValue.spec_address.j1, if_pos rfl]
    simp only [addrGo]
    cases sm with
    | false => simp [finD]
    | true =>
      rw [if_pos rfl]
      by_cases h4 : out.length = 4
      · rw [if_pos (by omega), if_neg (by simp [h4])]; rfl
      · rw [if_neg (by omega), if_pos (by omega), if_pos (by simp [h4]), e1, PFnValue.spec_address.l0, if_neg (by omega), show n % 256 = n by omega]
        simp only [finD]
        congr 2
        rw [Bool.eq_iff_iff]
        simp only [beq_iff_eq, decide_eq_true_eq]
        omega
  | succ m ih =>
    intro i k out n sm hi n0 n1 hk ho
    obtain ⟨k, rfl⟩ : ∃ j, k = j + 3 := ⟨k - 3, by omega⟩
    obtain ⟨c, l, hcl⟩ : ∃ c l, (bs t).drop i = c :: l := ⟨_, _, List.drop_eq_getElem_cons (by rw [bs_length]; omega)⟩
    obtain ⟨hit, hc, hdr⟩ := char_at t i c l hcl
    have hbt : bt t (i : Int) = c := by
      unfold bt
      rw [dif_pos (by simpa using hit)]
      exact hc
    have hc0 : 0 ≤ c := by omega
    have hc1 : c ≤ 255 := by have := (t[i]'hit).toNat_lt; omega
    have e1 : wrap64 ((i : Int) + 1) = ((i + 1 : Nat) : Int) := by unfold wrap64; omega
    rw [hcl, PFnValue.spec_address.l0, if_pos (by omega), if_neg (by omega), if_pos (by omega), if_pos (by omega), hbt, PFnValue.spec_address.j1]
    simp only [addrGo]
    by_cases c46 : c = 46
    · subst c46
      rw [if_pos (by rfl), if_pos rfl]
      cases sm with
      | false => simp [finD]
      | true =>
        rw [if_pos rfl]
        by_cases h4 : out.length = 4
        · rw [if_pos (by omega), if_neg (by simp [h4])]; rfl
        · rw [if_neg (by omega), if_pos (by omega), if_pos (by simp [h4]), e1, show n % 256 = n by omega, ih (i + 1) _ _ 0 false (by omega) (by omega) (by omega) (by omega) (by simp; omega), hdr]
    · rw [if_neg (by simpa using c46), if_neg c46, if_pos (by omega), if_pos (by omega), hbt]
      by_cases c48 : c < 48
      · rw [if_pos c48, if_pos (.inl c48), PFnValue.spec_address.j2, if_pos rfl]; rfl
      rw [if_neg c48]
      by_cases c57 : c > 57
      · rw [if_pos c57, if_pos (.inr (.inl c57)), PFnValue.spec_address.j2, if_pos rfl]; rfl
      rw [if_neg c57]
      have e2 : wrap64 (wrap64 (10 * n) + (c - 48) % 256) = 10 * n + (c - 48) := by unfold wrap64; omega
      have go : ∀ b : Bool, (b = true ↔ (sm = true ∧ n = 0)) → PFnValue.spec_address.j2 (k + 1) t out n i b = some (finD (if c < 48 ∨ c > 57 ∨ sm = true ∧ n = 0 ∨ 10 * n + (c - 48) > 255 then none else addrGo l out (10 * n + (c - 48)) true)) := by
        intro b hb
        rw [PFnValue.spec_address.j2]
        by_cases hbt' : b = true
        · rw [if_pos hbt', if_pos (.inr (.inr (.inl (hb.1 hbt'))))]; rfl
        · rw [if_neg hbt', if_pos (by omega), if_pos (by omega), hbt, e2, e1]
          by_cases hbig : 10 * n + (c - 48) > 255
          · rw [if_pos hbig, if_pos (.inr (.inr (.inr hbig)))]; rfl
          · rw [if_neg hbig, if_neg (by rintro (h | h | h | h); exact c48 h; exact c57 h; exact hbt' (hb.2 h); exact hbig h), ih (i + 1) _ out _ true (by omega) (by omega) (by omega) (by omega) (by omega), hdr]
      cases sm with
      | true => rw [if_pos rfl]; exact go (n == 0) (by simp)
      | false => rw [if_neg (by simp)]; exact go false (by simp)
theorem specAddr_any (t : ByteArray) (hz : t.size ≤ 2147483647) (w : World) : Calls Tryd.prog 45 #[.string t] w fun e w' => GotD w w' (sAddr (bs t)) e :=
  PFnValue.spec_address.calls (3 * t.size + 4) t (sAddr (bs t)).1 (sAddr (bs t)).2 w (addr_l0 t hz t.size 0 _ [] 0 false (by omega) (by omega) (by omega) (by omega) (by simp))
end Go.Proofs.YtangjgclpipjdaaDoor
set_option linter.unusedVariables false
namespace Go.Proofs.YtangjgclpipjdaaDoor
open Go.RowKit Go.Proofs.YtangjgclpipjdaaDoorW.PrintWords Go.Proofs.YtangjgclpipjdaaDoorW.PrintLast Go.Proofs.YtangjgclpipjdaaDoorW.PrintMore
/-- ([]byte, bool), bytes in new memory. -/
def GotN (w w' : World) (R : List Int × Bool) (e : Ending) : Prop := ∃ v, e = .returned (.tuple #[v, .bool R.2]) ∧ NewB w w' v R.1 ∧ Below w.heap.size w w'
theorem gotN {w w' : World} {R : List Int × Bool} {v : Value} {xs : List Int} {b : Bool} (h : R = (xs, b)) (ho : NewB w w' v xs) (hb : Below w.heap.size w w') : GotN w w' R (.returned (.tuple #[v, .bool b])) := by
  subst h
  exact ⟨v, rfl, ho, hb⟩
theorem ne_beq {a b : Int} (h : a ≠ b) : (a == b) = false := beq_eq_false_iff_ne.2 h
/-- impl.Var laid in a block. -/
abbrev varO (nm : ByteArray) (ty i u : Int) (tx : ByteArray) : Obj := .cells #[.string nm, .int .i64 ty, .int .i64 i, .int .u64 u, .string tx] 24
theorem bytesWorld_new (w : World) (s : ByteArray) (hz : s.size ≤ 2147483647) : NewB w (Lib.bytesWorld w 5 s) (.slice (some ⟨w.heap.size, 0, none⟩) s.size (grownCap w s.size 0 5)) (bs s) ∧ Below w.heap.size w (Lib.bytesWorld w 5 s) := by
  have hh := Lib.bytesWorld_at_new w 5 s
  have hsz := Lib.bytesWorld_size w 5 s
  refine ⟨⟨some ⟨w.heap.size, 0, none⟩, grownCap w s.size 0 5, by rw [bs_length], by rw [bs_length]; exact grownCap_ge w s.size 0 5, fun W' hW => ?_⟩, Lib.bytesWorld_below w 5 s⟩
  have h2 := (hW w.heap.size (Nat.le_refl _) (by rw [hsz]; omega)).trans hh
  refine Kd.C_of_reads (enc := Value.int .u8) (d := (0 : Int)) ⟨rfl, by rw [bs_length]; omega, fun _ => ⟨_, rfl, fun j hj => ?_⟩⟩
  rw [bs_length] at hj
  have e : (⟨w.heap.size, 0, none⟩ : Addr).add j = ⟨w.heap.size, j, none⟩ := by unfold Addr.add; split <;> simp_all
  rw [e]
  have h3 := Lib.bytesWorld_cell w 5 s j hj
  unfold World.cell? at h3 ⊢
  rw [hh] at h3
  rw [h2]
  refine h3.trans ?_
  have hj' : j < s.data.toList.length := by simpa using hj
  simp [bs, List.getD_eq_getElem?_getD, List.getElem?_eq_getElem hj']
set_option maxRecDepth 100000 in
set_option maxHeartbeats 1600000 in
theorem specContent_any (nm tx : ByteArray) (ty i u : Int) (i0 : -9223372036854775808 ≤ i) (i1 : i ≤ 9223372036854775807) (u0 : 0 ≤ u) (u1 : u ≤ 18446744073709551615) (hz : tx.size ≤ 2147483647) (w : World) :
    Calls Tryd.prog 22 #[varV nm ty i u tx] w fun e w' => GotN w w' (sCont ty i u (bs tx)) e := by
  obtain ⟨R, hR⟩ : ∃ R, R = sCont ty i u (bs tx) := ⟨_, rfl⟩
  rw [← hR]
  unfold sCont at hR
  have hblk := blk_new w (varO nm ty i u tx)
  have hal := (Below.refl w.heap.size w).alloc (Nat.le_refl _) (varO nm ty i u tx)
  have hald := Lib.hid (below_drew hal)
  by_cases h2 : ty = 2
  · subst h2
    rw [if_pos rfl] at hR
    have HR := Lib.hid hR
    clear hR
    have c2 := (blk_cell hblk 2).trans rfl
    by_cases hi : -2147483648 ≤ i
    · have hi' := eq_true hi
      go_enter Tryd.func22, Tryd.ntmps22
      go_wp2_with fail
      go_region_held3 (fun w' => w'.cell? ⟨w.heap.size, 2, none⟩ = some (.int .i64 i)) (first | exact c2 | exact (hb.cell (World.block_lt_of_cell? _ _ c2)).trans c2) ((go_at_call 42; refine (specInt_any i i0 i1 _).mono ?_; rintro e w' ⟨v, rfl, ho, hb⟩))
      go_wp2
      go_ret2
      exact gotN (by rw [HR.out]; congr 1; simp [hi]) (ho.newAt (by simp)) (below_step hald.out hb)
    · have hi' := eq_false hi
      have HI := Lib.hid hi
      clear hi
      go_enter Tryd.func22, Tryd.ntmps22
      go_wp2_with fail
      have mixed : Tryd.prog.follows Departure.mixedOrders = true := by kernel_rfl
      have hd' : decide (-2147483648 ≤ i) = false := decide_eq_false (by have := HI.out; omega)
      first | (go_region_with_o (go_at_call 42; refine (specInt_any i i0 i1 _).mono ?_; rintro e w' ⟨v, rfl, ho, hb⟩; have c2' := (hb.cell (World.block_lt_of_cell? _ _ c2)).trans c2)) | fail
      all_goals go_wp2
      all_goals go_ret2
      all_goals exact gotN (by rw [HR.out]; congr 1; simp [hi']) (ho.newAt (by simp)) (below_step hald.out hb)
  rw [if_neg h2] at hR
  have b2 := ne_beq h2
  by_cases h4 : ty = 4
  · subst h4
    rw [if_pos rfl] at hR
    have HR := Lib.hid hR
    clear hR b2 h2
    have c4 := (blk_cell hblk 4).trans rfl
    have hcv := fun W => Lib.run_convert_string_bytes (P := Tryd.prog) W 9 26 5 tx Tryd.underlying9 Tryd.underlying26 Tryd.underlying5
    go_enter Tryd.func22, Tryd.ntmps22
    go_wp2_with fail
    have mixed : Tryd.prog.follows Departure.mixedOrders = true := by kernel_rfl
    have c4' := ((bytesWorld_new (w.alloc (varO nm 4 i u tx)).drew tx hz).2.cell (World.block_lt_of_cell? _ _ c4)).trans c4
    go_region_o
    all_goals go_wp2
    all_goals go_ret2
    have hN := (bytesWorld_new (w.alloc (varO nm 4 i u tx)).drew tx hz).1.since (w0 := w) (by simp)
    rw [show (w.alloc (varO nm 4 i u tx)).drew.heap.size = w.heap.size + 1 by simp] at hN
    all_goals exact gotN (by rw [HR.out, bs_length]; congr 1; simp; omega) hN (below_step hald.out (bytesWorld_new (w.alloc (varO nm 4 i u tx)).drew tx hz).2)
  rw [if_neg h4] at hR
  have b4 := ne_beq h4
  by_cases h5 : ty = 5 ∨ ty = 128 ∨ ty = 129 ∨ ty = 130
  · rw [if_pos h5] at hR
    have HR := Lib.hid hR
    clear hR b2 h2 b4 h4
    rcases h5 with rfl | rfl | rfl | rfl
    all_goals
      go_enter Tryd.func22, Tryd.ntmps22
      go_wp2
      go_ret2
      exact gotN HR.out (NewB.nil _ _) hal
  rw [if_neg h5] at hR
  have b5 := ne_beq (show ty ≠ 5 by omega)
  have b128 := ne_beq (show ty ≠ 128 by omega)
  have b129 := ne_beq (show ty ≠ 129 by omega)
  have b130 := ne_beq (show ty ≠ 130 by omega)
  by_cases h6 : ty = 6
  · subst h6
    rw [if_pos rfl] at hR
    clear b2 h2 b4 h4 h5 b5 b128 b129 b130
    go_enter Tryd.func22, Tryd.ntmps22
    go_wp2_with fail
    refine (specArcs_any tx hz _).mono ?_
    rintro e w1 ⟨v, rfl, ho, hb⟩
    obtain ⟨A, c, rfl, hcc, hC⟩ := Kd.R_reads ho
    have HB := Lib.hid (below_step hal hb)
    cases hok : (sArcs (bs tx)).2 with
    | false =>
      rw [hok, if_neg (by simp)] at hR
      have HR := Lib.hid hR
      clear hR ho hb hC
      go_wp2
      go_ret2
      exact gotN HR.out (NewB.nil _ _) HB.out
    | true =>
      rw [hok, if_pos rfl] at hR
      have HR := Lib.hid hR
      have hA : sArcs (bs tx) = ((sArcs (bs tx)).1, true) := by rw [← hok]
      have hbd := sArcs_bounds _ _ hA
      have hao := (sArcs_text _ _ hA).1
      have HH := Lib.hid (And.intro hbd hC)
      have hl2 := hao.1
      have hl60 := hao.2.1
      have hsz := hb.size
      have hle : w.heap.size ≤ w1.heap.size := by simp at hsz; omega
      clear hR ho hb hC hA hbd hao hsz
      go_wp2_with fail
      refine (specName_any _ hl2 hl60 HH.out.1 A c hcc _ HH.out.2).mono ?_
      rintro e w2 ⟨v2, rfl, ho2, hb2⟩
      have H2 := Lib.hid (And.intro (ho2.newAt hle) (below_step HB.out hb2))
      clear ho2 hb2
      go_wp2
      go_ret2
      exact gotN HR.out H2.out.1 H2.out.2
  rw [if_neg h6] at hR
  have b6 := ne_beq h6
  by_cases h7 : ty = 64
  · subst h7
    rw [if_pos rfl] at hR
    have HR := Lib.hid hR
    clear hR b2 h2 b4 h4 h5 b5 b128 b129 b130 h6 b6
    go_enter Tryd.func22, Tryd.ntmps22
    go_wp2_with fail
    refine (specAddr_any tx hz _).mono ?_
    rintro e w1 ⟨v, rfl, ho, hb⟩
    have HB := Lib.hid (And.intro (ho.newAt (w := w) (by simp)) (below_step hal hb))
    clear ho hb
    go_wp2
    go_ret2
    exact gotN HR.out HB.out.1 HB.out.2
  rw [if_neg h7] at hR
  have b7 := ne_beq h7
  have c3 := (blk_cell hblk 3).trans rfl
  by_cases h8 : ty = 65 ∨ ty = 66 ∨ ty = 67
  · rw [if_pos h8] at hR
    have HR := Lib.hid hR
    clear hR b2 h2 b4 h4 h5 b5 b128 b129 b130 h6 b6 h7 b7
    rcases h8 with rfl | rfl | rfl
    all_goals
      go_enter Tryd.func22, Tryd.ntmps22
      go_wp2_with fail
      go_region_held3 (fun w' => w'.cell? ⟨w.heap.size, 3, none⟩ = some (.int .u64 u)) (first | exact c3 | exact (hb.cell (World.block_lt_of_cell? _ _ c3)).trans c3) ((go_at_call 46; refine (specUint_any u u0 u1 _).mono ?_; rintro e w' ⟨v, rfl, ho, hb⟩))
      go_wp2
      go_ret2
      exact gotN HR.out (ho.newAt (by simp)) (below_step hald.out hb)
  rw [if_neg h8] at hR
  have b65 := ne_beq (show ty ≠ 65 by omega)
  have b66 := ne_beq (show ty ≠ 66 by omega)
  have b67 := ne_beq (show ty ≠ 67 by omega)
  by_cases h9 : ty = 70
  · subst h9
    rw [if_pos rfl] at hR
    have HR := Lib.hid hR
    clear hR b2 h2 b4 h4 h5 b5 b128 b129 b130 h6 b6 h7 b7 h8 b65 b66 b67
    go_enter Tryd.func22, Tryd.ntmps22
    go_wp2_with fail
    refine (specUint_any u u0 u1 _).mono ?_
    rintro e w1 ⟨v, rfl, ho, hb⟩
    have HB := Lib.hid (And.intro (ho.newAt (w := w) (by simp)) (below_step hal hb))
    clear ho hb
    go_wp2
    go_ret2
    exact gotN HR.out HB.out.1 HB.out.2
  rw [if_neg h9] at hR
  have b9 := ne_beq h9
  have HR := Lib.hid hR
  clear hR h2 h4 h5 h6 h7 h8 h9
  go_enter Tryd.func22, Tryd.ntmps22
  go_wp2
  go_ret2
  exact gotN HR.out (NewB.nil _ _) hal
end Go.Proofs.YtangjgclpipjdaaDoor
set_option linter.unusedVariables false
namespace Go.Proofs.YtangjgclpipjdaaDoor
open Go.RowKit Go.Proofs.YtangjgclpipjdaaDoorW.PrintWords Go.Proofs.YtangjgclpipjdaaDoorW.PrintLast Go.Proofs.YtangjgclpipjdaaDoorW.PrintMore
theorem cell_up {W W' : World} {a : Addr} {v : Value} (c : W.cell? a = some v) (hb : Below W.heap.size W W') : W'.cell? a = some v := (hb.cell (World.block_lt_of_cell? _ _ c)).trans c
theorem cell_alloc {W : World} {a : Addr} {v : Value} (c : W.cell? a = some v) (o : Obj) : (W.alloc o).cell? a = some v := cell_up c ((Below.refl _ _).alloc (Nat.le_refl _) o)
theorem cell_drew {W : World} {a : Addr} {v : Value} (c : W.cell? a = some v) : W.drew.cell? a = some v := c
theorem var_cells {W : World} {g : Nat} {nm tx : ByteArray} {ty i u : Int} (h : W.heap[g]? = some (varO nm ty i u tx)) : W.cell? ⟨g, 0, none⟩ = some (.string nm) ∧ W.cell? ⟨g, 1, none⟩ = some (.int .i64 ty) ∧ W.cell? ⟨g, 2, none⟩ = some (.int .i64 i) ∧ W.cell? ⟨g, 3, none⟩ = some (.int .u64 u) ∧ W.cell? ⟨g, 4, none⟩ = some (.string tx) ∧
    W.frozen? ⟨g, 0, none⟩ = false ∧ W.frozen? ⟨g, 1, none⟩ = false ∧ W.frozen? ⟨g, 2, none⟩ = false ∧ W.frozen? ⟨g, 3, none⟩ = false ∧ W.frozen? ⟨g, 4, none⟩ = false :=
  ⟨(blk_cell h 0).trans rfl, (blk_cell h 1).trans rfl, (blk_cell h 2).trans rfl, (blk_cell h 3).trans rfl, (blk_cell h 4).trans rfl, blk_frozen h 0, blk_frozen h 1, blk_frozen h 2, blk_frozen h 3, blk_frozen h 4⟩
/-- A variable stored whole, cell by cell. -/
abbrev setVar (W : World) (g : Nat) (nm : ByteArray) (ty i u : Int) (tx : ByteArray) : World :=
  ((((W.setCell ⟨g, 0, none⟩ (.string nm)).setCell ⟨g, 1, none⟩ (.int .i64 ty)).setCell ⟨g, 2, none⟩ (.int .i64 i)).setCell ⟨g, 3, none⟩ (.int .u64 u)).setCell ⟨g, 4, none⟩ (.string tx)
theorem setVar_far {W : World} {g : Nat} {a : Addr} {v : Value} (c : W.cell? a = some v) (h : a.block ≠ g) (nm : ByteArray) (ty i u : Int) (tx : ByteArray) : (setVar W g nm ty i u tx).cell? a = some v :=
  (cell_far (p := ⟨g, 4, none⟩) h _).trans ((cell_far (p := ⟨g, 3, none⟩) h _).trans ((cell_far (p := ⟨g, 2, none⟩) h _).trans ((cell_far (p := ⟨g, 1, none⟩) h _).trans ((cell_far (p := ⟨g, 0, none⟩) h _).trans c))))
theorem setVar_heap {W : World} {g k : Nat} {o : Obj} (c : W.heap[k]? = some o) (h : k ≠ g) (nm : ByteArray) (ty i u : Int) (tx : ByteArray) : (setVar W g nm ty i u tx).heap[k]? = some o :=
  (Below.heap_setCell _ ⟨g, 4, none⟩ _ k h).trans ((Below.heap_setCell _ ⟨g, 3, none⟩ _ k h).trans ((Below.heap_setCell _ ⟨g, 2, none⟩ _ k h).trans ((Below.heap_setCell _ ⟨g, 1, none⟩ _ k h).trans ((Below.heap_setCell _ ⟨g, 0, none⟩ _ k h).trans c))))
theorem setVar_new {W : World} {g : Nat} {nm' tx' : ByteArray} {ty' i' u' : Int} (c : W.heap[g]? = some (varO nm' ty' i' u' tx')) (nm : ByteArray) (ty i u : Int) (tx : ByteArray) : (setVar W g nm ty i u tx).heap[g]? = some (varO nm ty i u tx) :=
  blk_put (cs := #[.string nm, .int .i64 ty, .int .i64 i, .int .u64 u, .string tx']) (blk_put (cs := #[.string nm, .int .i64 ty, .int .i64 i, .int .u64 u', .string tx']) (blk_put (cs := #[.string nm, .int .i64 ty, .int .i64 i', .int .u64 u', .string tx']) (blk_put (cs := #[.string nm, .int .i64 ty', .int .i64 i', .int .u64 u', .string tx']) (blk_put c 0 _ rfl) 1 _ rfl) 2 _ rfl) 3 _ rfl) 4 _ rfl
theorem setVar_below {W0 W : World} {g : Nat} (h : Below W0.heap.size W0 W) (hg : W0.heap.size ≤ g) (nm : ByteArray) (ty i u : Int) (tx : ByteArray) : Below W0.heap.size W0 (setVar W g nm ty i u tx) :=
  below_set (below_set (below_set (below_set (below_set h hg) hg) hg) hg) hg
/-- What holds behind 'out := impl.Var{..}'. -/
def PlainAt (w : World) (g : Nat) (nm : ByteArray) (ty i u : Int) (tx dt : ByteArray) (W : World) : Prop :=
  W.heap[w.heap.size]? = some (varO nm ty i u tx) ∧ W.heap[w.heap.size + 1]? = some (varO ⟨#[]⟩ 0 0 0 ⟨#[]⟩) ∧ W.heap[g]? = some (varO dt ty 0 0 ⟨#[]⟩) ∧ Below w.heap.size w W ∧ w.heap.size + 1 < g
theorem plainAt_call {w W w2 : World} {nm tx dt : ByteArray} {ty i u : Int} (hW : W.heap.size = w.heap.size + 2 ∨ w.heap.size + 2 ≤ W.heap.size) (h1 : W.heap[w.heap.size]? = some (varO nm ty i u tx)) (h2 : W.heap[w.heap.size + 1]? = some (varO ⟨#[]⟩ 0 0 0 ⟨#[]⟩)) (h3 : Below w.heap.size w W) (hb : Below W.drew.heap.size W.drew w2) :
    PlainAt w w2.heap.size nm ty i u tx dt (w2.alloc (varO dt ty 0 0 ⟨#[]⟩)) := by
  have hs := hb.size
  have hs' : W.heap.size ≤ w2.heap.size := hs
  refine ⟨blk_alloc (blk_below (w := W.drew) h1 hb) _, blk_alloc (blk_below (w := W.drew) h2 hb) _, blk_new _ _, (below_step (below_drew h3) hb).alloc ?_ _, ?_⟩
  · omega
  · omega
theorem plainAt_alloc {w W w2 : World} {nm tx dt : ByteArray} {ty i u : Int} (hW : w.heap.size + 2 ≤ W.heap.size) (h1 : W.heap[w.heap.size]? = some (varO nm ty i u tx)) (h2 : W.heap[w.heap.size + 1]? = some (varO ⟨#[]⟩ 0 0 0 ⟨#[]⟩)) (h3 : Below w.heap.size w W) (hb : Below (W.alloc (varO ⟨#[]⟩ 0 0 0 ⟨#[]⟩)).drew.heap.size (W.alloc (varO ⟨#[]⟩ 0 0 0 ⟨#[]⟩)).drew w2) :
    PlainAt w W.heap.size nm ty i u tx dt (setVar w2 W.heap.size dt ty 0 0 ⟨#[]⟩) := by
  refine ⟨setVar_heap (blk_below (blk_drew (blk_alloc h1 _)) hb) (by omega) _ _ _ _ _, setVar_heap (blk_below (blk_drew (blk_alloc h2 _)) hb) (by omega) _ _ _ _ _, setVar_new (blk_below (blk_drew (blk_new W _)) hb) _ _ _ _ _, setVar_below (below_step (below_drew (h3.alloc (by omega) _)) hb) (by omega) _ _ _ _ _, by omega⟩
theorem infoVar : (Tryd.prog.info? 24).map (·.size) = some 5 := by kernel_rfl
theorem plain_ret (fn : Func) {p : Tmp} (h : fn.results = #[.cell p 24]) {a : Act} {w W : World} {nm tx nm' tx' : ByteArray} {ty i u ty' i' u' : Int} (hp : a.tmps.getD p undef = .pointer (some ⟨w.heap.size + 1, 0, none⟩)) (hd : a.defers = [])
    (hr : W.heap[w.heap.size + 1]? = some (varO nm' ty' i' u' tx')) (hb : Below w.heap.size w W) :
    bodyPost Tryd.prog fn (fun e w' => e = .returned (varV nm ty i u tx) ∧ Below w.heap.size w w') .ret a (setVar W (w.heap.size + 1) nm ty i u tx) :=
  bodyPost_ret (results_cell_row h _ _ (w.heap.size + 1) 24 #[.string nm, .int .i64 ty, .int .i64 i, .int .u64 u, .string tx] (0, 0) _ hp (setVar_new hr _ _ _ _ _) Tryd.underlying24 rfl infoVar) hd ⟨rfl, setVar_below hb (by omega) _ _ _ _ _⟩
set_option maxRecDepth 100000 in
set_option maxHeartbeats 4000000 in
theorem specPlain_any (nm tx : ByteArray) (ty i u : Int) (arcs c : List Int) (i' u' : Int) (tx' : List Int) (hn : nm.size ≤ 2147483647) (hz : tx.size ≤ 2147483647) (ha : sArcs (bs nm) = (arcs, true)) (hc : Cont ty i u (bs tx) c i' u' tx') (w : World) :
    Calls Tryd.prog 25 #[varV nm ty i u tx] w fun e w' => e = .returned (varV (strOfNums (sDot arcs)) ty i' u' (strOfNums tx')) ∧ Below w.heap.size w w' := by
  have hbd := sArcs_bounds _ _ ha
  have hao := (sArcs_text _ _ ha).1
  have hl60 := hao.2.1
  have hD := fun A cc W => dotted_any arcs hbd (by omega) A cc W
  obtain ⟨dt, hdt⟩ : ∃ dt, dt = strOfNums (sDot arcs) := ⟨_, rfl⟩
  simp only [← hdt] at hD ⊢
  clear hdt
  have HC := Lib.hid hc
  clear hc
  go_enter Tryd.func25, Tryd.ntmps25
  go_wp2_with fail
  refine (specArcs_any nm hn _).mono ?_
  rintro e w1 ⟨v, rfl, ho, hb⟩
  rw [ha] at ho ⊢
  obtain ⟨A, cc, rfl, hcc, hC⟩ := Kd.R_reads ho
  have hws := hb.size
  simp only [World.size_alloc] at hws
  have hP : w1.heap[w.heap.size]? = some (varO nm ty i u tx) := blk_below (blk_alloc (blk_new w (varO nm ty i u tx)) _) hb
  have hR : w1.heap[w.heap.size + 1]? = some (varO ⟨#[]⟩ 0 0 0 ⟨#[]⟩) := by
    have := blk_below (blk_new (w.alloc (varO nm ty i u tx)) (varO ⟨#[]⟩ 0 0 0 ⟨#[]⟩)) hb
    rw [show (w.alloc (varO nm ty i u tx)).heap.size = w.heap.size + 1 by simp] at this
    exact this
  have hB : Below w.heap.size w w1 := below_step (((Below.refl w.heap.size w).alloc (Nat.le_refl _) _).alloc (by simp) _) hb
  have c1 : w1.cell? ⟨w.heap.size, 1, none⟩ = some (.int .i64 ty) := (blk_cell hP 1).trans rfl
  have HF := Lib.hid (And.intro hP (And.intro hR hB))
  clear hb hP hR hB ho
  go_wp2_with fail
  go_region_held3 (fun w' => w'.cell? ⟨w.heap.size, 1, none⟩ = some (.int .i64 ty)) (first | with_reducible exact cell_drew c1 | with_reducible exact cell_up (cell_drew c1) hb2 | with_reducible exact cell_drew (cell_alloc c1 _) | with_reducible exact cell_alloc (cell_up (cell_drew c1) hb2) _ | with_reducible exact cell_up (cell_drew (cell_alloc c1 _)) hb2 | with_reducible exact setVar_far (cell_up (cell_drew (cell_alloc c1 _)) hb2) (by show w.heap.size ≠ w1.heap.size; omega) _ _ _ _ _) ((go_at_call 32; refine (hD A cc _ (by first | exact hC | exact Kd.C_alloc hC _)).mono ?_; rintro e w2 ⟨rfl, hb2⟩; (first | (have hzz : w2.heap[w1.heap.size]? = some (varO ⟨#[]⟩ 0 0 0 ⟨#[]⟩) := blk_below (blk_drew (blk_new w1 (varO ⟨#[]⟩ 0 0 0 ⟨#[]⟩))) hb2; obtain ⟨z0, z1, z2, z3, z4, y0, y1, y2, y3, y4⟩ := var_cells hzz) | skip)))
  all_goals
    first
    | (have F := plainAt_call (dt := dt) (.inr hws) HF.out.1 HF.out.2.1 HF.out.2.2 hb2
       have F2 := Lib.hid F
       clear F
       generalize w2.alloc (.cells #[.string dt, .int .i64 ty, .int .i64 0, .int .u64 0, .string ⟨#[]⟩] 24) = W3 at F2 ⊢
       generalize w2.heap.size = g at F2 ⊢)
    | (have F := plainAt_alloc (dt := dt) hws HF.out.1 HF.out.2.1 HF.out.2.2 hb2
       have F2 : Hid (PlainAt w w1.heap.size nm ty i u tx dt (((((w2.setCell ⟨w1.heap.size, 0, none⟩ (.string dt)).setCell ⟨w1.heap.size, 1, none⟩ (.int .i64 ty)).setCell ⟨w1.heap.size, 2, none⟩ (.int .i64 0)).setCell ⟨w1.heap.size, 3, none⟩ (.int .u64 0)).setCell ⟨w1.heap.size, 4, none⟩ (.string ⟨#[]⟩))) := Lib.hid F
       clear F
       generalize (((((w2.setCell ⟨w1.heap.size, 0, none⟩ (.string dt)).setCell ⟨w1.heap.size, 1, none⟩ (.int .i64 ty)).setCell ⟨w1.heap.size, 2, none⟩ (.int .i64 0)).setCell ⟨w1.heap.size, 3, none⟩ (.int .u64 0)).setCell ⟨w1.heap.size, 4, none⟩ (.string ⟨#[]⟩)) = W3 at F2 ⊢
       generalize w1.heap.size = g at F2 ⊢)
  all_goals
    obtain ⟨p, r, o, hb3, hlt⟩ := F2.out
    clear F2 hD HF c1 hC
    try clear hb2
    try clear hHeld
    have hc := HC.out
    clear HC
    obtain ⟨p0, p1, p2, p3, p4, -, -, -, -, -⟩ := var_cells p
    obtain ⟨r0, r1, r2, r3, r4, rf0, rf1, rf2, rf3, rf4⟩ := var_cells r
    obtain ⟨o0, o1, o2, o3, o4, of0, of1, of2, of3, of4⟩ := var_cells o
    have HO := Lib.hid (And.intro p (And.intro r (And.intro o hb3)))
    clear p r o hb3
    have n1 : w.heap.size ≠ g := by omega
    have n2 : g ≠ w.heap.size := by omega
    have n3 : w.heap.size + 1 ≠ g := by omega
    have n4 : g ≠ w.heap.size + 1 := by omega
    have n5 : w.heap.size ≤ g := by omega
    cases hc with
    | int h h0 h1 =>
      subst h
      go_wp2
      exact plain_ret _ rfl rfl rfl (W := W3.setCell ⟨g, 2, none⟩ (.int .i64 i)) (blk_far HO.out.2.1 n3 _) (below_set HO.out.2.2.2 n5)
    | oct h h0 =>
      subst h
      go_wp2
      rw [strOfNums_bs]
      exact plain_ret _ rfl rfl rfl (W := W3.setCell ⟨g, 4, none⟩ (.string tx)) (blk_far HO.out.2.1 n3 _) (below_set HO.out.2.2.2 n5)
    | null h =>
      rcases h with rfl | rfl | rfl | rfl
      all_goals
        go_wp2
        exact plain_ret _ rfl rfl rfl (W := W3) HO.out.2.1 HO.out.2.2.2
    | addr h out ha =>
      subst h
      go_wp2
      rw [strOfNums_bs]
      exact plain_ret _ rfl rfl rfl (W := W3.setCell ⟨g, 4, none⟩ (.string tx)) (blk_far HO.out.2.1 n3 _) (below_set HO.out.2.2.2 n5)
    | u32 h h0 =>
      rcases h with rfl | rfl | rfl
      all_goals
        go_wp2
        exact plain_ret _ rfl rfl rfl (W := W3.setCell ⟨g, 3, none⟩ (.int .u64 u)) (blk_far HO.out.2.1 n3 _) (below_set HO.out.2.2.2 n5)
    | u64 h =>
      subst h
      go_wp2
      exact plain_ret _ rfl rfl rfl (W := W3.setCell ⟨g, 3, none⟩ (.int .u64 u)) (blk_far HO.out.2.1 n3 _) (below_set HO.out.2.2.2 n5)
    | oid h arcs2 ha2 =>
      subst h
      go_wp2_with fail
      refine (specArcs_any tx hz _).mono ?_
      rintro e w4 ⟨v4, rfl, ho4, hb4⟩
      rw [ha2] at ho4 ⊢
      obtain ⟨A4, cc4, rfl, hcc4, hC4⟩ := Kd.R_reads ho4
      have hbd4 := sArcs_bounds _ _ ha2
      have hl4 := (sArcs_text _ _ ha2).1.2.1
      have HO4 := Lib.hid (And.intro (blk_below HO.out.1 hb4) (And.intro (blk_below HO.out.2.1 hb4) (And.intro (blk_below HO.out.2.2.1 hb4) (below_step HO.out.2.2.2 hb4))))
      have HC4 := Lib.hid hC4
      clear p0 p1 p2 p3 p4 r0 r1 r2 r3 r4 rf0 rf1 rf2 rf3 rf4 o0 o1 o2 o3 o4 of0 of1 of2 of3 of4 hb4 ho4 HO hC4
      go_wp2_with fail
      refine (dotted_any arcs2 hbd4 (by omega) A4 cc4 _ HC4.out).mono ?_
      rintro e w5 ⟨rfl, hb5⟩
      have HO := Lib.hid (And.intro (blk_below HO4.out.1 hb5) (And.intro (blk_below HO4.out.2.1 hb5) (And.intro (blk_below HO4.out.2.2.1 hb5) (below_step HO4.out.2.2.2 hb5))))
      clear HO4 HC4 hb5 hbd4
      obtain ⟨r0, r1, r2, r3, r4, rf0, rf1, rf2, rf3, rf4⟩ := var_cells HO.out.2.1
      obtain ⟨o0, o1, o2, o3, o4, of0, of1, of2, of3, of4⟩ := var_cells HO.out.2.2.1
      go_wp2
      exact plain_ret _ rfl rfl rfl (W := w5.setCell ⟨g, 4, none⟩ (.string (strOfNums (sDot arcs2)))) (blk_far HO.out.2.1 n3 _) (below_set HO.out.2.2.2 n5)
end Go.Proofs.YtangjgclpipjdaaDoor
