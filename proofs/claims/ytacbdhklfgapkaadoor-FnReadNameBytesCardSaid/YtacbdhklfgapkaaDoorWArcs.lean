/- spec.Arcs: the walk. -/
import Derived.Test.YtacbdhklfgapkaaDoorWName
set_option linter.unusedVariables false
namespace Go.Proofs.YtacbdhklfgapkaaDoor
open Go.RowKit Go.Proofs.YtacbdhklfgapkaaDoorW.PrintWords Go.Proofs.YtacbdhklfgapkaaDoorW.PrintLast Go.Proofs.YtacbdhklfgapkaaDoorW.PrintMore

/-- A row of uint64 of the call's own. -/
def OwnU (w : World) (B : Nat) (v : Value) (xs : List Int) : Prop := Kd.R (Kd.int .u64) 28 w B (fun _ => True) v xs
theorem OwnU.lit (w : World) (B : Nat) (xs : List Int) (hB : B ≤ w.heap.size) (h : xs.length ≤ 9223372036854775807) {cs : Array Value} (hc : cs.toList = xs.map (Value.int .u64)) :
    OwnU (w.alloc (.cells cs 28)) B (.slice (some ⟨w.heap.size, 0, none⟩) xs.length xs.length) xs := by
  obtain ⟨l⟩ := cs
  simp only at hc
  subst hc
  have := own_lit_of (enc := Value.int .u64) w B 28 xs hB h
  exact Kd.R_of_own this (fun _ _ => trivial)
/-- 'append(s, x...)' of uint64, s a row of the call's own. -/
theorem app_u64s {P : Program} {W : World} {ops : Array Oper} {rest : List Oper} {o : Oper} {a : Act} {Q : Exit → Act → World → Prop} (hgd : o.guard = none) (s x : Operand) (t : TypeId)
    (ho : o.op = .call { callee := .builtin .append, args := #[s, x], argTypes := #[t, t] }) (ht : P.underlying t = some (.slice 28)) (hinfo : (P.info? 28).map (fun i => (i.zero, i.size, i.bytes)) = some (some (.int .u64 0), 1, 8))
    (B : Nat) (v : Value) (xs ys : List Int) (A : Option Addr) (m c : Nat) (hs : a.eval s = v) (hx : a.eval x = .slice A m c) (HO : OwnU W B v xs) (HR : Kd.C (Kd.int .u64) W A m ys) (hB : B ≤ W.heap.size) (hl : xs.length + m ≤ 17592186044416)
    (h : ∀ v1 w1, OwnU w1 B v1 (xs ++ ys) → W.grownBy w1 v.ownBlock → (v1.ownBlock = v.ownBlock ∨ ∃ b, v1.ownBlock = some b ∧ W.heap.size ≤ b) → wpList P ops Q rest (a.put o.dst v1) w1) : wpList P ops Q (o :: rest) a W := by
  refine Kd.R_append_rows (Kd.int .u64) (w0 := W) B hgd s x t 28 (.int .u64 0) 8 ho ht hinfo rfl (by decide) (by omega) v xs ys A m c (fun _ => True) (fun _ => False) hs hx HO HR ?_ (fun _ hk => hk.elim) (fun _ _ => trivial) (Below.refl _ _) hB (by omega) ?_
  · intro x cs h; exact h
  · intro v1 w1 h1 _ hg hat
    exact h v1 w1 h1 hg hat

def finA : Option (List Int) → List Int × Bool
  | none => ([], false)
  | some out => if arcsOk out then (out, decide ((sName out).length ≤ 100)) else (out, false)
theorem sArcs_finA (s : List Int) : sArcs s = finA (arcsGo (strip s) [] 0 false) := by
  unfold sArcs finA
  cases arcsGo (strip s) [] 0 false <;> rfl

theorem arcs_start (s : ByteArray) (hs : s.size ≤ 2147483647) : ∃ t : ByteArray, strip (bs s) = bs t ∧ t.size ≤ 2147483647 ∧ ((∃ h : 0 < s.size, ((s[0]'h).toNat : Int) = 46 ∧ s.extract 1 s.size = t) ∨ (∃ h : 0 < s.size, ((((s[0]'h).toNat : Int) == 46) = false) ∧ t = s) ∨ (s.size = 0 ∧ t = s)) := by
  cases hb : bs s with
  | nil =>
    have : s.size = 0 := by have := congrArg List.length hb; rw [bs_length] at this; simpa using this
    exact ⟨s, by rw [hb]; rfl, hs, .inr (.inr ⟨this, rfl⟩)⟩
  | cons c l =>
    obtain ⟨h, h1, h2⟩ := char_at s 0 c l hb
    by_cases hc : c = 46
    · refine ⟨s.extract 1 s.size, ?_, by simp; omega, .inl ⟨h, by rw [h1, hc], rfl⟩⟩
      subst hc
      show l = _
      rw [← h2]
      unfold bs
      simp
      exact (List.take_of_length_le (by simp)).symm
    · refine ⟨s, ?_, hs, .inr (.inl ⟨h, beq_eq_false_iff_ne.2 (by rw [h1]; exact hc), rfl⟩)⟩
      rw [hb]
      unfold strip
      split
      · rename_i heq; injection heq with e1 e2; exact absurd e1 hc
      · rfl

def GotA (w w' : World) (R : List Int × Bool) (e : Ending) : Prop := ∃ v, e = .returned (.tuple #[v, .bool R.2]) ∧ OwnU w' w.heap.size v R.1 ∧ Below w.heap.size w w'
theorem gotA {w w' : World} {R : List Int × Bool} {v : Value} {xs : List Int} {b : Bool} (h : R = (xs, b)) (ho : OwnU w' w.heap.size v xs) (hb : Below w.heap.size w w') : GotA w w' R (.returned (.tuple #[v, .bool b])) := by
  subst h
  exact ⟨v, rfl, ho, hb⟩
theorem litU_C (w : World) (n : Int) : Kd.C (Kd.int .u64) (w.alloc (.cells #[Value.int .u64 n] 28)) (some ⟨w.heap.size, 0, none⟩) 1 [n] := by
  obtain ⟨A, c, e, _, hC⟩ := Kd.R_reads (OwnU.lit w w.heap.size [n] (Nat.le_refl _) (by simp) (cs := #[Value.int .u64 n]) (by rfl))
  injection e with e1 e2 e3
  rw [e1]
  exact hC
theorem OwnU.block {w : World} {B : Nat} {v : Value} {xs : List Int} (h : OwnU w B v xs) (k : Nat) (hk : v.ownBlock = some k) : B ≤ k := ((Kd.R_bound h).1 k hk).2.1
theorem finA_no (out : List Int) (h : ¬ arcsOk out) : finA (some out) = (out, false) := by simp [finA, h]
theorem OwnU.nil (w : World) (B : Nat) : OwnU w B (.slice none 0 0) [] := Kd.R_nil (Kd.int .u64) _ _ _ _

theorem arcsGo_bounds (l : List Int) : ∀ (out : List Int) (n : Int) (sm : Bool) (r : List Int), arcsGo l out n sm = some r → 0 ≤ n → n ≤ 4294967295 → (∀ x ∈ out, 0 ≤ x ∧ x ≤ 4294967295) → ∀ x ∈ r, 0 ≤ x ∧ x ≤ 4294967295 := by
  have snoc : ∀ (out : List Int) (n : Int), 0 ≤ n → n ≤ 4294967295 → (∀ x ∈ out, 0 ≤ x ∧ x ≤ 4294967295) → ∀ x ∈ out ++ [n], 0 ≤ x ∧ x ≤ 4294967295 := by
    intro out n h0 h1 ha x hx
    rcases List.mem_append.1 hx with h' | h'
    · exact ha x h'
    · rw [List.mem_singleton.1 h']; exact ⟨h0, h1⟩
  induction l with
  | nil =>
    intro out n sm r h h0 h1 ha
    cases sm with
    | false => simp [arcsGo] at h
    | true =>
      simp [arcsGo] at h
      rw [← h]
      exact snoc out n h0 h1 ha
  | cons c l ih =>
    intro out n sm r h h0 h1 ha
    simp only [arcsGo] at h
    by_cases hc : c = 46
    · rw [if_pos hc] at h
      cases sm with
      | false => simp at h
      | true =>
        simp only [if_true] at h
        exact ih _ _ _ _ h (by omega) (by omega) (snoc out n h0 h1 ha)
    · rw [if_neg hc] at h
      by_cases hg : c < 48 ∨ c > 57 ∨ (sm = true ∧ n = 0) ∨ 10 * n + (c - 48) ≥ 4294967296
      · rw [if_pos hg] at h; cases h
      · rw [if_neg hg] at h
        exact ih _ _ _ _ h (by omega) (by omega) ha
theorem sArcs_bounds (s : List Int) (arcs : List Int) (h : sArcs s = (arcs, true)) : ∀ x ∈ arcs, 0 ≤ x ∧ x ≤ 4294967295 := by
  unfold sArcs at h
  cases e : arcsGo (strip s) [] 0 false with
  | none => rw [e] at h; simp at h
  | some out =>
    rw [e] at h
    simp only at h
    by_cases ho : arcsOk out
    · rw [if_pos ho] at h
      simp at h
      rw [← h.1]
      exact arcsGo_bounds _ _ _ _ _ e (by omega) (by omega) (by simp)
    · rw [if_neg ho] at h; simp at h

set_option maxRecDepth 100000 in
set_option maxHeartbeats 8000000 in
theorem specArcs_any (s : ByteArray) (hs : s.size ≤ 2147483647) (w : World) :
    Calls Tryd.prog 15 #[.string s] w fun e w' => GotA w w' (sArcs (bs s)) e := by
  obtain ⟨t, hst, hz, hcase⟩ := arcs_start s hs
  rw [sArcs_finA, hst]
  clear hst hs
  have ho0 : OwnU (w.alloc (.cells #[] 28)) w.heap.size (.slice (some ⟨w.heap.size, 0, none⟩) 0 0) [] := OwnU.lit w _ [] (Nat.le_refl _) (by simp) (by rfl)
  have HO0 := Lib.hid (And.intro ho0 ((Below.refl w.heap.size w).alloc (Nat.le_refl _) (.cells #[] 28)))
  clear ho0
  rcases hcase with ⟨h, h46, hext⟩ | ⟨h, h46, rfl⟩ | ⟨hp, rfl⟩
  all_goals
    obtain ⟨R, hR⟩ : ∃ R, R = arcsGo (bs t) [] 0 false := ⟨_, rfl⟩
    rw [← hR]
    have HRR := Lib.hid hR
    clear hR
    go_enter Tryd.func15, Tryd.ntmps15
    go_wp2_with fail
    go_loopg [4, 5, 6, 7] (t.size + 1) (fun g v4 v5 v6 v7 wr => ∃ (i : Nat) (out : List Int) (n : Int) (sm : Bool), v7 = .int .i64 i ∧ v5 = .int .u64 n ∧ v6 = .bool sm ∧ Hid (g = t.size + 1 - i ∧ 0 ≤ n ∧ n ≤ 4294967295 ∧ OwnU wr w.heap.size v4 out ∧ Below w.heap.size w wr ∧ out.length ≤ i ∧ (∀ x ∈ out, 0 ≤ x ∧ x ≤ 4294967295) ∧ ((i ≤ t.size ∧ arcsGo ((bs t).drop i) out n sm = R) ∨ (i = t.size + 1 ∧ R = some out))))
    case atStart => exact ⟨0, [], 0, false, rfl, rfl, rfl, Lib.hid ⟨rfl, by omega, by omega, HO0.out.1, HO0.out.2, by simp, by simp, .inl ⟨Nat.zero_le _, HRR.out.symm⟩⟩⟩
    case round =>
      try clear hp
      obtain ⟨i, out, n, sm, rfl, rfl, rfl, HR⟩ := hrel
      obtain ⟨hg, n0, n1, ho, hb, hlen, hall, hst⟩ := HR.out
      have HK := Lib.hid (And.intro hg (And.intro ho (And.intro hb (And.intro hlen hall))))
      clear hg ho hb hlen hall HO0 HRR HR
      rcases hst with ⟨hi, hR⟩ | ⟨rfl, hR⟩
      · by_cases hi2 : i = t.size
        · subst hi2
          rw [List.drop_of_length_le (by rw [bs_length]; omega)] at hR
          cases sm with
          | false =>
            have HS := Lib.hid (show finA R = ([], false) by rw [← hR]; rfl)
            clear hR
            go_wp2
            go_ret2
            exact gotA HS.out (OwnU.nil _ _) HK.out.2.2.1
          | true =>
            obtain ⟨A, c0, rfl, hcc, hC⟩ := Kd.R_reads HK.out.2.1
            have HS := Lib.hid (show R = some (out ++ [n]) by rw [← hR]; rfl)
            clear hR hC
            go_wp2_with (at_builtin; refine app_u64s rfl (.tmp 37) (.tmp 39) 35 rfl Tryd.underlying35 infoU64 w.heap.size (.slice A out.length c0) out [n] (some ⟨wr.heap.size, 0, none⟩) 1 1 rfl rfl (Kd.R_alloc HK.out.2.1 _) (litU_C wr n) (by have := HK.out.2.2.1.size; simp; omega) (by have := HK.out.2.2.2.1; omega) ?_; intro v1 w3 ho3 hg3 hat3)
            go_roundg 0
            case measure =>
              have := HK.out.1
              omega
            case rel =>
              obtain ⟨hg, ho, hb, hlen, hall⟩ := HK.out
              exact ⟨t.size + 1, out ++ [n], 0, false, by go_num, rfl, rfl, Lib.hid ⟨by omega, by omega, by omega, ho3, (hb.alloc hb.size _).grown hg3 (by have := hb.size; simp; omega) (fun k hk => OwnU.block ho k hk), by simp; omega, by intro x hx; rcases List.mem_append.1 hx with h' | h'; exact hall x h'; rw [List.mem_singleton.1 h']; omega, .inr ⟨rfl, HS.out⟩⟩⟩
        · have hil : i < t.size := by omega
          obtain ⟨c, l, hcl⟩ : ∃ c l, (bs t).drop i = c :: l := ⟨_, _, List.drop_eq_getElem_cons (by rw [bs_length]; exact hil)⟩
          obtain ⟨hit, hc, hdr⟩ := char_at t i c l hcl
          rw [hcl] at hR
          have hc0 : 0 ≤ c := by omega
          have hc1 : c ≤ 255 := by have := (t[i]'hit).toNat_lt; omega
          have hin : ((i : Int) == t.size) = false := beq_eq_false_iff_ne.2 (by omega)
          by_cases c46 : c = 46
          · subst c46
            cases sm with
            | false =>
              have HS := Lib.hid (show finA R = ([], false) by rw [← hR]; rfl)
              clear hR hcl hdr
              go_wp2
              go_ret2
              exact gotA HS.out (OwnU.nil _ _) HK.out.2.2.1
            | true =>
              obtain ⟨A, c0, rfl, hcc, hC⟩ := Kd.R_reads HK.out.2.1
              have HS := Lib.hid (show arcsGo ((bs t).drop (i + 1)) (out ++ [n]) 0 false = R by rw [← hR, hdr]; rfl)
              clear hR hcl hdr hC
              go_wp2_with (at_builtin; refine app_u64s rfl (.tmp 37) (.tmp 39) 35 rfl Tryd.underlying35 infoU64 w.heap.size (.slice A out.length c0) out [n] (some ⟨wr.heap.size, 0, none⟩) 1 1 rfl rfl (Kd.R_alloc HK.out.2.1 _) (litU_C wr n) (by have := HK.out.2.2.1.size; simp; omega) (by have := HK.out.2.2.2.1; omega) ?_; intro v1 w3 ho3 hg3 hat3)
              go_roundg (t.size + 1 - (i + 1))
              case measure =>
                have := HK.out.1
                omega
              case rel =>
                obtain ⟨hg, ho, hb, hlen, hall⟩ := HK.out
                exact ⟨i + 1, out ++ [n], 0, false, by go_num, rfl, rfl, Lib.hid ⟨by omega, by omega, by omega, ho3, (hb.alloc hb.size _).grown hg3 (by have := hb.size; simp; omega) (fun k hk => OwnU.block ho k hk), by simp; omega, by intro x hx; rcases List.mem_append.1 hx with h' | h'; exact hall x h'; rw [List.mem_singleton.1 h']; omega, .inl ⟨by omega, HS.out⟩⟩⟩
          · have h46' : (c == 46) = false := beq_eq_false_iff_ne.2 c46
            simp only [arcsGo, if_neg c46] at hR
            by_cases c48 : c < 48
            · rw [if_pos (.inl c48)] at hR
              have HS := Lib.hid (show finA R = ([], false) by rw [← hR]; rfl)
              clear hR hcl hdr
              go_wp2
              go_ret2
              exact gotA HS.out (OwnU.nil _ _) HK.out.2.2.1
            by_cases c57 : 57 < c
            · rw [if_pos (.inr (.inl c57))] at hR
              have HS := Lib.hid (show finA R = ([], false) by rw [← hR]; rfl)
              clear hR hcl hdr
              go_wp2
              go_ret2
              exact gotA HS.out (OwnU.nil _ _) HK.out.2.2.1
            have e1 : IntKind.u64.wrap (10 * n) = 10 * n := wraps_u64 _ (by omega) (by omega)
            have e2 : (c - 48) % 256 = c - 48 := by omega
            have e3 : IntKind.u64.wrap (10 * n + (c - 48)) = 10 * n + (c - 48) := wraps_u64 _ (by omega) (by omega)
            have hgo : (¬ (sm = true ∧ n = 0)) → ¬ (10 * n + (c - 48) ≥ 4294967296) → arcsGo ((bs t).drop (i + 1)) out (10 * n + (c - 48)) true = R := by
              intro h1 h2
              rw [if_neg (by rintro (h | h | h | h); exact absurd h c48; exact absurd h c57; exact h1 h; exact h2 h)] at hR
              rw [hdr]; exact hR
            have hno : ((sm = true ∧ n = 0) ∨ 10 * n + (c - 48) ≥ 4294967296) → finA R = ([], false) := by
              intro h1
              rw [if_pos (.inr (.inr h1))] at hR
              rw [← hR]; rfl
            have HGO := Lib.hid (And.intro hgo hno)
            clear hgo hno hR hcl hdr
            cases sm with
            | true =>
              by_cases hn : n = 0
              · have hnb : (n == 0) = true := beq_iff_eq.2 hn
                clear hn e1 e3
                go_wp2
                go_ret2
                exact gotA (HGO.out.2 (.inl (by first | exact ⟨rfl, beq_iff_eq.1 hnb⟩ | exact ⟨trivial, beq_iff_eq.1 hnb⟩))) (OwnU.nil _ _) HK.out.2.2.1
              · have hnb : (n == 0) = false := beq_eq_false_iff_ne.2 hn
                by_cases hbig : 4294967296 ≤ 10 * n + (c - 48)
                · go_wp2
                  go_ret2
                  exact gotA (HGO.out.2 (.inr hbig)) (OwnU.nil _ _) HK.out.2.2.1
                · go_wp2
                  go_roundg (t.size + 1 - (i + 1))
                  case measure =>
                    have := HK.out.1
                    omega
                  case rel =>
                    obtain ⟨hg, ho, hb, hlen, hall⟩ := HK.out
                    exact ⟨i + 1, out, 10 * n + (c - 48), true, by go_num, rfl, rfl, Lib.hid ⟨by omega, by omega, by omega, ho, hb, by omega, hall, .inl ⟨by omega, HGO.out.1 (by simp; exact hn) (by omega)⟩⟩⟩
            | false =>
              by_cases hbig : 4294967296 ≤ 10 * n + (c - 48)
              · go_wp2
                go_ret2
                exact gotA (HGO.out.2 (.inr hbig)) (OwnU.nil _ _) HK.out.2.2.1
              · go_wp2
                go_roundg (t.size + 1 - (i + 1))
                case measure =>
                  have := HK.out.1
                  omega
                case rel =>
                  obtain ⟨hg, ho, hb, hlen, hall⟩ := HK.out
                  exact ⟨i + 1, out, 10 * n + (c - 48), true, by go_num, rfl, rfl, Lib.hid ⟨by omega, by omega, by omega, ho, hb, by omega, hall, .inl ⟨by omega, HGO.out.1 (by simp) (by omega)⟩⟩⟩
      · have HS := Lib.hid hR
        clear hR
        obtain ⟨A, c, rfl, hcc, hC⟩ := Kd.R_reads HK.out.2.1
        obtain ⟨hg, ho, hb, hlen, hall⟩ := HK.out
        have hRo := HS.out
        by_cases hl2 : 2 ≤ (out.length : Int)
        · obtain ⟨ad, rfl, g0⟩ := Kd.at_int hC 0 (by omega) (by omega)
          obtain ⟨ad', ea, g1⟩ := Kd.at_int hC 1 (by omega) (by omega)
          obtain rfl : ad = ad' := by injection ea
          rw [show (0 : Int).toNat = 0 from rfl, Addr.add_zero'] at g0
          simp only [show (1 : Int).toNat = 1 from rfl, Go.Addr.add, Nat.reduceEqDiff, if_false] at g1
          have m0 : (0 < out.length) = True := eq_true (by omega)
          have m1 : (1 < out.length) = True := eq_true (by omega)
          by_cases hok : arcsOk out
          · have hok' := hok
            obtain ⟨-, o2, o3, o4⟩ := hok
            have o2' : (out.length : Int) ≤ 60 := by omega
            have HH := Lib.hid (And.intro ho (And.intro hb (And.intro (show finA R = (out, decide (((sName out).length : Int) ≤ 100)) by rw [hRo]; simp [finA, hok']; omega) (And.intro hall hC))))
            clear hok' ho hb hRo hall hC ea hg hlen HK HS
            go_wp2_with fail
            refine (specName_any out (by omega) o2 HH.out.2.2.2.1 _ c hcc wr HH.out.2.2.2.2).mono ?_
            rintro e w2 ⟨v2, rfl, ho2, hb2⟩
            obtain ⟨A2, c2, rfl, hcc2, hC2⟩ := Kd.R_reads ho2
            have H2 := Lib.hid (And.intro (Kd.R_below HH.out.1 hb2) (below_step HH.out.2.1 hb2))
            clear ho2 hb2 hC2
            go_wp2
            go_ret2
            exact gotA HH.out.2.2.1 H2.out.1 H2.out.2
          · have HH := Lib.hid (And.intro ho (And.intro hb (show finA R = (out, false) by rw [hRo, finA_no _ hok])))
            have hno := Lib.hid hok
            clear ho hb hRo hall hC ea hg hlen HK HS hok
            go_wp2_with fail
            all_goals first | exact absurd (show arcsOk out from ⟨by omega, by omega, by assumption, by assumption⟩) hno.out | (go_ret2; exact gotA HH.out.2.2 HH.out.1 HH.out.2.1)
        · have HH := Lib.hid (And.intro ho (And.intro hb (show finA R = (out, false) by rw [hRo, finA_no _ (by unfold arcsOk; omega)])))
          clear ho hb hRo hall hC hg hlen HK HS
          go_wp2
          go_ret2
          exact gotA HH.out.2.2 HH.out.1 HH.out.2.1
end Go.Proofs.YtacbdhklfgapkaaDoor
