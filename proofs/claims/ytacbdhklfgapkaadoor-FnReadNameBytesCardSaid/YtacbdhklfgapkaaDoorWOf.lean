/- spec.OfName: the walk. -/
import Derived.Test.YtacbdhklfgapkaaDoorOfNm
set_option linter.unusedVariables false
namespace Go.Proofs.YtacbdhklfgapkaaDoor
open Go.RowKit Go.Proofs.YtacbdhklfgapkaaDoorW.PrintWords Go.Proofs.YtacbdhklfgapkaaDoorW.PrintLast Go.Proofs.YtacbdhklfgapkaaDoorW.PrintMore

theorem and127c (x : Int) (h0 : 0 ≤ x) (h1 : x < 256) : bits .and .u8 x 127 = x % 128 := by
  have := bits_mask .u8 8 (by decide) wraps_u8 7 (by decide) x h0 (by omega)
  simpa using this
theorem or_low7 (n y : Int) (h0 : 0 ≤ n) (h1 : n < 33554432) (y0 : 0 ≤ y) (y1 : y < 128) : bits .or .u64 (n * 128) y = n * 128 + y := by
  rw [u64_or _ _ (by omega) (by omega) (by omega) (by omega), nat_join 7 _ _ (by omega) (by omega)]
  omega

set_option maxRecDepth 100000 in
set_option maxHeartbeats 4000000 in
theorem specOfName_any (A : Option Addr) (c : Nat) (xs : List Int) (hc : xs.length ≤ c) (hb : IsB xs) (w : World) (hC : Kd.C (Kd.int .u8) w A xs.length xs) :
    Calls Tryd.prog 19 #[.slice A xs.length c] w fun e w' => GotA w w' (sOf xs) e := by
  by_cases c0 : xs.length = 0
  · have he : sOf xs = ([], false) := if_pos (.inl c0)
    have HE := Lib.hid he
    have d0 : ((xs.length : Int) == 0) = true := beq_iff_eq.2 (by omega)
    clear he c0
    go_enter Tryd.func19, Tryd.ntmps19
    go_wp2
    go_ret2
    exact gotA HE.out (OwnU.nil _ _) (Below.refl _ _)
  · obtain ⟨ad, rfl, g0⟩ := Kd.at_int hC 0 (by omega) (by omega)
    rw [show (0 : Int).toNat = 0 from rfl, Addr.add_zero'] at g0
    have d0 : ((xs.length : Int) == 0) = false := beq_eq_false_iff_ne.2 (by omega)
    have m0 : (0 < xs.length) = True := eq_true (by omega)
    have hv := hb.rd 0
    by_cases c1 : 120 ≤ rd xs 0
    · have he : sOf xs = ([], false) := if_pos (.inr (.inl c1))
      have HE := Lib.hid he
      clear he c0
      go_enter Tryd.func19, Tryd.ntmps19
      go_wp2
      go_ret2
      exact gotA HE.out (OwnU.nil _ _) (Below.refl _ _)
    · by_cases c2 : 300 < (xs.length : Int)
      · have he : sOf xs = ([], false) := if_pos (.inr (.inr (by omega)))
        have HE := Lib.hid he
        clear he c0
        go_enter Tryd.func19, Tryd.ntmps19
        go_wp2
        go_ret2
        exact gotA HE.out (OwnU.nil _ _) (Below.refl _ _)
      · have HH := Lib.hid (And.intro hb hC)
        have hal : ∀ o, Below w.heap.size w (w.alloc o).drew := fun o => below_drew ((Below.refl _ _).alloc (Nat.le_refl _) o)
        have hl1 : 1 ≤ (xs.length : Int) := by omega
        have hso : sOf xs = match ofGo (xs.drop 1) [rd xs 0 / 40, rd xs 0 % 40] 0 false with
            | none => ([], false)
            | some (out, op) => (out, !op && decide ((out.length : Int) ≤ 60)) := if_neg (by rintro (h | h | h); exact c0 h; exact c1 h; omega)
        have HS := Lib.hid hso
        clear hb hC c0 hso
        have hv0 := hv.1
        have hv1 := hv.2
        obtain ⟨v, hvd⟩ : ∃ v, v = rd xs 0 := ⟨_, rfl⟩
        rw [← hvd] at g0 hv0 hv1 c1
        have HV := Lib.hid hvd
        clear hvd hv
        go_enter Tryd.func19, Tryd.ntmps19
        go_wp2
        go_region_held (fun w' => w'.cell? ad = some (.int .u8 v)) (first | exact g0 | exact ((hal _).cell (World.block_lt_of_cell? w _ g0)).trans g0) (fail)
        have w1 : IntKind.u64.wrap v = v := wraps_u64 _ hv0 (by omega)
        have w2 : v.tdiv 40 = v / 40 := Int.tdiv_eq_ediv_of_nonneg hv0
        have w3 : v.tmod 40 = v % 40 := Int.tmod_eq_emod_of_nonneg hv0
        have w4 : IntKind.u64.wrap (v / 40) = v / 40 := wraps_u64 _ (by omega) (by omega)
        rw [w1, w2, w3, w4]
        have ho0 : OwnU (w.alloc (.cells #[Value.int .u64 (v / 40), Value.int .u64 (v % 40)] 28)).drew w.heap.size (.slice (some ⟨w.heap.size, 0, none⟩) 2 2) [v / 40, v % 40] := Kd.R_drew (OwnU.lit w _ [v / 40, v % 40] (Nat.le_refl _) (by simp) (by rfl))
        obtain ⟨hb, hC⟩ := HH.out
        obtain ⟨i8, hi8, hz8⟩ := Option.map_eq_some_iff.1 infoB
        have hs8 : i8.size = 1 := by simp at hz8; exact hz8.2.1
        obtain ⟨A8, hcut, hA8, hC8⟩ := print_drop_of (P := Tryd.prog) (Value.int .u8) 0 23 5 .i64 Tryd.underlying23 hi8 hs8 (some ad) c xs 1 (by omega) (by omega) hc
        have hCl := Kd.C_of_reads (h1 := fun _ => rfl) (hA8 _ (Kd.reads_of_C hC))
        rw [show (1 : Int).toNat = 1 from rfl] at hcut hCl
        have hbl : IsB (xs.drop 1) := isB_drop hb 1
        have hll : (xs.drop 1).length ≤ 300 := by rw [List.length_drop]; omega
        have hso := HS.out
        rw [← HV.out] at hso
        have HL := Lib.hid (And.intro hbl (And.intro hCl (And.intro ho0 (And.intro (hal (.cells #[Value.int .u64 (v / 40), Value.int .u64 (v % 40)] 28)) hso))))
        clear hbl hCl ho0 hal hso HS hA8 hC8 hb hC HH hi8 hz8 hs8 w1 w2 w3 w4 g0 HV m0
        generalize xs.drop 1 = l at *
        go_wp2
        obtain ⟨R, hRR⟩ : ∃ R, R = ofGo l [v / 40, v % 40] 0 false := ⟨_, rfl⟩
        have hend : (R = none → sOf xs = ([], false)) ∧ ∀ out op, R = some (out, op) → sOf xs = (out, !op && decide ((out.length : Int) ≤ 60)) := by
          have h := HL.out.2.2.2.2
          rw [← hRR] at h
          exact ⟨fun e => by rw [h, e], fun out op e => by rw [h, e]⟩
        have HE := Lib.hid hend
        have HR0 := Lib.hid hRR
        clear hRR hend
        go_loopg [4, 5, 6, 37] l.length (fun k v4 v5 v6 v37 wr => ∃ (i : Nat) (out : List Int) (n : Int) (op : Bool), v37 = .int .i64 i ∧ v5 = .int .u64 n ∧ v6 = .bool op ∧ Hid (i ≤ l.length ∧ k = l.length - i ∧ 0 ≤ n ∧ n ≤ 4294967295 ∧ OwnU wr w.heap.size v4 out ∧ Below w.heap.size w wr ∧ ofGo (l.drop i) out n op = R ∧ out.length ≤ i + 2))
        case atStart => exact ⟨0, _, 0, false, rfl, rfl, rfl, Lib.hid ⟨Nat.zero_le _, rfl, by omega, by omega, HL.out.2.2.1, HL.out.2.2.2.1, HR0.out.symm, by simp⟩⟩
        case round =>
          obtain ⟨i, out, n, op, rfl, rfl, rfl, HR⟩ := hrel
          obtain ⟨hi, hk, n0, n1, ho, hbw, hR, hol⟩ := HR.out
          by_cases hil : (i : Int) < l.length
          · have hln : i < l.length := by omega
            obtain ⟨ad8, rfl, g⟩ := Kd.at_int (Kd.C_below HL.out.2.1 hbw) i (by omega) hil
            have hrd : rd l i = l[i] := by
              unfold Go.Proofs.YtacbdhklfgapkaaDoorW.PrintWords.rd
              rw [Int.toNat_natCast, List.getD_eq_getElem?_getD, List.getElem?_eq_getElem hln]
              rfl
            rw [hrd, Int.toNat_natCast] at g
            rw [List.drop_eq_getElem_cons hln] at hR
            have hxb := HL.out.1 l[i] (List.getElem_mem hln)
            have HK := Lib.hid (And.intro hi (And.intro hk (And.intro ho (And.intro hbw hol))))
            clear hrd hi hk hbw hol HR HR0
            generalize l[i] = x at *
            have hlt : (i < l.length) = True := eq_true hln
            have x0 := hxb.1
            have x1 := hxb.2
            clear hln hxb
            simp only [ofGo] at hR
            obtain ⟨Ao, co, rfl, hco, hCo⟩ := Kd.R_reads ho
            clear hCo ho
            by_cases hbad : (op = false ∧ x = 128) ∨ n ≥ 33554432
            · have HS := Lib.hid (HE.out.1 (by rw [← hR, if_pos hbad]))
              clear hR
              have hx8 : op = false → n < 33554432 → (x == 128) = true := fun h1 h2 => beq_iff_eq.2 (by rcases hbad with h | h; exact h.2; omega)
              cases op with
              | true =>
                have hbig : 33554432 ≤ n := by rcases hbad with h | h; exact absurd h.1 (by simp); exact h
                clear hbad hx8
                go_wp2
                go_ret2
                exact gotA HS.out (OwnU.nil _ _) HK.out.2.2.2.1
              | false =>
                by_cases hx : x = 128
                · have hxb : (x == 128) = true := beq_iff_eq.2 hx
                  clear hbad hx8 hx
                  go_wp2
                  go_ret2
                  exact gotA HS.out (OwnU.nil _ _) HK.out.2.2.2.1
                · have hxb : (x == 128) = false := beq_eq_false_iff_ne.2 hx
                  have hbig : 33554432 ≤ n := by rcases hbad with h | h; exact absurd h.2 hx; exact h
                  clear hbad hx8 hx
                  go_wp2
                  go_ret2
                  exact gotA HS.out (OwnU.nil _ _) HK.out.2.2.2.1
            · rw [if_neg hbad] at hR
              have hn : n < 33554432 := by omega
              have hxb : op = false → (x == 128) = false := fun h => beq_eq_false_iff_ne.2 (fun e => hbad (.inl ⟨h, e⟩))
              have e1 : IntKind.u64.wrap (n * 128) = n * 128 := wraps_u64 _ (by omega) (by omega)
              have a1 := and127c x x0 (by omega)
              have e2 := or_low7 n (x % 128) n0 hn (by omega) (by omega)
              clear hbad
              by_cases hx7 : x ≤ 127
              · rw [if_pos hx7] at hR
                have hd7 : decide (127 < x) = false := by simp; omega
                have HS := Lib.hid hR
                clear hR
                cases op
                all_goals
                  (try have hxb := hxb rfl)
                  go_wp2_with (at_builtin; refine app_u64s rfl (.tmp 61) (.tmp 63) 35 rfl Tryd.underlying35 infoU64 w.heap.size (.slice Ao out.length co) out [n * 128 + x % 128] (some ⟨wr.heap.size, 0, none⟩) 1 1 rfl rfl (Kd.R_alloc HK.out.2.2.1 _) (litU_C wr (n * 128 + x % 128)) (by have := HK.out.2.2.2.1.size; simp; omega) (by have := HK.out.2.2.2.2; have := HK.out.1; omega) ?_; intro v1 w3 ho3 hg3 hat3)
                  go_roundg (l.length - (i + 1))
                  case measure =>
                    have := HK.out.2.1
                    omega
                  case rel =>
                    obtain ⟨hi, hk, ho, hbw, hol⟩ := HK.out
                    exact ⟨i + 1, out ++ [n * 128 + x % 128], 0, false, by go_num, rfl, by first | rfl | (congr 1; simp; omega) | (congr 1; simpa using hx7), Lib.hid ⟨by omega, rfl, by omega, by omega, ho3, (hbw.alloc hbw.size _).grown hg3 (by have := hbw.size; simp; omega) (fun k hk => OwnU.block ho k hk), HS.out, by simp; omega⟩⟩
              · rw [if_neg hx7] at hR
                have hd7 : decide (127 < x) = true := by simp; omega
                have hx9 : 127 < x := by omega
                have HS := Lib.hid hR
                clear hR
                cases op
                all_goals
                  (try have hxb := hxb rfl)
                  go_wp2
                  go_roundg (l.length - (i + 1))
                  case measure =>
                    have := HK.out.2.1
                    omega
                  case rel =>
                    obtain ⟨hi, hk, ho, hbw, hol⟩ := HK.out
                    exact ⟨i + 1, out, n * 128 + x % 128, true, by go_num, rfl, by first | rfl | (congr 1; simp; omega), Lib.hid ⟨by omega, rfl, by omega, by omega, ho, hbw, HS.out, by omega⟩⟩
          · rw [List.drop_of_length_le (by omega)] at hR
            simp only [ofGo] at hR
            have HS := Lib.hid (HE.out.2 out op hR.symm)
            obtain ⟨Ao, co, rfl, hco, hCo⟩ := Kd.R_reads ho
            have HK := Lib.hid (And.intro ho hbw)
            clear hR hCo ho hbw HR HR0
            cases op
            all_goals
              go_wp2
              go_ret2
              exact gotA HS.out HK.out.1 HK.out.2
end Go.Proofs.YtacbdhklfgapkaaDoor
