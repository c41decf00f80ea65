/- marshalObjectIdentifier: the walk itself. -/
import Derived.Test.YtacbdhklfgapkaaDoorOidMFnReadInt
set_option linter.unusedVariables false
namespace Go.Proofs.YtacbdhklfgapkaaDoor
open Go.RowKit Go.Proofs.YtacbdhklfgapkaaDoorW.PrintWords Go.Proofs.YtacbdhklfgapkaaDoorW.PrintLast Go.Proofs.YtacbdhklfgapkaaDoorW.PrintMore

/-- What is told of the arcs so far. -/
def encP : List Int → List Int
  | [] => []
  | [_] => []
  | l => sName l
/-- The text of what is left. -/
def Left (post : List Int) (l : List Int) : Prop := Rem post l ∨ ∃ a post', post = a :: post' ∧ Num a post' l

theorem make_own (w : World) (n : Nat) (hn : n ≤ 1000) : ∃ w', (Instr.makeSlice 23 (.int .i64 0) (.int .i64 (n : Int))).run Tryd.prog w = .ok (.slice (some ⟨w.heap.size, 0, none⟩) 0 n) w' ∧ OwnB w' w.heap.size (.slice (some ⟨w.heap.size, 0, none⟩) 0 n) [] ∧ Below w.heap.size w w' := by
  obtain ⟨i, hi, hz⟩ := Option.map_eq_some_iff.1 infoB
  obtain ⟨h3, h4, h5⟩ : i.zero = some (.int .u8 0) ∧ i.size = 1 ∧ i.bytes = 1 := by simpa using hz
  obtain ⟨w', hrun, r1, r2⟩ := run_make_own (P := Tryd.prog) w w.heap.size 23 5 i (.int .u8 0) 1 rfl hi h3 h4 .i64 .i64 n (by rw [h5]; omega) (by simp [maxLen]; omega) (Nat.le_refl _)
  exact ⟨w', hrun, Kd.R_of_own (enc := Value.int .u8) r1 (fun _ _ => trivial), (Below.refl _ _).grown r2 (by simp) (by simp)⟩

theorem figs_app (l m : List Int) : ∀ v, figs (l ++ m) v = figs m (figs l v) := by
  induction l with
  | nil => intro v; rfl
  | cons c l ih => intro v; exact ih _
theorem figs_take (ds : List Int) (h : ∀ d ∈ ds, 48 ≤ d ∧ d ≤ 57) (k : Nat) (hk : k < ds.length) : 48 ≤ ds[k] ∧ ds[k] ≤ 57 ∧ 0 ≤ figs (ds.take k) 0 ∧ figs (ds.take (k + 1)) 0 = figs (ds.take k) 0 * 10 + (ds[k] - 48) ∧ figs (ds.take (k + 1)) 0 ≤ figs ds 0 := by
  obtain ⟨h1, h2⟩ := h ds[k] (List.getElem_mem hk)
  have ht : ∀ d ∈ ds.take k, 48 ≤ d ∧ d ≤ 57 := fun d hd => h d (List.mem_of_mem_take hd)
  have ht2 : ∀ d ∈ ds.take (k + 1), 48 ≤ d ∧ d ≤ 57 := fun d hd => h d (List.mem_of_mem_take hd)
  have hd2 : ∀ d ∈ ds.drop (k + 1), 48 ≤ d ∧ d ≤ 57 := fun d hd => h d (List.mem_of_mem_drop hd)
  have e : figs (ds.take (k + 1)) 0 = figs (ds.take k) 0 * 10 + (ds[k] - 48) := by
    rw [List.take_succ_eq_append_getElem hk, figs_snoc]
    omega
  have p := figs_mono _ ht 0 (Int.le_refl _)
  have p2 := figs_mono _ ht2 0 (Int.le_refl _)
  refine ⟨h1, h2, p, e, ?_⟩
  have := figs_mono _ hd2 (figs (ds.take (k + 1)) 0) p2
  rw [← figs_app, List.take_append_drop] at this
  exact this

theorem app128_own (w : World) {B : Nat} (hB : B = w.heap.size) (wr : World) (v : Value) (l l2 : List Int) (n : Int) (h0 : 0 ≤ n) (h1 : n ≤ 4294967295) (hl : l.length ≤ 900) (ho : OwnB wr B v l) (hb : Below w.heap.size w wr) (he : l ++ b128 n = l2) :
    Calls Tryd.prog 37 #[v, .int .i64 n] wr fun e w' => ∃ v', e = .returned v' ∧ Hid (OwnB w' w.heap.size v' l2 ∧ Below w.heap.size w w') := by
  subst hB
  refine (PFnReadInt.snmp_appendBase128Int.calls 12 (fun _ => True) v l n l2 w wr hb ho (by rw [app128_eq l n h0 h1 hl, he])).mono ?_
  rintro e w' ⟨v', rfl, hr, hb', -⟩
  exact ⟨v', rfl, Lib.hid ⟨Kd.R_mono hr (fun _ _ => trivial), hb'⟩⟩
theorem sName_app (p0 p1 a : Int) (pr : List Int) : sName (p0 :: p1 :: pr) ++ b128 a = sName (p0 :: p1 :: pr ++ [a]) := by
  unfold sName
  simp [b128s, Go.Proofs.YtacbdhklfgapkaaDoorW.PrintWords.rd]
theorem encP_two (p0 a : Int) (h0 : 0 ≤ p0) (h1 : p0 ≤ 2) (h2 : 0 ≤ a) (h3 : a < 40) : [] ++ b128 (p0 * 40 + a) = encP [p0, a] := by
  have e1 : b128 (p0 * 40 + a) = [p0 * 40 + a] := by unfold b128; rw [if_pos (by omega)]
  have e2 : encP [p0, a] = [(40 * p0 + a) % 256] := rfl
  rw [e1, e2]
  simp
  omega

set_option maxRecDepth 100000 in
theorem marshalOid_any (s : ByteArray) (arcs : List Int) (hs : s.size ≤ 600) (h : sArcs (bs s) = (arcs, true)) (w : World) :
    Calls Tryd.prog 34 #[.string s] w fun e w' => GotE w w' (sName arcs) e := by
  obtain ⟨hok, hlen, a0, post0, he0, ht0⟩ := sArcs_text _ _ h
  obtain ⟨w1, hmk, ho1, hb1⟩ := make_own w (s.size / 2) (by omega)
  rw [show ((s.size / 2 : Nat) : Int) = (s.size : Int) / 2 by omega] at hmk
  have hst : Left arcs ((bs s).drop 0) := by
    rcases ht0 with h' | h'
    · exact .inr ⟨a0, post0, he0, h'⟩
    · exact .inl h'
  have HS := Lib.hid (And.intro hok (And.intro hlen (And.intro hst (And.intro ho1 hb1))))
  clear hok hlen hst ho1 hb1 h ht0 he0
  go_enter Tryd.func34, Tryd.ntmps34
  go_wp2
  go_loopg [5, 6, 7, 8] s.size (fun k v5 v6 v7 v8 wr => ∃ (j : Nat) (pre post : List Int), v7 = .int .i64 pre.length ∧ v8 = .int .i64 j ∧ v6 = .int .i64 (rd (pre.take 1) 0) ∧ Hid (arcs = pre ++ post ∧ Left post ((bs s).drop j) ∧ OwnB wr w.heap.size v5 (encP pre) ∧ Below w.heap.size w wr ∧ j ≤ s.size ∧ k = s.size - j ∧ 0 ≤ rd (pre.take 1) 0))
  case atStart =>
    obtain ⟨hok, hlen, hst, ho1, hb1⟩ := HS.out
    exact ⟨0, [], arcs, rfl, rfl, rfl, Lib.hid ⟨rfl, hst, ho1, hb1, Nat.zero_le _, rfl, Int.le_refl _⟩⟩
  case round =>
    obtain ⟨j, pre, post, rfl, rfl, rfl, HJ⟩ := hrel
    obtain ⟨hok, hlen, -, -, -⟩ := HS.out
    obtain ⟨he, hleft, ho, hb, hj, hk, hnn⟩ := HJ.out
    clear HS HJ hmk
    have HO := Lib.hid (And.intro hok (And.intro hlen (And.intro he (And.intro ho (And.intro hb (And.intro hk hnn))))))
    clear hok hlen he ho hb hk hnn
    rcases hleft with hrem | ⟨a, post', hpost, hnum⟩
    · cases post with
      | nil =>
        have hd : (bs s).drop j = [] := by simpa [Rem] using hrem
        have hj2 : j = s.size := by
          have := congrArg List.length hd
          simp [bs] at this
          omega
        clear hrem hd
        obtain ⟨hok, hlen, he, ho, hb, hk, hnn⟩ := HO.out
        clear HO
        rw [List.append_nil] at he
        obtain ⟨o1, o2, o3, o4⟩ := hok
        rw [he] at o1 o2
        have p1 : (2 : Int) ≤ pre.length := by omega
        have p2 : (pre.length : Int) ≤ 60 := by omega
        have HO := Lib.hid (And.intro he (And.intro ho hb))
        clear he ho hb hk hnn o3 o4 hlen
        subst hj2
        go_wp2
        go_ret2
        obtain ⟨rfl, ho, hb⟩ := HO.out
        refine ⟨_, rfl, ?_, hb⟩
        have : encP arcs = sName arcs := by
          unfold encP
          split
          · simp at o1
          · simp at o1
          · rfl
        rw [← this]
        exact ho
      | cons a post' =>
        rw [Rem] at hrem
        obtain ⟨l', hl', hnum⟩ := hrem
        obtain ⟨hjs, hc, hdrop⟩ := char_at s j 46 l' hl'
        have HN := Lib.hid (And.intro hnum (And.intro hdrop hjs))
        clear hnum hdrop hl'
        go_wp2
        go_roundg (s.size - (j + 1))
        case measure =>
          have := HO.out.2.2.2.2.2.1
          have := HN.out.2.2
          omega
        case rel =>
          obtain ⟨hok, hlen, he, ho, hb, hk, hnn⟩ := HO.out
          obtain ⟨hnum, hdrop, hjs⟩ := HN.out
          refine ⟨j + 1, pre, a :: post', rfl, rfl, rfl, Lib.hid ⟨he, .inr ⟨a, post', rfl, ?_⟩, ho, hb, by omega, rfl, hnn⟩⟩
          rw [hdrop]; exact hnum
    · subst hpost
      rw [Num] at hnum
      obtain ⟨ds, l2, hl, hne, hds, hfa, ha, hrem⟩ := hnum
      obtain ⟨d, ds', rfl⟩ := List.exists_cons_of_ne_nil hne
      obtain ⟨hjs, hc, -⟩ := char_at s j d (ds' ++ l2) hl
      have hdb := hds d (by simp)
      have hc46 : (d == 46) = false := beq_eq_false_iff_ne.2 (by omega)
      have HN := Lib.hid (And.intro hl (And.intro hds (And.intro hfa (And.intro ha hrem))))
      obtain ⟨m, hm⟩ : ∃ m, m = (d :: ds').length := ⟨_, rfl⟩
      clear hl hds hfa ha hrem hne hdb
      go_wp2
      go_loopg [8, 9, 10] m (fun g v8 v9 _ w2 => w2 = wr ∧ ∃ k : Nat, v8 = .int .i64 ((j + k : Nat) : Int) ∧ v9 = .int .i64 (figs ((d :: ds').take k) 0) ∧ Hid (g = m - k ∧ k ≤ m))
      case atStart => exact ⟨rfl, 0, rfl, rfl, Lib.hid ⟨rfl, Nat.zero_le _⟩⟩
      case round =>
        obtain ⟨rfl, k, rfl, rfl, HG⟩ := hrel
        obtain ⟨hg, hk⟩ := HG.out
        clear HG
        obtain ⟨hl, hds, hfa, ha, hrem⟩ := HN.out
        by_cases hkm : k < m
        · have G := Lib.hid (And.intro hg (And.intro hk hkm))
          rw [hm] at hkm
          obtain ⟨f1, f2, f3, f4, f5⟩ := figs_take _ hds k hkm
          rw [hfa] at f5
          obtain ⟨hjk, hck, -⟩ := char_at s (j + k) (d :: ds')[k] (((d :: ds') ++ l2).drop (k + 1)) (by
            rw [← List.drop_drop, hl, List.drop_eq_getElem_cons (by simp; simp at hkm; omega), List.getElem_append_left hkm])
          clear hl hds hfa hrem hc hm hg hk
          generalize (d :: ds')[k] = c at *
          generalize hv : figs ((d :: ds').take k) 0 = v at *
          generalize hv' : figs ((d :: ds').take (k + 1)) 0 = v' at *
          have q1 : c ≠ 46 := by omega
          have q2 : (c - 48) % 256 = c - 48 := by omega
          have q3 : v * 10 ≤ 4294967295 := by omega
          have q4 : v * 10 + (c - 48) ≤ 4294967295 := by omega
          have F := Lib.hid (And.intro f4 (And.intro hv hv'))
          clear f4 f5 hv hv' ha
          go_wp2
          go_roundg (m - (k + 1))
          case measure =>
            have := G.out
            omega
          case rel => exact ⟨rfl, k + 1, rfl, by rw [F.out.2.2, F.out.1], Lib.hid ⟨rfl, by have := G.out; omega⟩⟩
        · obtain rfl : k = m := by omega
          rw [show (d :: ds').take k = d :: ds' from List.take_of_length_le (by omega), hfa]
          have hlen2 : j + (d :: ds').length ≤ s.size := by
            have := congrArg List.length hl
            rw [List.length_drop, bs_length, List.length_append] at this
            omega
          have hdm : (bs s).drop (j + k) = l2 := by rw [← List.drop_drop, hl, hm, List.drop_left]
          have hmem := figs_mono _ hds 0 (Int.le_refl _)
          rw [hfa] at hmem
          clear hkm hk hfa hl hds HN hc hg
          obtain ⟨hok, hlen, he, ho, hb, hk, hnn⟩ := HO.out
          rw [← hm] at hlen2
          have hcase : (((j : Int) + k = s.size) ∧ post' = []) ∨ ∃ (hj2 : j + k < s.size), ((s[j + k]'hj2).toNat : Int) = 46 := by
            cases post' with
            | nil =>
              left
              refine ⟨?_, rfl⟩
              have : l2 = [] := by simpa [Rem] using hrem
              rw [this] at hdm
              have := congrArg List.length hdm
              rw [List.length_drop, bs_length, List.length_nil] at this
              omega
            | cons a2 p2 =>
              right
              rw [Rem] at hrem
              obtain ⟨l', hl', -⟩ := hrem
              rw [hl'] at hdm
              obtain ⟨h1, h2, -⟩ := char_at s _ _ _ hdm
              exact ⟨h1, h2⟩
          have harc := hok
          obtain ⟨o1, o2, o3, o4⟩ := harc
          have hml : 1 ≤ k := by rw [hm, List.length_cons]; omega
          have HO := Lib.hid (And.intro hok (And.intro hlen (And.intro he (And.intro ho (And.intro hb (And.intro hk (And.intro hdm (And.intro hrem (And.intro hml (And.intro hnn ha))))))))))
          clear hok hlen ho hb hk hdm hm hrem hml
          rcases pre with _ | ⟨p0, _ | ⟨p1, pr⟩⟩
          · subst he
            have q1 : a ≤ 2 := o3
            clear o1 o2 o3 o4
            rcases hcase with ⟨hj2, rfl⟩ | ⟨hj2, hc⟩
            · have E := Lib.hid hj2
              go_wp2
              go_roundg (s.size - s.size)
              case measure =>
                obtain ⟨hok, hlen, he, ho, hb, hk, hdm, hrem, hml, hnn, ha⟩ := HO.out
                omega
              case rel =>
                obtain ⟨hok, hlen, he, ho, hb, hk, hdm, hrem, hml, hnn, ha⟩ := HO.out
                have hjk : j + k = s.size := by have := E.out; omega
                exact ⟨s.size, [a], [], rfl, rfl, rfl, Lib.hid ⟨rfl, .inl (by rw [← hjk, hdm]; exact hrem), ho, hb, Nat.le_refl _, rfl, hmem⟩⟩
            · have E := Lib.hid hj2
              go_wp2
              go_roundg (s.size - (j + k))
              case measure =>
                obtain ⟨hok, hlen, he, ho, hb, hk, hdm, hrem, hml, hnn, ha⟩ := HO.out
                omega
              case rel =>
                obtain ⟨hok, hlen, he, ho, hb, hk, hdm, hrem, hml, hnn, ha⟩ := HO.out
                exact ⟨j + k, [a], post', rfl, rfl, rfl, Lib.hid ⟨rfl, .inl (by rw [hdm]; exact hrem), ho, hb, by omega, rfl, hmem⟩⟩
          · subst he
            have q1 : p0 ≤ 2 := o3
            have q2 : a < 40 := o4
            have q3 : 0 ≤ p0 := hnn
            clear o1 o2 o3 o4 hnn ha
            have W1 : wrap64 (p0 * 40) = p0 * 40 := by unfold wrap64; omega
            have W2 : wrap64 (p0 * 40 + a) = p0 * 40 + a := by unfold wrap64; omega
            rw [show rd ([p0].take 1) 0 = p0 from rfl]
            rcases hcase with ⟨hj2, rfl⟩ | ⟨hj2, hc⟩
            · have E := Lib.hid hj2
              go_wp2_with fail
              all_goals
                refine (app128_own w rfl wr u5 [] (encP [p0, a]) (p0 * 40 + a) (by omega) (by omega) (by simp) HO.out.2.2.2.1 HO.out.2.2.2.2.1 (encP_two p0 a q3 q1 hmem q2)).mono ?_
                rintro e w2 ⟨v', rfl, HR⟩
                go_wp2
                go_roundg (s.size - s.size)
                case measure =>
                  obtain ⟨hok, hlen, he, ho, hb, hk, hdm, hrem, hml, hnn, ha⟩ := HO.out
                  omega
                case rel =>
                  obtain ⟨hok, hlen, he, ho, hb, hk, hdm, hrem, hml, hnn, ha⟩ := HO.out
                  have hjk : j + k = s.size := by have := E.out; omega
                  exact ⟨s.size, [p0, a], [], rfl, rfl, rfl, Lib.hid ⟨rfl, .inl (by rw [← hjk, hdm]; exact hrem), HR.out.1, HR.out.2, Nat.le_refl _, rfl, q3⟩⟩
            · have E := Lib.hid hj2
              go_wp2_with fail
              all_goals
                refine (app128_own w rfl wr u5 [] (encP [p0, a]) (p0 * 40 + a) (by omega) (by omega) (by simp) HO.out.2.2.2.1 HO.out.2.2.2.2.1 (encP_two p0 a q3 q1 hmem q2)).mono ?_
                rintro e w2 ⟨v', rfl, HR⟩
                go_wp2
                go_roundg (s.size - (j + k))
                case measure =>
                  obtain ⟨hok, hlen, he, ho, hb, hk, hdm, hrem, hml, hnn, ha⟩ := HO.out
                  omega
                case rel =>
                  obtain ⟨hok, hlen, he, ho, hb, hk, hdm, hrem, hml, hnn, ha⟩ := HO.out
                  exact ⟨j + k, [p0, a], post', rfl, rfl, rfl, Lib.hid ⟨rfl, .inl (by rw [hdm]; exact hrem), HR.out.1, HR.out.2, by omega, rfl, q3⟩⟩
          · have hle := sName_len (p0 :: p1 :: pr)
            rw [he] at o2
            have hl9 : (sName (p0 :: p1 :: pr)).length ≤ 900 := by simp at o2 hle; omega
            have HE := Lib.hid he
            clear he hle o1 o3 o4 hnn
            have n0 : ((pr.length : Int) + 1 + 1 == 0) = false := beq_eq_false_iff_ne.2 (by omega)
            have n1 : ((pr.length : Int) + 1 + 1 == 1) = false := beq_eq_false_iff_ne.2 (by omega)
            rw [show (((p0 :: p1 :: pr).length : Nat) : Int) = (pr.length : Int) + 1 + 1 from by simp, show rd ((p0 :: p1 :: pr).take 1) 0 = p0 from rfl]
            have n2 : (pr.length : Int) ≤ 60 := by simp at o2; omega
            clear o2
            rcases hcase with ⟨hj2, rfl⟩ | ⟨hj2, hc⟩
            · have E := Lib.hid hj2
              go_wp2_with fail
              refine (app128_own w rfl wr u5 _ _ a hmem ha (Nat.le_trans (Nat.le_of_eq rfl) hl9) HO.out.2.2.2.1 HO.out.2.2.2.2.1 (sName_app p0 p1 a pr)).mono ?_
              rintro e w2 ⟨v', rfl, HR⟩
              go_wp2
              go_roundg (s.size - s.size)
              case measure =>
                obtain ⟨hok, hlen, he, ho, hb, hk, hdm, hrem, hml, hnn, ha⟩ := HO.out
                omega
              case rel =>
                obtain ⟨hok, hlen, he, ho, hb, hk, hdm, hrem, hml, hnn, ha⟩ := HO.out
                have hjk : j + k = s.size := by have := E.out; omega
                exact ⟨s.size, p0 :: p1 :: pr ++ [a], [], by simp, by first | rfl | (rw [← hjk]), rfl, Lib.hid ⟨by rw [he]; simp, .inl (by rw [← hjk, hdm]; exact hrem), HR.out.1, HR.out.2, Nat.le_refl _, rfl, hnn⟩⟩
            · have E := Lib.hid hj2
              go_wp2_with fail
              refine (app128_own w rfl wr u5 _ _ a hmem ha (Nat.le_trans (Nat.le_of_eq rfl) hl9) HO.out.2.2.2.1 HO.out.2.2.2.2.1 (sName_app p0 p1 a pr)).mono ?_
              rintro e w2 ⟨v', rfl, HR⟩
              go_wp2
              go_roundg (s.size - (j + k))
              case measure =>
                obtain ⟨hok, hlen, he, ho, hb, hk, hdm, hrem, hml, hnn, ha⟩ := HO.out
                omega
              case rel =>
                obtain ⟨hok, hlen, he, ho, hb, hk, hdm, hrem, hml, hnn, ha⟩ := HO.out
                exact ⟨j + k, p0 :: p1 :: pr ++ [a], post', by simp, rfl, rfl, Lib.hid ⟨by rw [he]; simp, .inl (by rw [hdm]; exact hrem), HR.out.1, HR.out.2, by omega, rfl, hnn⟩⟩
end Go.Proofs.YtacbdhklfgapkaaDoor
