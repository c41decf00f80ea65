/- The lemmas and walks that FnEncode rests on, part 8: OidWFnValue UintMFnValue Vb Vb2 IpP Net Net2 Net3 Ip. -/
import Derived.Lib.ConvBytes
import Derived.Laws.AppendOwn
import Derived.LaidEql
import Derived.Laws.Pointers
import Derived.ChangeSlices
import Derived.OpenShut
import Derived.Test.YtangjgclpipjdaaDoorQE3
import Derived.Test.YtangjgclpipjdaaDoorQE4
import Derived.Test.YtangjgclpipjdaaDoorQE6
import Derived.Test.YtangjgclpipjdaaDoorQE7
set_option linter.unusedVariables false
namespace Go.Proofs.YtangjgclpipjdaaDoor
open Go.RowKit Go.Proofs.YtangjgclpipjdaaDoorW.PrintWords Go.Proofs.YtangjgclpipjdaaDoorW.PrintLast Go.Proofs.YtangjgclpipjdaaDoorW.PrintMore
/-- What is told of the arcs so far. -/
def encP : List Int → List Int
  | [] => []
  | [_] => []
  | l => sName l
/-- The text of what is left. -/
def Left (post : List Int) (l : List Int) : Prop := Rem post l ∨ ∃ a post', post = a :: post' ∧ Num a post' l
set_option maxRecDepth 100000 in
theorem make_own (w : World) (n : Nat) (hn : n ≤ 1000) : ∃ w', (Instr.makeSlice 26 (.int .i64 0) (.int .i64 (n : Int))).run Tryd.prog w = .ok (.slice (some ⟨w.heap.size, 0, none⟩) 0 n) w' ∧ OwnB w' w.heap.size (.slice (some ⟨w.heap.size, 0, none⟩) 0 n) [] ∧ Below w.heap.size w w' := by
  obtain ⟨i, hi, hz⟩ := Option.map_eq_some_iff.1 infoB
  obtain ⟨h3, h4, h5⟩ : i.zero = some (.int .u8 0) ∧ i.size = 1 ∧ i.bytes = 1 := by simpa using hz
  obtain ⟨w', hrun, r1, r2⟩ := run_make_own (P := Tryd.prog) w w.heap.size 26 5 i (.int .u8 0) 1 rfl hi h3 h4 .i64 .i64 n (by rw [h5]; omega) (by simp [maxLen]; omega) (Nat.le_refl _)
  exact ⟨w', hrun, Kd.R_of_own (enc := Value.int .u8) r1 (fun _ _ => trivial), (Below.refl _ _).grown r2 (by simp) (by simp)⟩
theorem figs_app (l m : List Int) : ∀ v, figs (l ++ m) v = figs m (figs l v) := by
  induction l with
  | nil => intro v; rfl
  | cons c l ih => intro v; exact ih _
theorem figs_take (ds : List Int) (h : ∀ d ∈ ds, 48 ≤ d ∧ d ≤ 57) (k : Nat) (hk : k < ds.length) : 48 ≤ ds[k] ∧ ds[k] ≤ 57 ∧ 0 ≤ figs (ds.take k) 0 ∧ figs (ds.take (k + 1)) 0 = figs (ds.take k) 0 * 10 + (ds[k] - 48) ∧ figs (ds.take (k + 1)) 0 ≤ figs ds 0 := by
  obtain ⟨h1, h2⟩ := h ds[k] (List.getElem_mem hk)
  have ht : ∀ d ∈ ds.take k, 48 ≤ d ∧ d ≤ 57 := fun d hd => h d (List.mem_of_mem_take hd)
  have ht2 : ∀ d ∈ ds.take (k + 1), 48 ≤ d ∧ d ≤ 57 := fun d hd => h d (List.mem_of_mem_take hd)
  have hd2 : ∀ d ∈ ds.drop (k + 1), 48 ≤ d ∧ d ≤ 57 := fun d hd => h d (List.mem_of_mem_drop hd)
  have e : figs (ds.take (k + 1)) 0 = figs (ds.take k) 0 * 10 + (ds[k] - 48) := by
    rw [List.take_succ_eq_append_getElem hk, figs_snoc]
    omega
  have p := figs_mono _ ht 0 (Int.le_refl _)
  have p2 := figs_mono _ ht2 0 (Int.le_refl _)
  refine ⟨h1, h2, p, e, ?_⟩
  have := figs_mono _ hd2 (figs (ds.take (k + 1)) 0) p2
  rw [← figs_app, List.take_append_drop] at this
  exact this
theorem app128_own (w : World) {B : Nat} (hB : B = w.heap.size) (wr : World) (v : Value) (l l2 : List Int) (n : Int) (h0 : 0 ≤ n) (h1 : n ≤ 4294967295) (hl : l.length ≤ 900) (ho : OwnB wr B v l) (hb : Below w.heap.size w wr) (he : l ++ b128 n = l2) :
    Calls Tryd.prog 90 #[v, .int .i64 n] wr fun e w' => ∃ v', e = .returned v' ∧ Hid (OwnB w' w.heap.size v' l2 ∧ Below w.heap.size w w') := by
  subst hB
  refine (PFnValue.snmp_appendBase128Int.calls 12 (fun _ => True) v l n l2 w wr hb ho (by rw [app128_eq l n h0 h1 hl, he])).mono ?_
  rintro e w' ⟨v', rfl, hr, hb', -⟩
  exact ⟨v', rfl, Lib.hid ⟨Kd.R_mono hr (fun _ _ => trivial), hb'⟩⟩
theorem sName_app (p0 p1 a : Int) (pr : List Int) : sName (p0 :: p1 :: pr) ++ b128 a = sName (p0 :: p1 :: pr ++ [a]) := by
  unfold sName
  simp [b128s, Go.Proofs.YtangjgclpipjdaaDoorW.PrintWords.rd]
theorem encP_two (p0 a : Int) (h0 : 0 ≤ p0) (h1 : p0 ≤ 2) (h2 : 0 ≤ a) (h3 : a < 40) : [] ++ b128 (p0 * 40 + a) = encP [p0, a] := by
  have e1 : b128 (p0 * 40 + a) = [p0 * 40 + a] := by unfold b128; rw [if_pos (by omega)]
  have e2 : encP [p0, a] = [(40 * p0 + a) % 256] := rfl
  rw [e1, e2]
  simp
  omega
set_option maxRecDepth 100000 in
theorem marshalOid_any (s : ByteArray) (arcs : List Int) (hs : s.size ≤ 1000) (h : sArcs (bs s) = (arcs, true)) (w : World) :
    Calls Tryd.prog 56 #[.string s] w fun e w' => GotE w w' (sName arcs) e := by
  obtain ⟨hok, hlen, a0, post0, he0, ht0⟩ := sArcs_text _ _ h
  obtain ⟨w1, hmk, ho1, hb1⟩ := make_own w (s.size / 2) (by omega)
  rw [show ((s.size / 2 : Nat) : Int) = (s.size : Int) / 2 by omega] at hmk
  have hst : Left arcs ((bs s).drop 0) := by
    rcases ht0 with h' | h'
    · exact .inr ⟨a0, post0, he0, h'⟩
    · exact .inl h'
  have HS := Lib.hid (And.intro hok (And.intro hlen (And.intro hst (And.intro ho1 hb1))))
  clear hok hlen hst ho1 hb1 h ht0 he0
  go_enter Tryd.func56, Tryd.ntmps56
  go_wp2
  go_loopg [5, 6, 7, 8] s.size (fun k v5 v6 v7 v8 wr => ∃ (j : Nat) (pre post : List Int), v7 = .int .i64 pre.length ∧ v8 = .int .i64 j ∧ v6 = .int .i64 (rd (pre.take 1) 0) ∧ Hid (arcs = pre ++ post ∧ Left post ((bs s).drop j) ∧ OwnB wr w.heap.size v5 (encP pre) ∧ Below w.heap.size w wr ∧ j ≤ s.size ∧ k = s.size - j ∧ 0 ≤ rd (pre.take 1) 0))
  case atStart =>
    obtain ⟨hok, hlen, hst, ho1, hb1⟩ := HS.out
    exact ⟨0, [], arcs, rfl, rfl, rfl, Lib.hid ⟨rfl, hst, ho1, hb1, Nat.zero_le _, rfl, Int.le_refl _⟩⟩
  case round =>
    obtain ⟨j, pre, post, rfl, rfl, rfl, HJ⟩ := hrel
    obtain ⟨hok, hlen, -, -, -⟩ := HS.out
    obtain ⟨he, hleft, ho, hb, hj, hk, hnn⟩ := HJ.out
    clear HS HJ hmk
    have HO := Lib.hid (And.intro hok (And.intro hlen (And.intro he (And.intro ho (And.intro hb (And.intro hk hnn))))))
    clear hok hlen he ho hb hk hnn
    rcases hleft with hrem | ⟨a, post', hpost, hnum⟩
    · cases post with
      | nil =>
        have hd : (bs s).drop j = [] := by simpa [Rem] using hrem
        have hj2 : j = s.size := by
          have := congrArg List.length hd
          simp [bs] at this
          omega
        clear hrem hd
        obtain ⟨hok, hlen, he, ho, hb, hk, hnn⟩ := HO.out
        clear HO
        rw [List.append_nil] at he
        obtain ⟨o1, o2, o3, o4⟩ := hok
        rw [he] at o1 o2
        have p1 : (2 : Int) ≤ pre.length := by omega
        have p2 : (pre.length : Int) ≤ 60 := by omega
        have HO := Lib.hid (And.intro he (And.intro ho hb))
        clear he ho hb hk hnn o3 o4 hlen
        subst hj2
        go_wp2
        go_ret2
        obtain ⟨rfl, ho, hb⟩ := HO.out
        refine ⟨_, rfl, ?_, hb⟩
        have : encP arcs = sName arcs := by
          unfold encP
          split
          · simp at o1
          · simp at o1
          · rfl
        rw [← this]
        exact ho
      | cons a post' =>
        rw [Rem] at hrem
        obtain ⟨l', hl', hnum⟩ := hrem
        obtain ⟨hjs, hc, hdrop⟩ := char_at s j 46 l' hl'
        have HN := Lib.hid (And.intro hnum (And.intro hdrop hjs))
        clear hnum hdrop hl'
        go_wp2
        go_roundg (s.size - (j + 1))
        case measure =>
          have := HO.out.2.2.2.2.2.1
          have := HN.out.2.2
          omega
        case rel =>
          obtain ⟨hok, hlen, he, ho, hb, hk, hnn⟩ := HO.out
          obtain ⟨hnum, hdrop, hjs⟩ := HN.out
          refine ⟨j + 1, pre, a :: post', rfl, rfl, rfl, Lib.hid ⟨he, .inr ⟨a, post', rfl, ?_⟩, ho, hb, by omega, rfl, hnn⟩⟩
          rw [hdrop]; exact hnum
    · subst hpost
      rw [Num] at hnum
      obtain ⟨ds, l2, hl, hne, hds, hfa, ha, hrem⟩ := hnum
      obtain ⟨d, ds', rfl⟩ := List.exists_cons_of_ne_nil hne
      obtain ⟨hjs, hc, -⟩ := char_at s j d (ds' ++ l2) hl
      have hdb := hds d (by simp)
      have hc46 : (d == 46) = false := beq_eq_false_iff_ne.2 (by omega)
      have HN := Lib.hid (And.intro hl (And.intro hds (And.intro hfa (And.intro ha hrem))))
      obtain ⟨m, hm⟩ : ∃ m, m = (d :: ds').length := ⟨_, rfl⟩
      clear hl hds hfa ha hrem hne hdb
      go_wp2
      go_loopg [8, 9, 10] m (fun g v8 v9 _ w2 => w2 = wr ∧ ∃ k : Nat, v8 = .int .i64 ((j + k : Nat) : Int) ∧ v9 = .int .i64 (figs ((d :: ds').take k) 0) ∧ Hid (g = m - k ∧ k ≤ m))
      case atStart => exact ⟨rfl, 0, rfl, rfl, Lib.hid ⟨rfl, Nat.zero_le _⟩⟩
      case round =>
        obtain ⟨rfl, k, rfl, rfl, HG⟩ := hrel
        obtain ⟨hg, hk⟩ := HG.out
        clear HG
        obtain ⟨hl, hds, hfa, ha, hrem⟩ := HN.out
        by_cases hkm : k < m
        · have G := Lib.hid (And.intro hg (And.intro hk hkm))
          rw [hm] at hkm
          obtain ⟨f1, f2, f3, f4, f5⟩ := figs_take _ hds k hkm
          rw [hfa] at f5
          obtain ⟨hjk, hck, -⟩ := char_at s (j + k) (d :: ds')[k] (((d :: ds') ++ l2).drop (k + 1)) (by
            rw [← List.drop_drop, hl, List.drop_eq_getElem_cons (by simp; simp at hkm; omega), List.getElem_append_left hkm])
          clear hl hds hfa hrem hc hm hg hk
          generalize (d :: ds')[k] = c at *
          generalize hv : figs ((d :: ds').take k) 0 = v at *
          generalize hv' : figs ((d :: ds').take (k + 1)) 0 = v' at *
          have q1 : c ≠ 46 := by omega
          have q2 : (c - 48) % 256 = c - 48 := by omega
          have q3 : v * 10 ≤ 4294967295 := by omega
          have q4 : v * 10 + (c - 48) ≤ 4294967295 := by omega
          have F := Lib.hid (And.intro f4 (And.intro hv hv'))
          clear f4 f5 hv hv' ha
          go_wp2
          go_roundg (m - (k + 1))
          case measure =>
            have := G.out
            omega
          case rel => exact ⟨rfl, k + 1, rfl, by rw [F.out.2.2, F.out.1], Lib.hid ⟨rfl, by have := G.out; omega⟩⟩
        · obtain rfl : k = m := by omega
          rw [show (d :: ds').take k = d :: ds' from List.take_of_length_le (by omega), hfa]
          have hlen2 : j + (d :: ds').length ≤ s.size := by
            have := congrArg List.length hl
            rw [List.length_drop, bs_length, List.length_append] at this
            omega
          have hdm : (bs s).drop (j + k) = l2 := by rw [← List.drop_drop, hl, hm, List.drop_left]
          have hmem := figs_mono _ hds 0 (Int.le_refl _)
          rw [hfa] at hmem
          clear hkm hk hfa hl hds HN hc hg
          obtain ⟨hok, hlen, he, ho, hb, hk, hnn⟩ := HO.out
          rw [← hm] at hlen2
          have hcase : (((j : Int) + k = s.size) ∧ post' = []) ∨ ∃ (hj2 : j + k < s.size), ((s[j + k]'hj2).toNat : Int) = 46 := by
            cases post' with
            | nil =>
              left
              refine ⟨?_, rfl⟩
              have : l2 = [] := by simpa [Rem] using hrem
              rw [this] at hdm
              have := congrArg List.length hdm
              rw [List.length_drop, bs_length, List.length_nil] at this
              omega
            | cons a2 p2 =>
              right
              rw [Rem] at hrem
              obtain ⟨l', hl', -⟩ := hrem
              rw [hl'] at hdm
              obtain ⟨h1, h2, -⟩ := char_at s _ _ _ hdm
              exact ⟨h1, h2⟩
          have harc := hok
          obtain ⟨o1, o2, o3, o4⟩ := harc
          have hml : 1 ≤ k := by rw [hm, List.length_cons]; omega
          have HO := Lib.hid (And.intro hok (And.intro hlen (And.intro he (And.intro ho (And.intro hb (And.intro hk (And.intro hdm (And.intro hrem (And.intro hml (And.intro hnn ha))))))))))
          clear hok hlen ho hb hk hdm hm hrem hml
          rcases pre with _ | ⟨p0, _ | ⟨p1, pr⟩⟩
          · subst he
            have q1 : a ≤ 2 := o3
            clear o1 o2 o3 o4
            rcases hcase with ⟨hj2, rfl⟩ | ⟨hj2, hc⟩
            · have E := Lib.hid hj2
              go_wp2
              go_roundg (s.size - s.size)
              case measure =>
                obtain ⟨hok, hlen, he, ho, hb, hk, hdm, hrem, hml, hnn, ha⟩ := HO.out
                omega
              case rel =>
                obtain ⟨hok, hlen, he, ho, hb, hk, hdm, hrem, hml, hnn, ha⟩ := HO.out
                have hjk : j + k = s.size := by have := E.out; omega
                exact ⟨s.size, [a], [], rfl, rfl, rfl, Lib.hid ⟨rfl, .inl (by rw [← hjk, hdm]; exact hrem), ho, hb, Nat.le_refl _, rfl, hmem⟩⟩
            · have E := Lib.hid hj2
              go_wp2
              go_roundg (s.size - (j + k))
              case measure =>
                obtain ⟨hok, hlen, he, ho, hb, hk, hdm, hrem, hml, hnn, ha⟩ := HO.out
                omega
              case rel =>
                obtain ⟨hok, hlen, he, ho, hb, hk, hdm, hrem, hml, hnn, ha⟩ := HO.out
                exact ⟨j + k, [a], post', rfl, rfl, rfl, Lib.hid ⟨rfl, .inl (by rw [hdm]; exact hrem), ho, hb, by omega, rfl, hmem⟩⟩
          · subst he
            have q1 : p0 ≤ 2 := o3
            have q2 : a < 40 := o4
            have q3 : 0 ≤ p0 := hnn
            clear o1 o2 o3 o4 hnn ha
            have W1 : wrap64 (p0 * 40) = p0 * 40 := by unfold wrap64; omega
            have W2 : wrap64 (p0 * 40 + a) = p0 * 40 + a := by unfold wrap64; omega
            rw [show rd ([p0].take 1) 0 = p0 from rfl]
            rcases hcase with ⟨hj2, rfl⟩ | ⟨hj2, hc⟩
            · have E := Lib.hid hj2
              go_wp2_with fail
              all_goals
                refine (app128_own w rfl wr u5 [] (encP [p0, a]) (p0 * 40 + a) (by omega) (by omega) (by simp) HO.out.2.2.2.1 HO.out.2.2.2.2.1 (encP_two p0 a q3 q1 hmem q2)).mono ?_
                rintro e w2 ⟨v', rfl, HR⟩
                go_wp2
                go_roundg (s.size - s.size)
                case measure =>
                  obtain ⟨hok, hlen, he, ho, hb, hk, hdm, hrem, hml, hnn, ha⟩ := HO.out
                  omega
                case rel =>
                  obtain ⟨hok, hlen, he, ho, hb, hk, hdm, hrem, hml, hnn, ha⟩ := HO.out
                  have hjk : j + k = s.size := by have := E.out; omega
                  exact ⟨s.size, [p0, a], [], rfl, rfl, rfl, Lib.hid ⟨rfl, .inl (by rw [← hjk, hdm]; exact hrem), HR.out.1, HR.out.2, Nat.le_refl _, rfl, q3⟩⟩
            · have E := Lib.hid hj2
              go_wp2_with fail
              all_goals
                refine (app128_own w rfl wr u5 [] (encP [p0, a]) (p0 * 40 + a) (by omega) (by omega) (by simp) HO.out.2.2.2.1 HO.out.2.2.2.2.1 (encP_two p0 a q3 q1 hmem q2)).mono ?_
                rintro e w2 ⟨v', rfl, HR⟩
                go_wp2
                go_roundg (s.size - (j + k))
                case measure =>
                  obtain ⟨hok, hlen, he, ho, hb, hk, hdm, hrem, hml, hnn, ha⟩ := HO.out
                  omega
                case rel =>
                  obtain ⟨hok, hlen, he, ho, hb, hk, hdm, hrem, hml, hnn, ha⟩ := HO.out
                  exact ⟨j + k, [p0, a], post', rfl, rfl, rfl, Lib.hid ⟨rfl, .inl (by rw [hdm]; exact hrem), HR.out.1, HR.out.2, by omega, rfl, q3⟩⟩
          · have hle := sName_len (p0 :: p1 :: pr)
            rw [he] at o2
            have hl9 : (sName (p0 :: p1 :: pr)).length ≤ 900 := by simp at o2 hle; omega
            have HE := Lib.hid he
            clear he hle o1 o3 o4 hnn
            have n0 : ((pr.length : Int) + 1 + 1 == 0) = false := beq_eq_false_iff_ne.2 (by omega)
            have n1 : ((pr.length : Int) + 1 + 1 == 1) = false := beq_eq_false_iff_ne.2 (by omega)
            rw [show (((p0 :: p1 :: pr).length : Nat) : Int) = (pr.length : Int) + 1 + 1 from by simp, show rd ((p0 :: p1 :: pr).take 1) 0 = p0 from rfl]
            have n2 : (pr.length : Int) ≤ 60 := by simp at o2; omega
            clear o2
            rcases hcase with ⟨hj2, rfl⟩ | ⟨hj2, hc⟩
            · have E := Lib.hid hj2
              go_wp2_with fail
              refine (app128_own w rfl wr u5 _ _ a hmem ha (Nat.le_trans (Nat.le_of_eq rfl) hl9) HO.out.2.2.2.1 HO.out.2.2.2.2.1 (sName_app p0 p1 a pr)).mono ?_
              rintro e w2 ⟨v', rfl, HR⟩
              go_wp2
              go_roundg (s.size - s.size)
              case measure =>
                obtain ⟨hok, hlen, he, ho, hb, hk, hdm, hrem, hml, hnn, ha⟩ := HO.out
                omega
              case rel =>
                obtain ⟨hok, hlen, he, ho, hb, hk, hdm, hrem, hml, hnn, ha⟩ := HO.out
                have hjk : j + k = s.size := by have := E.out; omega
                exact ⟨s.size, p0 :: p1 :: pr ++ [a], [], by simp, by first | rfl | (rw [← hjk]), rfl, Lib.hid ⟨by rw [he]; simp, .inl (by rw [← hjk, hdm]; exact hrem), HR.out.1, HR.out.2, Nat.le_refl _, rfl, hnn⟩⟩
            · have E := Lib.hid hj2
              go_wp2_with fail
              refine (app128_own w rfl wr u5 _ _ a hmem ha (Nat.le_trans (Nat.le_of_eq rfl) hl9) HO.out.2.2.2.1 HO.out.2.2.2.2.1 (sName_app p0 p1 a pr)).mono ?_
              rintro e w2 ⟨v', rfl, HR⟩
              go_wp2
              go_roundg (s.size - (j + k))
              case measure =>
                obtain ⟨hok, hlen, he, ho, hb, hk, hdm, hrem, hml, hnn, ha⟩ := HO.out
                omega
              case rel =>
                obtain ⟨hok, hlen, he, ho, hb, hk, hdm, hrem, hml, hnn, ha⟩ := HO.out
                exact ⟨j + k, p0 :: p1 :: pr ++ [a], post', by simp, rfl, rfl, Lib.hid ⟨by rw [he]; simp, .inl (by rw [hdm]; exact hrem), HR.out.1, HR.out.2, by omega, rfl, hnn⟩⟩
end Go.Proofs.YtangjgclpipjdaaDoor
set_option linter.unusedVariables false
namespace Go.Proofs.YtangjgclpipjdaaDoor
open Go.RowKit Go.Proofs.YtangjgclpipjdaaDoorW.PrintWords Go.Proofs.YtangjgclpipjdaaDoorW.PrintLast Go.Proofs.YtangjgclpipjdaaDoorW.PrintMore
theorem zzTrim_eq (l : List Int) : ∀ k, l.length < k → PFnValue.snmp_zzTrim.f k l = some (trim0 l) := by
  unfold PFnValue.snmp_zzTrim.f
  induction l with
  | nil =>
    intro k hk
    obtain ⟨k, rfl⟩ : ∃ m, k = m + 1 := ⟨k - 1, by simp at hk; omega⟩
    rw [PFnValue.snmp_zzTrim.l0, if_neg (by simp)]
    rfl
  | cons x l ih =>
    intro k hk
    obtain ⟨k, rfl⟩ : ∃ m, k = m + 1 := ⟨k - 1, by simp at hk; omega⟩
    have hk' : l.length < k := by simpa using hk
    rw [PFnValue.snmp_zzTrim.l0, if_pos (by simp), if_pos (by simp)]
    have hr : rd (x :: l) 0 = x := rfl
    rw [hr]
    unfold trim0
    by_cases hx : x = 0
    · rw [if_pos hx, if_pos hx, if_pos (by simp; omega)]
      exact ih k hk'
    · rw [if_neg hx, if_neg hx]
theorem as_u64 (v : Value) (w : World) : (Instr.typeAssert (.iface 22 v) 20 22 true).run Tryd.prog w = .ok (.tuple #[v, .bool true]) w := by kernel_rfl
theorem as_u32 (v : Value) (w : World) : (Instr.typeAssert (.iface 36 v) 20 36 true).run Tryd.prog w = .ok (.tuple #[v, .bool true]) w := by kernel_rfl
theorem as_uint (v : Value) (w : World) : (Instr.typeAssert (.iface 38 v) 20 38 true).run Tryd.prog w = .ok (.tuple #[v, .bool true]) w := by kernel_rfl
theorem as_u8 (v : Value) (w : World) : (Instr.typeAssert (.iface 5 v) 20 5 true).run Tryd.prog w = .ok (.tuple #[v, .bool true]) w := by kernel_rfl
theorem as_err (v : Value) (w : World) : (Instr.typeAssert (.iface 85 v) 20 85 true).run Tryd.prog w = .ok (.tuple #[v, .bool true]) w := by kernel_rfl
theorem as_uint_u32 (v : Value) (w : World) : (Instr.typeAssert (.iface 38 v) 20 36 true).run Tryd.prog w = .ok (.tuple #[.int .u32 0, .bool false]) w := by kernel_rfl
theorem as_u8_u32 (v : Value) (w : World) : (Instr.typeAssert (.iface 5 v) 20 36 true).run Tryd.prog w = .ok (.tuple #[.int .u32 0, .bool false]) w := by kernel_rfl
theorem as_u8_uint (v : Value) (w : World) : (Instr.typeAssert (.iface 5 v) 20 38 true).run Tryd.prog w = .ok (.tuple #[.int .u64 0, .bool false]) w := by kernel_rfl
theorem as_err_u32 (v : Value) (w : World) : (Instr.typeAssert (.iface 85 v) 20 36 true).run Tryd.prog w = .ok (.tuple #[.int .u32 0, .bool false]) w := by kernel_rfl
theorem as_err_uint (v : Value) (w : World) : (Instr.typeAssert (.iface 85 v) 20 38 true).run Tryd.prog w = .ok (.tuple #[.int .u64 0, .bool false]) w := by kernel_rfl
theorem as_err_u8 (v : Value) (w : World) : (Instr.typeAssert (.iface 85 v) 20 5 true).run Tryd.prog w = .ok (.tuple #[.int .u8 0, .bool false]) w := by kernel_rfl
attribute [local go_sem] as_u64 as_u32 as_uint as_u8 as_err as_uint_u32 as_u8_u32 as_u8_uint as_err_u32 as_err_uint as_err_u8
theorem bel_alloc (w : World) (o : Obj) : Below w.heap.size w (w.alloc o) := (Below.refl _ _).alloc (Nat.le_refl _) _
set_option maxHeartbeats 800000 in
theorem marshalUint64_any (n : Int) (h0 : 0 ≤ n) (h1 : n ≤ 18446744073709551615) (w : World) :
    Calls Tryd.prog 68 #[.iface 22 (.int .u64 n)] w fun e w' => GotV w w' (sUint n) e := by
  have hmk : ∀ w, (Instr.makeSlice 26 (.int .i64 8) (.int .i64 8)).run Tryd.prog w = .ok (.slice (some ⟨w.heap.size, 0, none⟩) 8 8) (w.alloc (.cells #[.int .u8 0, .int .u8 0, .int .u8 0, .int .u8 0, .int .u8 0, .int .u8 0, .int .u8 0, .int .u8 0] 5)) := fun _ => by kernel_rfl
  have ht := zzTrim_eq (be64 n) 9 (by simp [be64])
  rw [trim_be64 n h0 h1] at ht
  have HT := Lib.hid ht
  clear ht
  go_enter Tryd.func68, Tryd.ntmps68
  go_wp2_with fail
  refine (PutUint64_any n h0 h1 _ 5 _ _ (blk_new _ _) rfl).mono ?_
  rintro e w1 ⟨rfl, hb1, hg1⟩
  have hbel := (bel_alloc w _).grown hg1 (by simp) (fun k hk => by injection hk with hk; omega)
  have ho1 := OwnB.of_block (B := w.heap.size) hb1 rfl (Nat.le_refl _) (by simp [be64])
  have hV := OwnB.new ho1
  have hw1 : w.heap.size < w1.heap.size := blk_lt hb1
  have HH := Lib.hid (And.intro hV hbel)
  clear hb1 hg1 hbel ho1 hV
  go_wp2_with fail
  refine (PFnValue.snmp_zzTrim.calls 9 (fun k => w.heap.size ≤ k) (some ⟨w.heap.size, 0, none⟩) 8 (be64 n) _ _ HH.out.1 HT.out).mono ?_
  rintro e w2 ⟨v2, rfl, hv2, hb2⟩
  have hn2 : NewB w w2 v2 (if n = 0 then [] else uBytes n) := Kd.V_mono (e := 5) (base := 0) hv2 (fun k hk => hk.elim id (fun h => by omega))
  have hbw := below_step HH.out.2 hb2
  have hw2 := hb2.size
  clear hv2 hb2 HT HH
  by_cases c0 : n = 0
  · rw [if_pos c0] at hn2
    subst c0
    obtain ⟨A, c, rfl, hc, hC⟩ := hn2.reads
    have HB := Lib.hid hbw
    clear hn2 hC hbw
    simp only [List.length_nil]
    go_wp2
    go_ret2
    have e : sUint 0 = [0] := rfl
    rw [e]
    exact ⟨_, rfl, OwnB.newAt (OwnB.lit w2 w2.heap.size [0] (Nat.le_refl _) (by simp) rfl) (by omega), HB.out.alloc (by omega) _⟩
  · rw [if_neg c0] at hn2
    obtain ⟨A, c, rfl, hc, hC⟩ := hn2.reads
    have hln := uBytes_len n
    obtain ⟨ad, rfl, hcell⟩ := cell_at0 hC (by omega)
    have hbr := uBytes_isB n h0 h1 0
    have hu := u8_bit7 _ hbr.1 hbr.2
    have hs1 := Lib.hid (show rd (uBytes n) 0 > 127 → sUint n = 0 :: uBytes n from fun h => if_pos h)
    have hs2 := Lib.hid (show ¬ rd (uBytes n) 0 > 127 → sUint n = uBytes n from fun h => if_neg h)
    have HN := Lib.hid (And.intro hn2 (And.intro hbw hC))
    have l0 : (((uBytes n).length : Int) == 0) = false := beq_eq_false_iff_ne.2 (by omega)
    have l1 : (0 < (uBytes n).length) = True := eq_true (by omega)
    have l2 : (uBytes n).length ≤ 8 := hln.2
    clear hn2 hbw hC hln
    generalize uBytes n = xs at *
    generalize rd xs 0 = b at *
    by_cases c1 : 128 ≤ b
    · rw [if_pos c1] at hu
      go_wp2_with (at_builtin; refine app_bytes rfl (.tmp 32) (.tmp 33) 26 rfl Tryd.underlying26 infoB w2.heap.size (.slice (some ⟨w2.heap.size, 0, none⟩) 1 1) [0] xs (some ad) xs.length c rfl rfl (OwnB.lit w2 _ [0] (Nat.le_refl _) (by simp) (by rfl)) (Kd.C_alloc HN.out.2.2 _) (by simp) (by simp; omega) ?_; intro v1 w3 ho hg hat)
      go_ret2
      rw [hs1.out (by omega)]
      exact ⟨_, rfl, OwnB.newAt ho (by omega), (HN.out.2.1.alloc (by omega) _).grown hg (by simp; omega) (fun k hk => by simp [Value.ownBlock] at hk; omega)⟩
    · rw [if_neg c1] at hu
      go_wp2
      go_ret2
      rw [hs2.out (by omega)]
      exact ⟨_, rfl, HN.out.1, HN.out.2.1⟩
/-- Kinds of numbers that marshalUint32 takes. -/
def U32Arg (n : Int) (v : Value) : Prop := v = .iface 36 (.int .u32 n) ∨ v = .iface 38 (.int .u64 n) ∨ (v = .iface 5 (.int .u8 n) ∧ n ≤ 255) ∨ (v = .iface 85 (.int .u8 n) ∧ n ≤ 255)
set_option maxRecDepth 100000 in
set_option maxHeartbeats 2000000 in
theorem marshalUint32_at (n : Int) (h0 : 0 ≤ n) (h1 : n ≤ 4294967295) (v : Value) (hv : U32Arg n v) (s : Nat) (hs : s = 0 ∨ s = 1 ∨ s = 2 ∨ s = 3) (hz : ∀ j, j < s → (be32 n)[j]?.getD 0 = 0) (hnz : s < 3 → (be32 n)[s]?.getD 0 ≠ 0) (hd : (be32 n).drop s = uBytes n) (w : World) :
    Calls Tryd.prog 62 #[v] w fun e w' => GotV w w' (sUint n) e := by
  have hmk : ∀ w, (Instr.makeSlice 26 (.int .i64 4) (.int .i64 4)).run Tryd.prog w = .ok (.slice (some ⟨w.heap.size, 0, none⟩) 4 4) (w.alloc (.cells #[.int .u8 0, .int .u8 0, .int .u8 0, .int .u8 0] 5)) := fun _ => by kernel_rfl
  have HZ := Lib.hid (And.intro hz (And.intro hnz hd))
  have hs3 : s ≤ 3 := by omega
  have HS := Lib.hid hs
  clear hz hnz hd hs
  rcases hv with rfl | rfl | ⟨rfl, h255⟩ | ⟨rfl, h255⟩
  all_goals
    go_enter Tryd.func62, Tryd.ntmps62
    go_wp2_with fail
    refine (PutUint32_any n h0 h1 _ 5 _ _ (blk_new _ _) rfl).mono ?_
    rintro e w1 ⟨rfl, hb1, hg1⟩
    have hbel := (bel_alloc w _).grown hg1 (by simp) (fun k hk => by injection hk with hk; omega)
    have hw1 : w.heap.size < w1.heap.size := blk_lt hb1
    have HB := Lib.hid hb1
    have HL := Lib.hid hbel
    clear hb1 hg1 hbel
    go_wp2
    go_loop [11] (fun i => ∃ k : Nat, k ≤ s ∧ i = .int .i64 k) (fun i => 3 - (intOf i).toNat)
    case atStart => exact ⟨0, Nat.zero_le _, rfl⟩
    case round =>
      obtain ⟨k, hk, rfl⟩ := hrel
      have hc := be_cell' HB.out k (by show k < 4; omega)
      by_cases hlt : k < s
      · have hzk : ((be32 n)[k]?.getD 0 != 0) = false := by rw [HZ.out.1 k hlt]; rfl
        have hk3 : k < 3 := by omega
        go_wp2
        go_round
        case rel => exact ⟨k + 1, by omega, by go_num⟩
        case measure => simp [intOf]; omega
      · obtain rfl : k = s := by omega
        have eb : (be32 n)[k]?.getD 0 = rd (uBytes n) 0 := by
          rw [← HZ.out.2.2]
          simp [Go.Proofs.YtangjgclpipjdaaDoorW.PrintWords.rd, List.getD_eq_getElem?_getD]
        rw [eb] at hc
        have hnz := HZ.out.2.1
        rw [eb] at hnz
        have hbr := uBytes_isB n h0 (by omega) 0
        have hu := u8_bit7 _ hbr.1 hbr.2
        have hs1 := Lib.hid (show rd (uBytes n) 0 > 127 → sUint n = 0 :: uBytes n from fun h => if_pos h)
        have hs2 := Lib.hid (show ¬ rd (uBytes n) 0 > 127 → sUint n = uBytes n from fun h => if_neg h)
        have hul : (uBytes n).length = 4 - k := by rw [← HZ.out.2.2, List.length_drop]; rfl
        have hdr := Lib.hid HZ.out.2.2
        have HU := Lib.hid hul
        have HS' := HS.out
        clear HZ HS hul eb hlt hk hs3
        generalize rd (uBytes n) 0 = b at *
        rcases HS' with rfl | rfl | rfl | rfl
        · have hR := Lib.hid (readB_block (ok := fun k => w.heap.size ≤ k) HB.out hdr.out HU.out (by omega) (Nat.le_refl _))
          have hne : (b != 0) = true := bne_iff_ne.2 (hnz (by omega))
          by_cases c1 : 128 ≤ b
          · rw [if_pos c1] at hu
            go_wp2_with (at_builtin; refine app_bytes rfl (.tmp 60) (.tmp 61) 26 rfl Tryd.underlying26 infoB w1.heap.size (.slice (some ⟨w1.heap.size, 0, none⟩) 1 1) [0] (uBytes n) (some ⟨w.heap.size, 0, none⟩) 4 4 rfl rfl (OwnB.lit w1 _ [0] (Nat.le_refl _) (by simp) (by rfl)) (Kd.C_alloc (ReadB.C hR.out) _) (by simp) (by simp) ?_; intro v1 w3 ho hg hat)
            go_ret2
            rw [hs1.out (by omega)]
            exact ⟨_, rfl, OwnB.newAt ho (by omega), (HL.out.alloc (by omega) _).grown hg (by simp; omega) (fun k hk => by simp [Value.ownBlock] at hk; omega)⟩
          · rw [if_neg c1] at hu
            go_wp2
            go_ret2
            rw [hs2.out (by omega)]
            exact ⟨_, rfl, hR.out, HL.out⟩
        · have hR := Lib.hid (readB_block (ok := fun k => w.heap.size ≤ k) HB.out hdr.out HU.out (by omega) (Nat.le_refl _))
          have hne : (b != 0) = true := bne_iff_ne.2 (hnz (by omega))
          by_cases c1 : 128 ≤ b
          · rw [if_pos c1] at hu
            go_wp2_with (at_builtin; refine app_bytes rfl (.tmp 60) (.tmp 61) 26 rfl Tryd.underlying26 infoB w1.heap.size (.slice (some ⟨w1.heap.size, 0, none⟩) 1 1) [0] (uBytes n) (some ⟨w.heap.size, 1, none⟩) 3 3 rfl rfl (OwnB.lit w1 _ [0] (Nat.le_refl _) (by simp) (by rfl)) (Kd.C_alloc (ReadB.C hR.out) _) (by simp) (by simp) ?_; intro v1 w3 ho hg hat)
            go_ret2
            rw [hs1.out (by omega)]
            exact ⟨_, rfl, OwnB.newAt ho (by omega), (HL.out.alloc (by omega) _).grown hg (by simp; omega) (fun k hk => by simp [Value.ownBlock] at hk; omega)⟩
          · rw [if_neg c1] at hu
            go_wp2
            go_ret2
            rw [hs2.out (by omega)]
            exact ⟨_, rfl, hR.out, HL.out⟩
        · have hR := Lib.hid (readB_block (ok := fun k => w.heap.size ≤ k) HB.out hdr.out HU.out (by omega) (Nat.le_refl _))
          have hne : (b != 0) = true := bne_iff_ne.2 (hnz (by omega))
          by_cases c1 : 128 ≤ b
          · rw [if_pos c1] at hu
            go_wp2_with (at_builtin; refine app_bytes rfl (.tmp 60) (.tmp 61) 26 rfl Tryd.underlying26 infoB w1.heap.size (.slice (some ⟨w1.heap.size, 0, none⟩) 1 1) [0] (uBytes n) (some ⟨w.heap.size, 2, none⟩) 2 2 rfl rfl (OwnB.lit w1 _ [0] (Nat.le_refl _) (by simp) (by rfl)) (Kd.C_alloc (ReadB.C hR.out) _) (by simp) (by simp) ?_; intro v1 w3 ho hg hat)
            go_ret2
            rw [hs1.out (by omega)]
            exact ⟨_, rfl, OwnB.newAt ho (by omega), (HL.out.alloc (by omega) _).grown hg (by simp; omega) (fun k hk => by simp [Value.ownBlock] at hk; omega)⟩
          · rw [if_neg c1] at hu
            go_wp2
            go_ret2
            rw [hs2.out (by omega)]
            exact ⟨_, rfl, hR.out, HL.out⟩
        · have hR := Lib.hid (readB_block (ok := fun k => w.heap.size ≤ k) HB.out hdr.out HU.out (by omega) (Nat.le_refl _))
          by_cases c1 : 128 ≤ b
          · rw [if_pos c1] at hu
            go_wp2_with (at_builtin; refine app_bytes rfl (.tmp 60) (.tmp 61) 26 rfl Tryd.underlying26 infoB w1.heap.size (.slice (some ⟨w1.heap.size, 0, none⟩) 1 1) [0] (uBytes n) (some ⟨w.heap.size, 3, none⟩) 1 1 rfl rfl (OwnB.lit w1 _ [0] (Nat.le_refl _) (by simp) (by rfl)) (Kd.C_alloc (ReadB.C hR.out) _) (by simp) (by simp) ?_; intro v1 w3 ho hg hat)
            go_ret2
            rw [hs1.out (by omega)]
            exact ⟨_, rfl, OwnB.newAt ho (by omega), (HL.out.alloc (by omega) _).grown hg (by simp; omega) (fun k hk => by simp [Value.ownBlock] at hk; omega)⟩
          · rw [if_neg c1] at hu
            go_wp2
            go_ret2
            rw [hs2.out (by omega)]
            exact ⟨_, rfl, hR.out, HL.out⟩
theorem marshalUint32_any (n : Int) (h0 : 0 ≤ n) (h1 : n ≤ 4294967295) (v : Value) (hv : U32Arg n v) (w : World) :
    Calls Tryd.prog 62 #[v] w fun e w' => GotV w w' (sUint n) e := by
  have pt : ∀ j, (be32 n)[j]?.getD 0 = if j = 0 then n / 16777216 else if j = 1 then n / 65536 % 256 else if j = 2 then n / 256 % 256 else if j = 3 then n % 256 else 0 := by
    intro j
    match j with
    | 0 => rfl
    | 1 => rfl
    | 2 => rfl
    | 3 => rfl
    | j + 4 => simp [be32]
  by_cases c1 : n ≤ 255
  · refine marshalUint32_at n h0 h1 v hv 3 (by omega) (fun j hj => ?_) (fun h => by omega) ?_ w
    · rw [pt j]
      rcases (by omega : j = 0 ∨ j = 1 ∨ j = 2) with rfl | rfl | rfl
      · rw [if_pos rfl]; omega
      · rw [if_neg (by omega), if_pos rfl]; omega
      · rw [if_neg (by omega), if_neg (by omega), if_pos rfl]; omega
    · unfold uBytes be32
      rw [if_pos c1]
      simp; omega
  by_cases c2 : n ≤ 65535
  · refine marshalUint32_at n h0 h1 v hv 2 (by omega) (fun j hj => ?_) (fun h => ?_) ?_ w
    · rw [pt j]
      rcases (by omega : j = 0 ∨ j = 1) with rfl | rfl
      · rw [if_pos rfl]; omega
      · rw [if_neg (by omega), if_pos rfl]; omega
    · rw [pt 2, if_neg (by omega), if_neg (by omega), if_pos rfl]; omega
    · unfold uBytes be32
      rw [if_neg c1, if_pos c2]
      simp; omega
  by_cases c3 : n ≤ 16777215
  · refine marshalUint32_at n h0 h1 v hv 1 (by omega) (fun j hj => ?_) (fun h => ?_) ?_ w
    · rw [pt j]
      obtain rfl : j = 0 := by omega
      rw [if_pos rfl]; omega
    · rw [pt 1, if_neg (by omega), if_pos rfl]; omega
    · unfold uBytes be32
      rw [if_neg c1, if_neg c2, if_pos c3]
      simp; omega
  · refine marshalUint32_at n h0 h1 v hv 0 (by omega) (fun j hj => by omega) (fun h => ?_) ?_ w
    · rw [pt 0, if_pos rfl]; omega
    · unfold uBytes be32
      rw [if_neg c1, if_neg c2, if_neg c3, if_pos (by omega)]
      rfl
end Go.Proofs.YtangjgclpipjdaaDoor
set_option linter.unusedVariables false
namespace Go.Proofs.YtangjgclpipjdaaDoor
open Go.RowKit Go.Proofs.YtangjgclpipjdaaDoorW.PrintWords Go.Proofs.YtangjgclpipjdaaDoorW.PrintLast Go.Proofs.YtangjgclpipjdaaDoorW.PrintMore
/-- A variable of the package: value, name, type. -/
abbrev pduO (nm : ByteArray) (ty : Int) (v : Value) : Obj := .cells #[v, .string nm, .int .u8 ty] 60 (0, 0)
theorem pdu_cells {W : World} {g : Nat} {nm : ByteArray} {ty : Int} {v : Value} (h : W.heap[g]? = some (pduO nm ty v)) : W.cell? ⟨g, 0, none⟩ = some v ∧ W.cell? ⟨g, 1, none⟩ = some (.string nm) ∧ W.cell? ⟨g, 2, none⟩ = some (.int .u8 ty) :=
  ⟨by rw [Lib.cell_of_heap h]; rfl, by rw [Lib.cell_of_heap h]; rfl, by rw [Lib.cell_of_heap h]; rfl⟩
/-- Two buffers, the first one empty, the second one with bs; the variable stands. -/
structure VS (w : World) (p : Nat) (po : Obj) (b1 b2 g2 : Nat) (bs : List Int) (W : World) : Prop where
  one : Buf W b1 b1 []
  two : Buf W b2 g2 bs
  obj : W.heap[p]? = some po
  below : Below w.heap.size w W
  h1 : w.heap.size ≤ b1
  h2 : w.heap.size ≤ b2
  h3 : w.heap.size ≤ g2
  ne : b1 ≠ b2
  ne2 : b1 ≠ g2
  hp : p < w.heap.size
theorem VS.call {w W W' : World} {p b1 b2 g2 : Nat} {po : Obj} {bs : List Int} (h : VS w p po b1 b2 g2 bs W) (hb : Below W.heap.size W W') : VS w p po b1 b2 g2 bs W' :=
  ⟨h.one.below hb, h.two.below hb, blk_below h.obj hb, below_step h.below hb, h.h1, h.h2, h.h3, h.ne, h.ne2, h.hp⟩
theorem KB.keep {w W W' : World} {b g : Nat} (hb : Below w.heap.size w W) (h : KB W W' b g) (h1 : w.heap.size ≤ b) (h2 : w.heap.size ≤ g) : Below w.heap.size w W' := hb.trans (h.below h1 h2 hb.size)
theorem VS.wrote {w W W' : World} {p b1 b2 g2 : Nat} {po : Obj} {bs xs : List Int} (h : VS w p po b1 b2 g2 bs W) (hw : Wrote W W' b2 g2 xs) : ∃ g', VS w p po b1 b2 g' xs W' ∧ KB W W' b2 g2 ∧ (g' = g2 ∨ W.heap.size ≤ g') := by
  obtain ⟨K, g', B, hg⟩ := hw
  have := h.below.size
  have := h.one.lt
  have hp := h.hp
  have a1 := h.h1
  have a2 := h.h2
  have a3 := h.h3
  have a4 := h.ne
  have a5 := h.ne2
  exact ⟨g', ⟨h.one.kept K a4 a5 a4 a5, B, K.blk h.obj (by omega) (by omega), K.keep h.below a2 a3, a1, a2, by omega, a4, by omega, hp⟩, K, hg⟩
theorem VS.start {w W : World} {p : Nat} {po : Obj} (hb : Below w.heap.size w W) (ho : w.heap[p]? = some po) (lr1 lr2 : Int) :
    VS w p po W.heap.size (W.heap.size + 1) (W.heap.size + 1) [] ((W.alloc (.cells #[.slice none 0 0, .int .i64 0, .int .i8 lr1] 127)).alloc (.cells #[.slice none 0 0, .int .i64 0, .int .i8 lr2] 127)) := by
  have hs := hb.size
  have hp := blk_lt ho
  have h2 := Buf.new (W.alloc (.cells #[.slice none 0 0, .int .i64 0, .int .i8 lr1] 127)) lr2
  rw [show (W.alloc (.cells #[.slice none 0 0, .int .i64 0, .int .i8 lr1] 127)).heap.size = W.heap.size + 1 by simp] at h2
  refine ⟨(Buf.new W lr1).below ((Below.refl _ _).alloc (Nat.le_refl _) _), h2, ?_, ?_, hs, by omega, by omega, by omega, by omega, hp⟩
  · exact blk_alloc (blk_alloc ((hb.block p hp).trans ho) _) _
  · exact (hb.alloc hs _).alloc (by simp; omega) _
theorem sSealed_len (t : Int) (xs : List Int) : 2 ≤ (sSealed t xs 0).length ∧ (sSealed t xs 0).length ≤ xs.length + 6 := by
  have h := sLen_len xs.length 0
  have h1 : 1 ≤ (sLen xs.length 0).length := by unfold sLen; split <;> simp
  unfold sSealed
  simp
  omega
theorem vb_end {w W W' : World} {p b1 b2 g2 g' : Nat} {po : Obj} {bs xs : List Int} {v : Value} (S : VS w p po b1 b2 g2 bs W) (K : KB W W' b1 b1) (hg : g' = b1 ∨ W.heap.size ≤ g') (hR : ReadB W' (fun k => k = g') v xs) (k : Nat) :
    NewB w (W'.drewN k) v xs ∧ Below w.heap.size w (W'.drewN k) := by
  have h1 := S.h1
  have h2 := S.below.size
  exact ⟨ReadB.below (hR.mono (fun i hi => by omega)) (pw_below_drewN (Below.refl _ _) k), pw_below_drewN (K.keep S.below h1 h1) k⟩
theorem below_two (w : World) (o1 o2 : Obj) : Below w.heap.size w ((w.alloc o1).alloc o2) := ((Below.refl _ _).alloc (Nat.le_refl _) _).alloc (by simp) _
set_option maxRecDepth 100000 in
set_option maxHeartbeats 4000000 in
theorem vb_null (p : Nat) (nm : ByteArray) (arcs : List Int) (v : Value) (w : World) (hs : nm.size ≤ 1000) (ha : sArcs (bs nm) = (arcs, true)) (hp : w.heap[p]? = some (pduO nm 5 v)) :
    Calls Tryd.prog 48 #[.pointer (some ⟨p, 0, none⟩)] w fun e w' => GotV w w' (sVar arcs 5 [] 0) e := by
  obtain ⟨p0, p1, p2⟩ := pdu_cells hp
  have hlen : (sName arcs).length ≤ 100 := (sArcs_text _ _ ha).2.1
  have HP := Lib.hid (And.intro hp ha)
  clear ha hp
  go_enter Tryd.func48, Tryd.ntmps48
  go_wp2_with fail
  refine (marshalOid_any nm arcs hs HP.out.2 w).mono ?_
  rintro e w1 ⟨v1, rfl, ho, hb⟩
  obtain ⟨A1, c1, rfl, hc1⟩ := Kd.R_slice ho
  have hL := OwnB.within ho
  have hS := VS.start hb HP.out.1 0 0
  obtain ⟨q0, q1, q2⟩ := pdu_cells hS.obj
  have HS := Lib.hid (And.intro hL hS)
  clear ho hb hL hS HP p0 p1 p2
  go_wp2_with fail
  refine (tlv_any (w1.heap.size + 1) (w1.heap.size + 1) [] (sName arcs) 6 A1 _ c1 _ _ HS.out.2.two (HS.out.1.below (below_two w1 _ _)) (by omega) (by omega) rfl (by omega) (by omega) (by simp; omega)).mono ?_
  rintro e w2 ⟨rfl, hW2⟩
  rw [List.nil_append] at hW2
  obtain ⟨g2, S2, -, -⟩ := HS.out.2.wrote hW2
  clear q0 q1 q2
  obtain ⟨q0, q1, q2⟩ := pdu_cells S2.obj
  generalize w1.heap.size + 1 = b2 at *
  generalize w1.heap.size = b1 at *
  have HS2 := Lib.hid S2
  clear S2 hW2 HS
  go_wp2_with fail
  have hl6 : (sSealed 6 (sName arcs) 0).length ≤ 110 := by
    have := sLen_len (sName arcs).length 0
    unfold sSealed
    simp
    omega
  refine (writeByte_any b2 g2 _ 5 w2 HS2.out.two (by omega)).mono ?_
  rintro e w3 ⟨rfl, hW3⟩
  obtain ⟨g3, S3, -, -⟩ := HS2.out.wrote hW3
  have HS3 := Lib.hid S3
  clear S3 hW3 HS2 q0 q1 q2
  go_wp2_with fail
  refine (writeByte_any b2 g3 _ 0 w3 HS3.out.two (by simp; omega)).mono ?_
  rintro e w4 ⟨rfl, hW4⟩
  obtain ⟨g4, S4, -, -⟩ := HS3.out.wrote hW4
  have HS4 := Lib.hid S4
  clear S4 hW4 HS3
  go_wp2_with fail
  generalize hbs : sSealed 6 (sName arcs) 0 ++ [5] ++ [0] = bs at *
  have hbl : 1 ≤ bs.length ∧ bs.length ≤ 1000 := by rw [← hbs]; simp; omega
  have hbv : sVar arcs 5 [] 0 = sSealed 48 bs 0 := by rw [← hbs]; unfold sVar; rw [List.append_assoc]; rfl
  have hl48 := sSealed_len 48 bs
  have HB := Lib.hid hbv
  clear hbv hbs
  refine (bytes_any b2 g4 bs w4 HS4.out.two hbl.1 (by omega)).mono ?_
  rintro e w5 ⟨cap, rfl, hR5, k5, rfl⟩
  have HS5 := Lib.hid (And.intro (HS4.out.call (pw_below_drewN (Below.refl _ _) k5)) (hR5.below (pw_below_drewN (Below.refl _ _) k5)))
  clear hR5 HS4
  go_wp2_with fail
  refine (tlv_any b1 b1 [] bs 48 _ _ cap _ _ HS5.out.1.one HS5.out.2 HS5.out.1.ne2 HS5.out.1.ne2 rfl (by omega) (by omega) (by simp; omega)).mono ?_
  rintro e w6 ⟨rfl, K6, g6, B6, hg6⟩
  rw [List.nil_append] at B6
  have HS6 := Lib.hid (And.intro HS5.out.1 (And.intro K6 (And.intro B6 hg6)))
  clear K6 B6 HS5
  go_wp2_with fail
  refine (bytes_any b1 g6 (sSealed 48 bs 0) w6 HS6.out.2.2.1 (by omega) (by omega)).mono ?_
  rintro e w7 ⟨cap7, rfl, hR7, k7, rfl⟩
  have HE := Lib.hid (vb_end HS6.out.1 HS6.out.2.1 HS6.out.2.2.2 hR7 k7)
  clear hR7 HS6
  go_wp2
  go_ret2
  rw [HB.out]
  exact ⟨_, rfl, HE.out⟩
end Go.Proofs.YtangjgclpipjdaaDoor
set_option linter.unusedVariables false
namespace Go.Proofs.YtangjgclpipjdaaDoor
open Go.RowKit Go.Proofs.YtangjgclpipjdaaDoorW.PrintWords Go.Proofs.YtangjgclpipjdaaDoorW.PrintLast Go.Proofs.YtangjgclpipjdaaDoorW.PrintMore
theorem ta_int_u8 (v : Value) (w : World) : (Instr.typeAssert (.iface 3 v) 20 5 true).run Tryd.prog w = .ok (.tuple #[.int .u8 0, .bool false]) w := by kernel_rfl
theorem ta_uint_u32 (v : Value) (w : World) : (Instr.typeAssert (.iface 38 v) 20 36 true).run Tryd.prog w = .ok (.tuple #[.int .u32 0, .bool false]) w := by kernel_rfl
theorem ta_str_one (v : Value) (w : World) : (Instr.typeAssert (.iface 9 v) 20 9 false).run Tryd.prog w = .ok v w := by kernel_rfl
theorem bytesWorld_below (w : World) (s : ByteArray) : Below w.heap.size w (Lib.bytesWorld w 5 s) :=
  ⟨rfl, rfl, rfl, by rw [Lib.bytesWorld_size]; omega, fun k hk => Lib.bytesWorld_at_old w _ s k hk⟩
theorem bytesWorld_read (w : World) (s : ByteArray) (hs : s.size ≤ 100000) (c : Nat) (hc : s.size ≤ c) : ReadB (Lib.bytesWorld w 5 s) (fun k => w.heap.size ≤ k) (.slice (some ⟨w.heap.size, 0, none⟩) s.size c) (bs s) := by
  have hl : (bs s).length = s.size := bs_length s
  rw [← hl] at hc ⊢
  refine ⟨some ⟨w.heap.size, 0, none⟩, c, rfl, hc, fun W' hW => ?_⟩
  have h' : W'.heap[w.heap.size]? = (Lib.bytesWorld w 5 s).heap[w.heap.size]? := hW _ (Nat.le_refl _) (by rw [Lib.bytesWorld_size]; omega)
  refine Kd.C_of_reads (enc := Value.int .u8) (d := (0 : Int)) ⟨rfl, by omega, fun _ => ⟨_, rfl, fun j hj => ?_⟩⟩
  have e : (⟨w.heap.size, 0, none⟩ : Addr).add j = ⟨w.heap.size, 0 + j, none⟩ := by unfold Addr.add; split <;> simp_all
  rw [e, Nat.zero_add]
  have h2 := Lib.bytesWorld_cell w 5 s j (by omega)
  rw [World.cell?_of_block (a := ⟨w.heap.size, j, none⟩) h', h2]
  simp [bs, List.getD_eq_getElem?_getD, hl ▸ hj]
set_option maxRecDepth 100000 in
set_option maxHeartbeats 4000000 in
theorem vb_exc128 (p : Nat) (nm : ByteArray) (arcs : List Int) (v : Value) (w : World) (hs : nm.size ≤ 1000) (ha : sArcs (bs nm) = (arcs, true)) (hp : w.heap[p]? = some (pduO nm 128 v)) :
    Calls Tryd.prog 48 #[.pointer (some ⟨p, 0, none⟩)] w fun e w' => GotV w w' (sVar arcs 128 [] 0) e := by
  obtain ⟨p0, p1, p2⟩ := pdu_cells hp
  have hlen : (sName arcs).length ≤ 100 := (sArcs_text _ _ ha).2.1
  have HP := Lib.hid (And.intro hp ha)
  clear ha hp
  go_enter Tryd.func48, Tryd.ntmps48
  go_wp2_with fail
  refine (marshalOid_any nm arcs hs HP.out.2 w).mono ?_
  rintro e w1 ⟨v1, rfl, ho, hb⟩
  obtain ⟨A1, c1, rfl, hc1⟩ := Kd.R_slice ho
  have hL := OwnB.within ho
  have hS := VS.start hb HP.out.1 0 0
  obtain ⟨q0, q1, q2⟩ := pdu_cells hS.obj
  have HS := Lib.hid (And.intro hL hS)
  clear ho hb hL hS HP p0 p1 p2
  go_wp2_with fail
  refine (tlv_any (w1.heap.size + 1) (w1.heap.size + 1) [] (sName arcs) 6 A1 _ c1 _ _ HS.out.2.two (HS.out.1.below (below_two w1 _ _)) (by omega) (by omega) rfl (by omega) (by omega) (by simp; omega)).mono ?_
  rintro e w2 ⟨rfl, hW2⟩
  rw [List.nil_append] at hW2
  obtain ⟨g2, S2, -, -⟩ := HS.out.2.wrote hW2
  clear q0 q1 q2
  obtain ⟨q0, q1, q2⟩ := pdu_cells S2.obj
  generalize w1.heap.size + 1 = b2 at *
  generalize w1.heap.size = b1 at *
  have HS2 := Lib.hid S2
  clear S2 hW2 HS
  have hl6 : (sSealed 6 (sName arcs) 0).length ≤ 106 := by have := sSealed_len 6 (sName arcs); omega
  go_wp2_with fail
  refine (writeByte_any b2 g2 _ 128 w2 HS2.out.two (by omega)).mono ?_
  rintro e w3 ⟨rfl, hW3⟩
  obtain ⟨g3, S3, -, -⟩ := HS2.out.wrote hW3
  have HS3 := Lib.hid S3
  clear S3 hW3 HS2 q0 q1 q2
  go_wp2_with fail
  refine (writeByte_any b2 g3 _ 0 w3 HS3.out.two (by simp; omega)).mono ?_
  rintro e w4 ⟨rfl, hW4⟩
  obtain ⟨g4, S4, -, -⟩ := HS3.out.wrote hW4
  have HS4 := Lib.hid S4
  clear S4 hW4 HS3
  go_wp2_with fail
  generalize hbz : sSealed 6 (sName arcs) 0 ++ [128] ++ [0] = bz at *
  have hbl : 1 ≤ bz.length ∧ bz.length ≤ 1000 := by rw [← hbz]; simp; omega
  have hbv : sVar arcs 128 [] 0 = sSealed 48 bz 0 := by rw [← hbz]; unfold sVar; rw [List.append_assoc]; rfl
  have hl48 := sSealed_len 48 bz
  have HB := Lib.hid hbv
  clear hbv hbz
  refine (bytes_any b2 g4 bz w4 HS4.out.two hbl.1 (by omega)).mono ?_
  rintro e w5 ⟨cap, rfl, hR5, k5, rfl⟩
  have HS5 := Lib.hid (And.intro (HS4.out.call (pw_below_drewN (Below.refl _ _) k5)) (hR5.below (pw_below_drewN (Below.refl _ _) k5)))
  clear hR5 HS4
  go_wp2_with fail
  refine (tlv_any b1 b1 [] bz 48 _ _ cap _ _ HS5.out.1.one HS5.out.2 HS5.out.1.ne2 HS5.out.1.ne2 rfl (by omega) (by omega) (by simp; omega)).mono ?_
  rintro e w6 ⟨rfl, K6, g6, B6, hg6⟩
  rw [List.nil_append] at B6
  have HS6 := Lib.hid (And.intro HS5.out.1 (And.intro K6 (And.intro B6 hg6)))
  clear K6 B6 HS5
  go_wp2_with fail
  refine (bytes_any b1 g6 (sSealed 48 bz 0) w6 HS6.out.2.2.1 (by omega) (by omega)).mono ?_
  rintro e w7 ⟨cap7, rfl, hR7, k7, rfl⟩
  have HE := Lib.hid (vb_end HS6.out.1 HS6.out.2.1 HS6.out.2.2.2 hR7 k7)
  clear hR7 HS6
  go_wp2
  go_ret2
  rw [HB.out]
  exact ⟨_, rfl, HE.out⟩
set_option maxRecDepth 100000 in
set_option maxHeartbeats 4000000 in
theorem vb_exc129 (p : Nat) (nm : ByteArray) (arcs : List Int) (v : Value) (w : World) (hs : nm.size ≤ 1000) (ha : sArcs (bs nm) = (arcs, true)) (hp : w.heap[p]? = some (pduO nm 129 v)) :
    Calls Tryd.prog 48 #[.pointer (some ⟨p, 0, none⟩)] w fun e w' => GotV w w' (sVar arcs 129 [] 0) e := by
  obtain ⟨p0, p1, p2⟩ := pdu_cells hp
  have hlen : (sName arcs).length ≤ 100 := (sArcs_text _ _ ha).2.1
  have HP := Lib.hid (And.intro hp ha)
  clear ha hp
  go_enter Tryd.func48, Tryd.ntmps48
  go_wp2_with fail
  refine (marshalOid_any nm arcs hs HP.out.2 w).mono ?_
  rintro e w1 ⟨v1, rfl, ho, hb⟩
  obtain ⟨A1, c1, rfl, hc1⟩ := Kd.R_slice ho
  have hL := OwnB.within ho
  have hS := VS.start hb HP.out.1 0 0
  obtain ⟨q0, q1, q2⟩ := pdu_cells hS.obj
  have HS := Lib.hid (And.intro hL hS)
  clear ho hb hL hS HP p0 p1 p2
  go_wp2_with fail
  refine (tlv_any (w1.heap.size + 1) (w1.heap.size + 1) [] (sName arcs) 6 A1 _ c1 _ _ HS.out.2.two (HS.out.1.below (below_two w1 _ _)) (by omega) (by omega) rfl (by omega) (by omega) (by simp; omega)).mono ?_
  rintro e w2 ⟨rfl, hW2⟩
  rw [List.nil_append] at hW2
  obtain ⟨g2, S2, -, -⟩ := HS.out.2.wrote hW2
  clear q0 q1 q2
  obtain ⟨q0, q1, q2⟩ := pdu_cells S2.obj
  generalize w1.heap.size + 1 = b2 at *
  generalize w1.heap.size = b1 at *
  have HS2 := Lib.hid S2
  clear S2 hW2 HS
  have hl6 : (sSealed 6 (sName arcs) 0).length ≤ 106 := by have := sSealed_len 6 (sName arcs); omega
  go_wp2_with fail
  refine (writeByte_any b2 g2 _ 129 w2 HS2.out.two (by omega)).mono ?_
  rintro e w3 ⟨rfl, hW3⟩
  obtain ⟨g3, S3, -, -⟩ := HS2.out.wrote hW3
  have HS3 := Lib.hid S3
  clear S3 hW3 HS2 q0 q1 q2
  go_wp2_with fail
  refine (writeByte_any b2 g3 _ 0 w3 HS3.out.two (by simp; omega)).mono ?_
  rintro e w4 ⟨rfl, hW4⟩
  obtain ⟨g4, S4, -, -⟩ := HS3.out.wrote hW4
  have HS4 := Lib.hid S4
  clear S4 hW4 HS3
  go_wp2_with fail
  generalize hbz : sSealed 6 (sName arcs) 0 ++ [129] ++ [0] = bz at *
  have hbl : 1 ≤ bz.length ∧ bz.length ≤ 1000 := by rw [← hbz]; simp; omega
  have hbv : sVar arcs 129 [] 0 = sSealed 48 bz 0 := by rw [← hbz]; unfold sVar; rw [List.append_assoc]; rfl
  have hl48 := sSealed_len 48 bz
  have HB := Lib.hid hbv
  clear hbv hbz
  refine (bytes_any b2 g4 bz w4 HS4.out.two hbl.1 (by omega)).mono ?_
  rintro e w5 ⟨cap, rfl, hR5, k5, rfl⟩
  have HS5 := Lib.hid (And.intro (HS4.out.call (pw_below_drewN (Below.refl _ _) k5)) (hR5.below (pw_below_drewN (Below.refl _ _) k5)))
  clear hR5 HS4
  go_wp2_with fail
  refine (tlv_any b1 b1 [] bz 48 _ _ cap _ _ HS5.out.1.one HS5.out.2 HS5.out.1.ne2 HS5.out.1.ne2 rfl (by omega) (by omega) (by simp; omega)).mono ?_
  rintro e w6 ⟨rfl, K6, g6, B6, hg6⟩
  rw [List.nil_append] at B6
  have HS6 := Lib.hid (And.intro HS5.out.1 (And.intro K6 (And.intro B6 hg6)))
  clear K6 B6 HS5
  go_wp2_with fail
  refine (bytes_any b1 g6 (sSealed 48 bz 0) w6 HS6.out.2.2.1 (by omega) (by omega)).mono ?_
  rintro e w7 ⟨cap7, rfl, hR7, k7, rfl⟩
  have HE := Lib.hid (vb_end HS6.out.1 HS6.out.2.1 HS6.out.2.2.2 hR7 k7)
  clear hR7 HS6
  go_wp2
  go_ret2
  rw [HB.out]
  exact ⟨_, rfl, HE.out⟩
set_option maxRecDepth 100000 in
set_option maxHeartbeats 4000000 in
theorem vb_exc130 (p : Nat) (nm : ByteArray) (arcs : List Int) (v : Value) (w : World) (hs : nm.size ≤ 1000) (ha : sArcs (bs nm) = (arcs, true)) (hp : w.heap[p]? = some (pduO nm 130 v)) :
    Calls Tryd.prog 48 #[.pointer (some ⟨p, 0, none⟩)] w fun e w' => GotV w w' (sVar arcs 130 [] 0) e := by
  obtain ⟨p0, p1, p2⟩ := pdu_cells hp
  have hlen : (sName arcs).length ≤ 100 := (sArcs_text _ _ ha).2.1
  have HP := Lib.hid (And.intro hp ha)
  clear ha hp
  go_enter Tryd.func48, Tryd.ntmps48
  go_wp2_with fail
  refine (marshalOid_any nm arcs hs HP.out.2 w).mono ?_
  rintro e w1 ⟨v1, rfl, ho, hb⟩
  obtain ⟨A1, c1, rfl, hc1⟩ := Kd.R_slice ho
  have hL := OwnB.within ho
  have hS := VS.start hb HP.out.1 0 0
  obtain ⟨q0, q1, q2⟩ := pdu_cells hS.obj
  have HS := Lib.hid (And.intro hL hS)
  clear ho hb hL hS HP p0 p1 p2
  go_wp2_with fail
  refine (tlv_any (w1.heap.size + 1) (w1.heap.size + 1) [] (sName arcs) 6 A1 _ c1 _ _ HS.out.2.two (HS.out.1.below (below_two w1 _ _)) (by omega) (by omega) rfl (by omega) (by omega) (by simp; omega)).mono ?_
  rintro e w2 ⟨rfl, hW2⟩
  rw [List.nil_append] at hW2
  obtain ⟨g2, S2, -, -⟩ := HS.out.2.wrote hW2
  clear q0 q1 q2
  obtain ⟨q0, q1, q2⟩ := pdu_cells S2.obj
  generalize w1.heap.size + 1 = b2 at *
  generalize w1.heap.size = b1 at *
  have HS2 := Lib.hid S2
  clear S2 hW2 HS
  have hl6 : (sSealed 6 (sName arcs) 0).length ≤ 106 := by have := sSealed_len 6 (sName arcs); omega
  go_wp2_with fail
  refine (writeByte_any b2 g2 _ 130 w2 HS2.out.two (by omega)).mono ?_
  rintro e w3 ⟨rfl, hW3⟩
  obtain ⟨g3, S3, -, -⟩ := HS2.out.wrote hW3
  have HS3 := Lib.hid S3
  clear S3 hW3 HS2 q0 q1 q2
  go_wp2_with fail
  refine (writeByte_any b2 g3 _ 0 w3 HS3.out.two (by simp; omega)).mono ?_
  rintro e w4 ⟨rfl, hW4⟩
  obtain ⟨g4, S4, -, -⟩ := HS3.out.wrote hW4
  have HS4 := Lib.hid S4
  clear S4 hW4 HS3
  go_wp2_with fail
  generalize hbz : sSealed 6 (sName arcs) 0 ++ [130] ++ [0] = bz at *
  have hbl : 1 ≤ bz.length ∧ bz.length ≤ 1000 := by rw [← hbz]; simp; omega
  have hbv : sVar arcs 130 [] 0 = sSealed 48 bz 0 := by rw [← hbz]; unfold sVar; rw [List.append_assoc]; rfl
  have hl48 := sSealed_len 48 bz
  have HB := Lib.hid hbv
  clear hbv hbz
  refine (bytes_any b2 g4 bz w4 HS4.out.two hbl.1 (by omega)).mono ?_
  rintro e w5 ⟨cap, rfl, hR5, k5, rfl⟩
  have HS5 := Lib.hid (And.intro (HS4.out.call (pw_below_drewN (Below.refl _ _) k5)) (hR5.below (pw_below_drewN (Below.refl _ _) k5)))
  clear hR5 HS4
  go_wp2_with fail
  refine (tlv_any b1 b1 [] bz 48 _ _ cap _ _ HS5.out.1.one HS5.out.2 HS5.out.1.ne2 HS5.out.1.ne2 rfl (by omega) (by omega) (by simp; omega)).mono ?_
  rintro e w6 ⟨rfl, K6, g6, B6, hg6⟩
  rw [List.nil_append] at B6
  have HS6 := Lib.hid (And.intro HS5.out.1 (And.intro K6 (And.intro B6 hg6)))
  clear K6 B6 HS5
  go_wp2_with fail
  refine (bytes_any b1 g6 (sSealed 48 bz 0) w6 HS6.out.2.2.1 (by omega) (by omega)).mono ?_
  rintro e w7 ⟨cap7, rfl, hR7, k7, rfl⟩
  have HE := Lib.hid (vb_end HS6.out.1 HS6.out.2.1 HS6.out.2.2.2 hR7 k7)
  clear hR7 HS6
  go_wp2
  go_ret2
  rw [HB.out]
  exact ⟨_, rfl, HE.out⟩
set_option maxRecDepth 100000 in
set_option maxHeartbeats 4000000 in
theorem vb_int (p : Nat) (nm : ByteArray) (arcs : List Int) (n : Int) (n0 : -2147483648 ≤ n) (n1 : n ≤ 2147483647) (w : World) (hs : nm.size ≤ 1000) (ha : sArcs (bs nm) = (arcs, true)) (hp : w.heap[p]? = some (pduO nm 2 (.iface 3 (.int .i64 n)))) :
    Calls Tryd.prog 48 #[.pointer (some ⟨p, 0, none⟩)] w fun e w' => GotV w w' (sVar arcs 2 (mInt32 n) 0) e := by
  obtain ⟨p0, p1, p2⟩ := pdu_cells hp
  have hlen : (sName arcs).length ≤ 100 := (sArcs_text _ _ ha).2.1
  have HP := Lib.hid (And.intro hp ha)
  clear ha hp
  go_enter Tryd.func48, Tryd.ntmps48
  go_wp2_with fail
  refine (marshalOid_any nm arcs hs HP.out.2 w).mono ?_
  rintro e w1 ⟨v1, rfl, ho, hb⟩
  obtain ⟨A1, c1, rfl, hc1⟩ := Kd.R_slice ho
  have hL := OwnB.within ho
  have hS := VS.start hb HP.out.1 0 0
  obtain ⟨q0, q1, q2⟩ := pdu_cells hS.obj
  have HS := Lib.hid (And.intro hL hS)
  clear ho hb hL hS HP p0 p1 p2
  go_wp2_with fail
  refine (tlv_any (w1.heap.size + 1) (w1.heap.size + 1) [] (sName arcs) 6 A1 _ c1 _ _ HS.out.2.two (HS.out.1.below (below_two w1 _ _)) (by omega) (by omega) rfl (by omega) (by omega) (by simp; omega)).mono ?_
  rintro e w2 ⟨rfl, hW2⟩
  rw [List.nil_append] at hW2
  obtain ⟨g2, S2, -, -⟩ := HS.out.2.wrote hW2
  clear q0 q1 q2
  obtain ⟨q0, q1, q2⟩ := pdu_cells S2.obj
  generalize w1.heap.size + 1 = b2 at *
  generalize w1.heap.size = b1 at *
  have HS2 := Lib.hid S2
  clear S2 hW2 HS
  have hl6 : (sSealed 6 (sName arcs) 0).length ≤ 106 := by have := sSealed_len 6 (sName arcs); omega
  have t1 := fun W => ta_int_u8 (.int .i64 n) W
  have t2 := fun W => ta_int_int (.int .i64 n) W
  go_wp2_with fail
  refine (marshalInt32_any n w2 n0 n1).mono ?_
  rintro e w3 ⟨v3, rfl, ho3, hb3⟩
  obtain ⟨A3, c3, rfl, hc3⟩ := Kd.R_slice ho3
  have hL3 := OwnB.within ho3
  have hl3 : (mInt32 n).length ≤ 600 := by have := mInt32_len n; omega
  have S3 := HS2.out.call hb3
  have hs2 := HS2.out.two.lt
  clear q0 q1 q2
  obtain ⟨q0, q1, q2⟩ := pdu_cells S3.obj
  have HS3 := Lib.hid (And.intro hL3 S3)
  clear hL3 S3 HS2 ho3 hb3
  go_wp2_with fail
  refine (tlv_any b2 g2 _ (mInt32 n) 2 A3 _ c3 _ w3 HS3.out.2.two HS3.out.1 (by omega) (by omega) rfl (by omega) (by omega) (by omega)).mono ?_
  rintro e w4 ⟨rfl, hW4⟩
  obtain ⟨g4, S4, -, -⟩ := HS3.out.2.wrote hW4
  have HS4 := Lib.hid S4
  have hlv : 2 ≤ (sSealed 2 (mInt32 n) 0).length ∧ (sSealed 2 (mInt32 n) 0).length ≤ 606 := by have := sSealed_len 2 (mInt32 n); omega
  clear S4 hW4 HS3 q0 q1 q2
  go_wp2_with fail
  generalize hbz : sSealed 6 (sName arcs) 0 ++ sSealed 2 (mInt32 n) 0 = bz at *
  have hbl : 1 ≤ bz.length ∧ bz.length ≤ 1000 := by rw [← hbz]; simp; omega
  have hbv : sVar arcs 2 (mInt32 n) 0 = sSealed 48 bz 0 := by rw [← hbz]; rfl
  have hl48 := sSealed_len 48 bz
  have HB := Lib.hid hbv
  clear hbv hbz
  refine (bytes_any b2 g4 bz w4 HS4.out.two hbl.1 (by omega)).mono ?_
  rintro e w5 ⟨cap, rfl, hR5, k5, rfl⟩
  have HS5 := Lib.hid (And.intro (HS4.out.call (pw_below_drewN (Below.refl _ _) k5)) (hR5.below (pw_below_drewN (Below.refl _ _) k5)))
  clear hR5 HS4
  go_wp2_with fail
  refine (tlv_any b1 b1 [] bz 48 _ _ cap _ _ HS5.out.1.one HS5.out.2 HS5.out.1.ne2 HS5.out.1.ne2 rfl (by omega) (by omega) (by simp; omega)).mono ?_
  rintro e w6 ⟨rfl, K6, g6, B6, hg6⟩
  rw [List.nil_append] at B6
  have HS6 := Lib.hid (And.intro HS5.out.1 (And.intro K6 (And.intro B6 hg6)))
  clear K6 B6 HS5
  go_wp2_with fail
  refine (bytes_any b1 g6 (sSealed 48 bz 0) w6 HS6.out.2.2.1 (by omega) (by omega)).mono ?_
  rintro e w7 ⟨cap7, rfl, hR7, k7, rfl⟩
  have HE := Lib.hid (vb_end HS6.out.1 HS6.out.2.1 HS6.out.2.2.2 hR7 k7)
  clear hR7 HS6
  go_wp2
  go_ret2
  rw [HB.out]
  exact ⟨_, rfl, HE.out⟩
set_option maxRecDepth 100000 in
set_option maxHeartbeats 4000000 in
theorem vb_u65 (p : Nat) (nm : ByteArray) (arcs : List Int) (n : Int) (n0 : 0 ≤ n) (n1 : n ≤ 4294967295) (w : World) (hs : nm.size ≤ 1000) (ha : sArcs (bs nm) = (arcs, true)) (hp : w.heap[p]? = some (pduO nm 65 (.iface 38 (.int .u64 n)))) :
    Calls Tryd.prog 48 #[.pointer (some ⟨p, 0, none⟩)] w fun e w' => GotV w w' (sVar arcs 65 (sUint n) 0) e := by
  obtain ⟨p0, p1, p2⟩ := pdu_cells hp
  have hlen : (sName arcs).length ≤ 100 := (sArcs_text _ _ ha).2.1
  have HP := Lib.hid (And.intro hp ha)
  clear ha hp
  go_enter Tryd.func48, Tryd.ntmps48
  go_wp2_with fail
  refine (marshalOid_any nm arcs hs HP.out.2 w).mono ?_
  rintro e w1 ⟨v1, rfl, ho, hb⟩
  obtain ⟨A1, c1, rfl, hc1⟩ := Kd.R_slice ho
  have hL := OwnB.within ho
  have hS := VS.start hb HP.out.1 0 0
  obtain ⟨q0, q1, q2⟩ := pdu_cells hS.obj
  have HS := Lib.hid (And.intro hL hS)
  clear ho hb hL hS HP p0 p1 p2
  go_wp2_with fail
  refine (tlv_any (w1.heap.size + 1) (w1.heap.size + 1) [] (sName arcs) 6 A1 _ c1 _ _ HS.out.2.two (HS.out.1.below (below_two w1 _ _)) (by omega) (by omega) rfl (by omega) (by omega) (by simp; omega)).mono ?_
  rintro e w2 ⟨rfl, hW2⟩
  rw [List.nil_append] at hW2
  obtain ⟨g2, S2, -, -⟩ := HS.out.2.wrote hW2
  clear q0 q1 q2
  obtain ⟨q0, q1, q2⟩ := pdu_cells S2.obj
  generalize w1.heap.size + 1 = b2 at *
  generalize w1.heap.size = b1 at *
  have HS2 := Lib.hid S2
  clear S2 hW2 HS
  have hl6 : (sSealed 6 (sName arcs) 0).length ≤ 106 := by have := sSealed_len 6 (sName arcs); omega
  have t1 := fun W => ta_uint_u32 (.int .u64 n) W
  have t2 := fun W => ta_uint_uint (.int .u64 n) W
  go_wp2_with fail
  refine (marshalUint32_any n n0 n1 _ (.inr (.inl rfl)) w2).mono ?_
  rintro e w3 ⟨v3, rfl, ho3, hb3⟩
  obtain ⟨A3, c3, rfl, hc3⟩ := (show ∃ A c, v3 = .slice A _ c ∧ _ from by obtain ⟨A, c, e, hc, -⟩ := ReadB.reads ho3; exact ⟨A, c, e, hc⟩)
  have hL3 := ReadB.bound ho3
  have hl3 : (sUint n).length ≤ 600 := by have := sUint_len n; omega
  have S3 := HS2.out.call hb3
  have hs2 := HS2.out.two.lt
  clear q0 q1 q2
  obtain ⟨q0, q1, q2⟩ := pdu_cells S3.obj
  have HS3 := Lib.hid (And.intro hL3 S3)
  clear hL3 S3 HS2 ho3 hb3
  go_wp2_with fail
  refine (tlv_any b2 g2 _ (sUint n) 65 A3 _ c3 _ w3 HS3.out.2.two HS3.out.1 (by omega) (by omega) rfl (by omega) (by omega) (by omega)).mono ?_
  rintro e w4 ⟨rfl, hW4⟩
  obtain ⟨g4, S4, -, -⟩ := HS3.out.2.wrote hW4
  have HS4 := Lib.hid S4
  have hlv : 2 ≤ (sSealed 65 (sUint n) 0).length ∧ (sSealed 65 (sUint n) 0).length ≤ 606 := by have := sSealed_len 65 (sUint n); omega
  clear S4 hW4 HS3 q0 q1 q2
  go_wp2_with fail
  generalize hbz : sSealed 6 (sName arcs) 0 ++ sSealed 65 (sUint n) 0 = bz at *
  have hbl : 1 ≤ bz.length ∧ bz.length ≤ 1000 := by rw [← hbz]; simp; omega
  have hbv : sVar arcs 65 (sUint n) 0 = sSealed 48 bz 0 := by rw [← hbz]; rfl
  have hl48 := sSealed_len 48 bz
  have HB := Lib.hid hbv
  clear hbv hbz
  refine (bytes_any b2 g4 bz w4 HS4.out.two hbl.1 (by omega)).mono ?_
  rintro e w5 ⟨cap, rfl, hR5, k5, rfl⟩
  have HS5 := Lib.hid (And.intro (HS4.out.call (pw_below_drewN (Below.refl _ _) k5)) (hR5.below (pw_below_drewN (Below.refl _ _) k5)))
  clear hR5 HS4
  go_wp2_with fail
  refine (tlv_any b1 b1 [] bz 48 _ _ cap _ _ HS5.out.1.one HS5.out.2 HS5.out.1.ne2 HS5.out.1.ne2 rfl (by omega) (by omega) (by simp; omega)).mono ?_
  rintro e w6 ⟨rfl, K6, g6, B6, hg6⟩
  rw [List.nil_append] at B6
  have HS6 := Lib.hid (And.intro HS5.out.1 (And.intro K6 (And.intro B6 hg6)))
  clear K6 B6 HS5
  go_wp2_with fail
  refine (bytes_any b1 g6 (sSealed 48 bz 0) w6 HS6.out.2.2.1 (by omega) (by omega)).mono ?_
  rintro e w7 ⟨cap7, rfl, hR7, k7, rfl⟩
  have HE := Lib.hid (vb_end HS6.out.1 HS6.out.2.1 HS6.out.2.2.2 hR7 k7)
  clear hR7 HS6
  go_wp2
  go_ret2
  rw [HB.out]
  exact ⟨_, rfl, HE.out⟩
set_option maxRecDepth 100000 in
set_option maxHeartbeats 4000000 in
theorem vb_u66 (p : Nat) (nm : ByteArray) (arcs : List Int) (n : Int) (n0 : 0 ≤ n) (n1 : n ≤ 4294967295) (w : World) (hs : nm.size ≤ 1000) (ha : sArcs (bs nm) = (arcs, true)) (hp : w.heap[p]? = some (pduO nm 66 (.iface 38 (.int .u64 n)))) :
    Calls Tryd.prog 48 #[.pointer (some ⟨p, 0, none⟩)] w fun e w' => GotV w w' (sVar arcs 66 (sUint n) 0) e := by
  obtain ⟨p0, p1, p2⟩ := pdu_cells hp
  have hlen : (sName arcs).length ≤ 100 := (sArcs_text _ _ ha).2.1
  have HP := Lib.hid (And.intro hp ha)
  clear ha hp
  go_enter Tryd.func48, Tryd.ntmps48
  go_wp2_with fail
  refine (marshalOid_any nm arcs hs HP.out.2 w).mono ?_
  rintro e w1 ⟨v1, rfl, ho, hb⟩
  obtain ⟨A1, c1, rfl, hc1⟩ := Kd.R_slice ho
  have hL := OwnB.within ho
  have hS := VS.start hb HP.out.1 0 0
  obtain ⟨q0, q1, q2⟩ := pdu_cells hS.obj
  have HS := Lib.hid (And.intro hL hS)
  clear ho hb hL hS HP p0 p1 p2
  go_wp2_with fail
  refine (tlv_any (w1.heap.size + 1) (w1.heap.size + 1) [] (sName arcs) 6 A1 _ c1 _ _ HS.out.2.two (HS.out.1.below (below_two w1 _ _)) (by omega) (by omega) rfl (by omega) (by omega) (by simp; omega)).mono ?_
  rintro e w2 ⟨rfl, hW2⟩
  rw [List.nil_append] at hW2
  obtain ⟨g2, S2, -, -⟩ := HS.out.2.wrote hW2
  clear q0 q1 q2
  obtain ⟨q0, q1, q2⟩ := pdu_cells S2.obj
  generalize w1.heap.size + 1 = b2 at *
  generalize w1.heap.size = b1 at *
  have HS2 := Lib.hid S2
  clear S2 hW2 HS
  have hl6 : (sSealed 6 (sName arcs) 0).length ≤ 106 := by have := sSealed_len 6 (sName arcs); omega
  have t1 := fun W => ta_uint_u32 (.int .u64 n) W
  have t2 := fun W => ta_uint_uint (.int .u64 n) W
  go_wp2_with fail
  refine (marshalUint32_any n n0 n1 _ (.inr (.inl rfl)) w2).mono ?_
  rintro e w3 ⟨v3, rfl, ho3, hb3⟩
  obtain ⟨A3, c3, rfl, hc3⟩ := (show ∃ A c, v3 = .slice A _ c ∧ _ from by obtain ⟨A, c, e, hc, -⟩ := ReadB.reads ho3; exact ⟨A, c, e, hc⟩)
  have hL3 := ReadB.bound ho3
  have hl3 : (sUint n).length ≤ 600 := by have := sUint_len n; omega
  have S3 := HS2.out.call hb3
  have hs2 := HS2.out.two.lt
  clear q0 q1 q2
  obtain ⟨q0, q1, q2⟩ := pdu_cells S3.obj
  have HS3 := Lib.hid (And.intro hL3 S3)
  clear hL3 S3 HS2 ho3 hb3
  go_wp2_with fail
  refine (tlv_any b2 g2 _ (sUint n) 66 A3 _ c3 _ w3 HS3.out.2.two HS3.out.1 (by omega) (by omega) rfl (by omega) (by omega) (by omega)).mono ?_
  rintro e w4 ⟨rfl, hW4⟩
  obtain ⟨g4, S4, -, -⟩ := HS3.out.2.wrote hW4
  have HS4 := Lib.hid S4
  have hlv : 2 ≤ (sSealed 66 (sUint n) 0).length ∧ (sSealed 66 (sUint n) 0).length ≤ 606 := by have := sSealed_len 66 (sUint n); omega
  clear S4 hW4 HS3 q0 q1 q2
  go_wp2_with fail
  generalize hbz : sSealed 6 (sName arcs) 0 ++ sSealed 66 (sUint n) 0 = bz at *
  have hbl : 1 ≤ bz.length ∧ bz.length ≤ 1000 := by rw [← hbz]; simp; omega
  have hbv : sVar arcs 66 (sUint n) 0 = sSealed 48 bz 0 := by rw [← hbz]; rfl
  have hl48 := sSealed_len 48 bz
  have HB := Lib.hid hbv
  clear hbv hbz
  refine (bytes_any b2 g4 bz w4 HS4.out.two hbl.1 (by omega)).mono ?_
  rintro e w5 ⟨cap, rfl, hR5, k5, rfl⟩
  have HS5 := Lib.hid (And.intro (HS4.out.call (pw_below_drewN (Below.refl _ _) k5)) (hR5.below (pw_below_drewN (Below.refl _ _) k5)))
  clear hR5 HS4
  go_wp2_with fail
  refine (tlv_any b1 b1 [] bz 48 _ _ cap _ _ HS5.out.1.one HS5.out.2 HS5.out.1.ne2 HS5.out.1.ne2 rfl (by omega) (by omega) (by simp; omega)).mono ?_
  rintro e w6 ⟨rfl, K6, g6, B6, hg6⟩
  rw [List.nil_append] at B6
  have HS6 := Lib.hid (And.intro HS5.out.1 (And.intro K6 (And.intro B6 hg6)))
  clear K6 B6 HS5
  go_wp2_with fail
  refine (bytes_any b1 g6 (sSealed 48 bz 0) w6 HS6.out.2.2.1 (by omega) (by omega)).mono ?_
  rintro e w7 ⟨cap7, rfl, hR7, k7, rfl⟩
  have HE := Lib.hid (vb_end HS6.out.1 HS6.out.2.1 HS6.out.2.2.2 hR7 k7)
  clear hR7 HS6
  go_wp2
  go_ret2
  rw [HB.out]
  exact ⟨_, rfl, HE.out⟩
set_option maxRecDepth 100000 in
set_option maxHeartbeats 4000000 in
theorem vb_u67 (p : Nat) (nm : ByteArray) (arcs : List Int) (n : Int) (n0 : 0 ≤ n) (n1 : n ≤ 4294967295) (w : World) (hs : nm.size ≤ 1000) (ha : sArcs (bs nm) = (arcs, true)) (hp : w.heap[p]? = some (pduO nm 67 (.iface 38 (.int .u64 n)))) :
    Calls Tryd.prog 48 #[.pointer (some ⟨p, 0, none⟩)] w fun e w' => GotV w w' (sVar arcs 67 (sUint n) 0) e := by
  obtain ⟨p0, p1, p2⟩ := pdu_cells hp
  have hlen : (sName arcs).length ≤ 100 := (sArcs_text _ _ ha).2.1
  have HP := Lib.hid (And.intro hp ha)
  clear ha hp
  go_enter Tryd.func48, Tryd.ntmps48
  go_wp2_with fail
  refine (marshalOid_any nm arcs hs HP.out.2 w).mono ?_
  rintro e w1 ⟨v1, rfl, ho, hb⟩
  obtain ⟨A1, c1, rfl, hc1⟩ := Kd.R_slice ho
  have hL := OwnB.within ho
  have hS := VS.start hb HP.out.1 0 0
  obtain ⟨q0, q1, q2⟩ := pdu_cells hS.obj
  have HS := Lib.hid (And.intro hL hS)
  clear ho hb hL hS HP p0 p1 p2
  go_wp2_with fail
  refine (tlv_any (w1.heap.size + 1) (w1.heap.size + 1) [] (sName arcs) 6 A1 _ c1 _ _ HS.out.2.two (HS.out.1.below (below_two w1 _ _)) (by omega) (by omega) rfl (by omega) (by omega) (by simp; omega)).mono ?_
  rintro e w2 ⟨rfl, hW2⟩
  rw [List.nil_append] at hW2
  obtain ⟨g2, S2, -, -⟩ := HS.out.2.wrote hW2
  clear q0 q1 q2
  obtain ⟨q0, q1, q2⟩ := pdu_cells S2.obj
  generalize w1.heap.size + 1 = b2 at *
  generalize w1.heap.size = b1 at *
  have HS2 := Lib.hid S2
  clear S2 hW2 HS
  have hl6 : (sSealed 6 (sName arcs) 0).length ≤ 106 := by have := sSealed_len 6 (sName arcs); omega
  have t1 := fun W => ta_uint_u32 (.int .u64 n) W
  have t2 := fun W => ta_uint_uint (.int .u64 n) W
  go_wp2_with fail
  refine (marshalUint32_any n n0 n1 _ (.inr (.inl rfl)) w2).mono ?_
  rintro e w3 ⟨v3, rfl, ho3, hb3⟩
  obtain ⟨A3, c3, rfl, hc3⟩ := (show ∃ A c, v3 = .slice A _ c ∧ _ from by obtain ⟨A, c, e, hc, -⟩ := ReadB.reads ho3; exact ⟨A, c, e, hc⟩)
  have hL3 := ReadB.bound ho3
  have hl3 : (sUint n).length ≤ 600 := by have := sUint_len n; omega
  have S3 := HS2.out.call hb3
  have hs2 := HS2.out.two.lt
  clear q0 q1 q2
  obtain ⟨q0, q1, q2⟩ := pdu_cells S3.obj
  have HS3 := Lib.hid (And.intro hL3 S3)
  clear hL3 S3 HS2 ho3 hb3
  go_wp2_with fail
  refine (tlv_any b2 g2 _ (sUint n) 67 A3 _ c3 _ w3 HS3.out.2.two HS3.out.1 (by omega) (by omega) rfl (by omega) (by omega) (by omega)).mono ?_
  rintro e w4 ⟨rfl, hW4⟩
  obtain ⟨g4, S4, -, -⟩ := HS3.out.2.wrote hW4
  have HS4 := Lib.hid S4
  have hlv : 2 ≤ (sSealed 67 (sUint n) 0).length ∧ (sSealed 67 (sUint n) 0).length ≤ 606 := by have := sSealed_len 67 (sUint n); omega
  clear S4 hW4 HS3 q0 q1 q2
  go_wp2_with fail
  generalize hbz : sSealed 6 (sName arcs) 0 ++ sSealed 67 (sUint n) 0 = bz at *
  have hbl : 1 ≤ bz.length ∧ bz.length ≤ 1000 := by rw [← hbz]; simp; omega
  have hbv : sVar arcs 67 (sUint n) 0 = sSealed 48 bz 0 := by rw [← hbz]; rfl
  have hl48 := sSealed_len 48 bz
  have HB := Lib.hid hbv
  clear hbv hbz
  refine (bytes_any b2 g4 bz w4 HS4.out.two hbl.1 (by omega)).mono ?_
  rintro e w5 ⟨cap, rfl, hR5, k5, rfl⟩
  have HS5 := Lib.hid (And.intro (HS4.out.call (pw_below_drewN (Below.refl _ _) k5)) (hR5.below (pw_below_drewN (Below.refl _ _) k5)))
  clear hR5 HS4
  go_wp2_with fail
  refine (tlv_any b1 b1 [] bz 48 _ _ cap _ _ HS5.out.1.one HS5.out.2 HS5.out.1.ne2 HS5.out.1.ne2 rfl (by omega) (by omega) (by simp; omega)).mono ?_
  rintro e w6 ⟨rfl, K6, g6, B6, hg6⟩
  rw [List.nil_append] at B6
  have HS6 := Lib.hid (And.intro HS5.out.1 (And.intro K6 (And.intro B6 hg6)))
  clear K6 B6 HS5
  go_wp2_with fail
  refine (bytes_any b1 g6 (sSealed 48 bz 0) w6 HS6.out.2.2.1 (by omega) (by omega)).mono ?_
  rintro e w7 ⟨cap7, rfl, hR7, k7, rfl⟩
  have HE := Lib.hid (vb_end HS6.out.1 HS6.out.2.1 HS6.out.2.2.2 hR7 k7)
  clear hR7 HS6
  go_wp2
  go_ret2
  rw [HB.out]
  exact ⟨_, rfl, HE.out⟩
set_option maxRecDepth 100000 in
set_option maxHeartbeats 4000000 in
theorem vb_c64 (p : Nat) (nm : ByteArray) (arcs : List Int) (n : Int) (n0 : 0 ≤ n) (n1 : n ≤ 18446744073709551615) (w : World) (hs : nm.size ≤ 1000) (ha : sArcs (bs nm) = (arcs, true)) (hp : w.heap[p]? = some (pduO nm 70 (.iface 22 (.int .u64 n)))) :
    Calls Tryd.prog 48 #[.pointer (some ⟨p, 0, none⟩)] w fun e w' => GotV w w' (sVar arcs 70 (sUint n) 0) e := by
  obtain ⟨p0, p1, p2⟩ := pdu_cells hp
  have hlen : (sName arcs).length ≤ 100 := (sArcs_text _ _ ha).2.1
  have HP := Lib.hid (And.intro hp ha)
  clear ha hp
  go_enter Tryd.func48, Tryd.ntmps48
  go_wp2_with fail
  refine (marshalOid_any nm arcs hs HP.out.2 w).mono ?_
  rintro e w1 ⟨v1, rfl, ho, hb⟩
  obtain ⟨A1, c1, rfl, hc1⟩ := Kd.R_slice ho
  have hL := OwnB.within ho
  have hS := VS.start hb HP.out.1 0 0
  obtain ⟨q0, q1, q2⟩ := pdu_cells hS.obj
  have HS := Lib.hid (And.intro hL hS)
  clear ho hb hL hS HP p0 p1 p2
  go_wp2_with fail
  refine (tlv_any (w1.heap.size + 1) (w1.heap.size + 1) [] (sName arcs) 6 A1 _ c1 _ _ HS.out.2.two (HS.out.1.below (below_two w1 _ _)) (by omega) (by omega) rfl (by omega) (by omega) (by simp; omega)).mono ?_
  rintro e w2 ⟨rfl, hW2⟩
  rw [List.nil_append] at hW2
  obtain ⟨g2, S2, -, -⟩ := HS.out.2.wrote hW2
  clear q0 q1 q2
  obtain ⟨q0, q1, q2⟩ := pdu_cells S2.obj
  generalize w1.heap.size + 1 = b2 at *
  generalize w1.heap.size = b1 at *
  have HS2 := Lib.hid S2
  clear S2 hW2 HS
  have hl6 : (sSealed 6 (sName arcs) 0).length ≤ 106 := by have := sSealed_len 6 (sName arcs); omega
  go_wp2_with fail
  refine (marshalUint64_any n n0 n1 w2).mono ?_
  rintro e w3 ⟨v3, rfl, ho3, hb3⟩
  obtain ⟨A3, c3, rfl, hc3⟩ := (show ∃ A c, v3 = .slice A _ c ∧ _ from by obtain ⟨A, c, e, hc, -⟩ := ReadB.reads ho3; exact ⟨A, c, e, hc⟩)
  have hL3 := ReadB.bound ho3
  have hl3 : (sUint n).length ≤ 600 := by have := sUint_len n; omega
  have S3 := HS2.out.call hb3
  have hs2 := HS2.out.two.lt
  clear q0 q1 q2
  obtain ⟨q0, q1, q2⟩ := pdu_cells S3.obj
  have HS3 := Lib.hid (And.intro hL3 S3)
  clear hL3 S3 HS2 ho3 hb3
  go_wp2_with fail
  refine (tlv_any b2 g2 _ (sUint n) 70 A3 _ c3 _ w3 HS3.out.2.two HS3.out.1 (by omega) (by omega) rfl (by omega) (by omega) (by omega)).mono ?_
  rintro e w4 ⟨rfl, hW4⟩
  obtain ⟨g4, S4, -, -⟩ := HS3.out.2.wrote hW4
  have HS4 := Lib.hid S4
  have hlv : 2 ≤ (sSealed 70 (sUint n) 0).length ∧ (sSealed 70 (sUint n) 0).length ≤ 606 := by have := sSealed_len 70 (sUint n); omega
  clear S4 hW4 HS3 q0 q1 q2
  go_wp2_with fail
  generalize hbz : sSealed 6 (sName arcs) 0 ++ sSealed 70 (sUint n) 0 = bz at *
  have hbl : 1 ≤ bz.length ∧ bz.length ≤ 1000 := by rw [← hbz]; simp; omega
  have hbv : sVar arcs 70 (sUint n) 0 = sSealed 48 bz 0 := by rw [← hbz]; rfl
  have hl48 := sSealed_len 48 bz
  have HB := Lib.hid hbv
  clear hbv hbz
  refine (bytes_any b2 g4 bz w4 HS4.out.two hbl.1 (by omega)).mono ?_
  rintro e w5 ⟨cap, rfl, hR5, k5, rfl⟩
  have HS5 := Lib.hid (And.intro (HS4.out.call (pw_below_drewN (Below.refl _ _) k5)) (hR5.below (pw_below_drewN (Below.refl _ _) k5)))
  clear hR5 HS4
  go_wp2_with fail
  refine (tlv_any b1 b1 [] bz 48 _ _ cap _ _ HS5.out.1.one HS5.out.2 HS5.out.1.ne2 HS5.out.1.ne2 rfl (by omega) (by omega) (by simp; omega)).mono ?_
  rintro e w6 ⟨rfl, K6, g6, B6, hg6⟩
  rw [List.nil_append] at B6
  have HS6 := Lib.hid (And.intro HS5.out.1 (And.intro K6 (And.intro B6 hg6)))
  clear K6 B6 HS5
  go_wp2_with fail
  refine (bytes_any b1 g6 (sSealed 48 bz 0) w6 HS6.out.2.2.1 (by omega) (by omega)).mono ?_
  rintro e w7 ⟨cap7, rfl, hR7, k7, rfl⟩
  have HE := Lib.hid (vb_end HS6.out.1 HS6.out.2.1 HS6.out.2.2.2 hR7 k7)
  clear hR7 HS6
  go_wp2
  go_ret2
  rw [HB.out]
  exact ⟨_, rfl, HE.out⟩
set_option maxRecDepth 100000 in
set_option maxHeartbeats 4000000 in
theorem vb_oid (p : Nat) (nm : ByteArray) (arcs : List Int) (tx : ByteArray) (arcs2 : List Int) (hs2 : tx.size ≤ 1000) (ha2 : sArcs (bs tx) = (arcs2, true)) (w : World) (hs : nm.size ≤ 1000) (ha : sArcs (bs nm) = (arcs, true)) (hp : w.heap[p]? = some (pduO nm 6 (.iface 9 (.string tx)))) :
    Calls Tryd.prog 48 #[.pointer (some ⟨p, 0, none⟩)] w fun e w' => GotV w w' (sVar arcs 6 (sName arcs2) 0) e := by
  obtain ⟨p0, p1, p2⟩ := pdu_cells hp
  have hlen : (sName arcs).length ≤ 100 := (sArcs_text _ _ ha).2.1
  have HP := Lib.hid (And.intro hp ha)
  clear ha hp
  have hlen2 : (sName arcs2).length ≤ 100 := (sArcs_text _ _ ha2).2.1
  have HA2 := Lib.hid ha2
  clear ha2
  go_enter Tryd.func48, Tryd.ntmps48
  go_wp2_with fail
  refine (marshalOid_any nm arcs hs HP.out.2 w).mono ?_
  rintro e w1 ⟨v1, rfl, ho, hb⟩
  obtain ⟨A1, c1, rfl, hc1⟩ := Kd.R_slice ho
  have hL := OwnB.within ho
  have hS := VS.start hb HP.out.1 0 0
  obtain ⟨q0, q1, q2⟩ := pdu_cells hS.obj
  have HS := Lib.hid (And.intro hL hS)
  clear ho hb hL hS HP p0 p1 p2
  go_wp2_with fail
  refine (tlv_any (w1.heap.size + 1) (w1.heap.size + 1) [] (sName arcs) 6 A1 _ c1 _ _ HS.out.2.two (HS.out.1.below (below_two w1 _ _)) (by omega) (by omega) rfl (by omega) (by omega) (by simp; omega)).mono ?_
  rintro e w2 ⟨rfl, hW2⟩
  rw [List.nil_append] at hW2
  obtain ⟨g2, S2, -, -⟩ := HS.out.2.wrote hW2
  clear q0 q1 q2
  obtain ⟨q0, q1, q2⟩ := pdu_cells S2.obj
  generalize w1.heap.size + 1 = b2 at *
  generalize w1.heap.size = b1 at *
  have HS2 := Lib.hid S2
  clear S2 hW2 HS
  have hl6 : (sSealed 6 (sName arcs) 0).length ≤ 106 := by have := sSealed_len 6 (sName arcs); omega
  have t1 := fun W => ta_str_one (.string tx) W
  go_wp2_with fail
  refine (marshalOid_any tx arcs2 hs2 HA2.out w2).mono ?_
  rintro e w3 ⟨v3, rfl, ho3, hb3⟩
  obtain ⟨A3, c3, rfl, hc3⟩ := Kd.R_slice ho3
  have hL3 := OwnB.within ho3
  have hl3 : (sName arcs2).length ≤ 600 := by omega
  have S3 := HS2.out.call hb3
  have hs2 := HS2.out.two.lt
  clear q0 q1 q2
  obtain ⟨q0, q1, q2⟩ := pdu_cells S3.obj
  have HS3 := Lib.hid (And.intro hL3 S3)
  clear hL3 S3 HS2 ho3 hb3
  go_wp2_with fail
  refine (tlv_any b2 g2 _ (sName arcs2) 6 A3 _ c3 _ w3 HS3.out.2.two HS3.out.1 (by omega) (by omega) rfl (by omega) (by omega) (by omega)).mono ?_
  rintro e w4 ⟨rfl, hW4⟩
  obtain ⟨g4, S4, -, -⟩ := HS3.out.2.wrote hW4
  have HS4 := Lib.hid S4
  have hlv : 2 ≤ (sSealed 6 (sName arcs2) 0).length ∧ (sSealed 6 (sName arcs2) 0).length ≤ 606 := by have := sSealed_len 6 (sName arcs2); omega
  clear S4 hW4 HS3 q0 q1 q2
  go_wp2_with fail
  generalize hbz : sSealed 6 (sName arcs) 0 ++ sSealed 6 (sName arcs2) 0 = bz at *
  have hbl : 1 ≤ bz.length ∧ bz.length ≤ 1000 := by rw [← hbz]; simp; omega
  have hbv : sVar arcs 6 (sName arcs2) 0 = sSealed 48 bz 0 := by rw [← hbz]; rfl
  have hl48 := sSealed_len 48 bz
  have HB := Lib.hid hbv
  clear hbv hbz
  refine (bytes_any b2 g4 bz w4 HS4.out.two hbl.1 (by omega)).mono ?_
  rintro e w5 ⟨cap, rfl, hR5, k5, rfl⟩
  have HS5 := Lib.hid (And.intro (HS4.out.call (pw_below_drewN (Below.refl _ _) k5)) (hR5.below (pw_below_drewN (Below.refl _ _) k5)))
  clear hR5 HS4
  go_wp2_with fail
  refine (tlv_any b1 b1 [] bz 48 _ _ cap _ _ HS5.out.1.one HS5.out.2 HS5.out.1.ne2 HS5.out.1.ne2 rfl (by omega) (by omega) (by simp; omega)).mono ?_
  rintro e w6 ⟨rfl, K6, g6, B6, hg6⟩
  rw [List.nil_append] at B6
  have HS6 := Lib.hid (And.intro HS5.out.1 (And.intro K6 (And.intro B6 hg6)))
  clear K6 B6 HS5
  go_wp2_with fail
  refine (bytes_any b1 g6 (sSealed 48 bz 0) w6 HS6.out.2.2.1 (by omega) (by omega)).mono ?_
  rintro e w7 ⟨cap7, rfl, hR7, k7, rfl⟩
  have HE := Lib.hid (vb_end HS6.out.1 HS6.out.2.1 HS6.out.2.2.2 hR7 k7)
  clear hR7 HS6
  go_wp2
  go_ret2
  rw [HB.out]
  exact ⟨_, rfl, HE.out⟩
set_option maxRecDepth 100000 in
set_option maxHeartbeats 4000000 in
theorem vb_oct (p : Nat) (nm : ByteArray) (arcs : List Int) (tx : ByteArray) (ht : tx.size ≤ 500) (w : World) (hs : nm.size ≤ 1000) (ha : sArcs (bs nm) = (arcs, true)) (hp : w.heap[p]? = some (pduO nm 4 (.iface 9 (.string tx)))) :
    Calls Tryd.prog 48 #[.pointer (some ⟨p, 0, none⟩)] w fun e w' => GotV w w' (sVar arcs 4 (bs tx) 0) e := by
  obtain ⟨p0, p1, p2⟩ := pdu_cells hp
  have hlen : (sName arcs).length ≤ 100 := (sArcs_text _ _ ha).2.1
  have HP := Lib.hid (And.intro hp ha)
  clear ha hp
  go_enter Tryd.func48, Tryd.ntmps48
  go_wp2_with fail
  refine (marshalOid_any nm arcs hs HP.out.2 w).mono ?_
  rintro e w1 ⟨v1, rfl, ho, hb⟩
  obtain ⟨A1, c1, rfl, hc1⟩ := Kd.R_slice ho
  have hL := OwnB.within ho
  have hS := VS.start hb HP.out.1 0 0
  obtain ⟨q0, q1, q2⟩ := pdu_cells hS.obj
  have HS := Lib.hid (And.intro hL hS)
  clear ho hb hL hS HP p0 p1 p2
  go_wp2_with fail
  refine (tlv_any (w1.heap.size + 1) (w1.heap.size + 1) [] (sName arcs) 6 A1 _ c1 _ _ HS.out.2.two (HS.out.1.below (below_two w1 _ _)) (by omega) (by omega) rfl (by omega) (by omega) (by simp; omega)).mono ?_
  rintro e w2 ⟨rfl, hW2⟩
  rw [List.nil_append] at hW2
  obtain ⟨g2, S2, -, -⟩ := HS.out.2.wrote hW2
  clear q0 q1 q2
  obtain ⟨q0, q1, q2⟩ := pdu_cells S2.obj
  generalize w1.heap.size + 1 = b2 at *
  generalize w1.heap.size = b1 at *
  have HS2 := Lib.hid S2
  clear S2 hW2 HS
  have hl6 : (sSealed 6 (sName arcs) 0).length ≤ 106 := by have := sSealed_len 6 (sName arcs); omega
  have t1 := fun W => ta_str_bytes (.string tx) W
  have t2 := fun W => ta_str_str (.string tx) W
  have hcv := Lib.run_convert_string_bytes (P := Tryd.prog) w2 9 26 5 tx Tryd.underlying9 Tryd.underlying26 Tryd.underlying5
  have hcap : tx.size ≤ grownCap w2 tx.size 0 5 := grownCap_ge w2 _ _ _
  generalize grownCap w2 tx.size 0 5 = c3 at *
  have hbs := bs_length tx
  have hL3 := bytesWorld_read w2 tx (by omega) c3 hcap
  have hB3 := bytesWorld_below w2 tx
  generalize Lib.bytesWorld w2 5 tx = w3 at *
  have S3 := HS2.out.call hB3
  have hs2 := HS2.out.two.lt
  have q2' := (pdu_cells S3.obj).2.2
  have HS3 := Lib.hid (And.intro (ReadB.bound hL3) S3)
  clear hL3 S3 HS2 hB3
  go_wp2_with fail
  refine (tlv_any b2 g2 _ (bs tx) 4 _ tx.size c3 _ w3 HS3.out.2.two HS3.out.1 (by omega) (by omega) hbs (by omega) (by omega) (by omega)).mono ?_
  rintro e w4 ⟨rfl, hW4⟩
  obtain ⟨g4, S4, -, -⟩ := HS3.out.2.wrote hW4
  have HS4 := Lib.hid S4
  have hlv : 2 ≤ (sSealed 4 (bs tx) 0).length ∧ (sSealed 4 (bs tx) 0).length ≤ 606 := by have := sSealed_len 4 (bs tx); omega
  clear S4 hW4 HS3 q0 q1 q2 q2'
  go_wp2_with fail
  generalize hbz : sSealed 6 (sName arcs) 0 ++ sSealed 4 (bs tx) 0 = bz at *
  have hbl : 1 ≤ bz.length ∧ bz.length ≤ 1000 := by rw [← hbz]; simp; omega
  have hbv : sVar arcs 4 (bs tx) 0 = sSealed 48 bz 0 := by rw [← hbz]; rfl
  have hl48 := sSealed_len 48 bz
  have HB := Lib.hid hbv
  clear hbv hbz
  refine (bytes_any b2 g4 bz w4 HS4.out.two hbl.1 (by omega)).mono ?_
  rintro e w5 ⟨cap, rfl, hR5, k5, rfl⟩
  have HS5 := Lib.hid (And.intro (HS4.out.call (pw_below_drewN (Below.refl _ _) k5)) (hR5.below (pw_below_drewN (Below.refl _ _) k5)))
  clear hR5 HS4
  go_wp2_with fail
  refine (tlv_any b1 b1 [] bz 48 _ _ cap _ _ HS5.out.1.one HS5.out.2 HS5.out.1.ne2 HS5.out.1.ne2 rfl (by omega) (by omega) (by simp; omega)).mono ?_
  rintro e w6 ⟨rfl, K6, g6, B6, hg6⟩
  rw [List.nil_append] at B6
  have HS6 := Lib.hid (And.intro HS5.out.1 (And.intro K6 (And.intro B6 hg6)))
  clear K6 B6 HS5
  go_wp2_with fail
  refine (bytes_any b1 g6 (sSealed 48 bz 0) w6 HS6.out.2.2.1 (by omega) (by omega)).mono ?_
  rintro e w7 ⟨cap7, rfl, hR7, k7, rfl⟩
  have HE := Lib.hid (vb_end HS6.out.1 HS6.out.2.1 HS6.out.2.2.2 hR7 k7)
  clear hR7 HS6
  go_wp2
  go_ret2
  rw [HB.out]
  exact ⟨_, rfl, HE.out⟩
end Go.Proofs.YtangjgclpipjdaaDoor
set_option linter.unusedVariables false
namespace Go.Proofs.YtangjgclpipjdaaDoor
open Go.RowKit Go.Proofs.YtangjgclpipjdaaDoorW.PrintWords Go.Proofs.YtangjgclpipjdaaDoorW.PrintLast Go.Proofs.YtangjgclpipjdaaDoorW.PrintMore
theorem addrGo_len (l : List Int) : ∀ (out : List Int) (n : Int) (sm : Bool) (r : List Int), addrGo l out n sm = some r → out.length + 1 ≤ r.length := by
  induction l with
  | nil =>
    intro out n sm r h
    unfold addrGo at h
    split at h
    · simp only [Option.some.injEq] at h; subst h; simp
    · simp at h
  | cons c l ih =>
    intro out n sm r h
    unfold addrGo at h
    split at h
    · split at h
      · have := ih _ _ _ _ h
        simp at this
        omega
      · simp at h
    · split at h
      · simp at h
      · exact ih _ _ _ _ h
theorem addrGo_dot {l out : List Int} {n : Int} {sm : Bool} {r : List Int} (h : addrGo (46 :: l) out n sm = some r) (h4 : r.length = 4) : sm = true ∧ out.length ≤ 2 ∧ l ≠ [] ∧ addrGo l (out ++ [n]) 0 false = some r := by
  unfold addrGo at h
  rw [if_pos rfl] at h
  split at h
  · rename_i hc
    have hl := addrGo_len _ _ _ _ _ h
    simp at hl
    refine ⟨hc.1, by omega, ?_, h⟩
    rintro rfl
    simp [addrGo] at h
  · simp at h
theorem addrGo_dig {c : Int} {l out : List Int} {n : Int} {sm : Bool} {r : List Int} (h : addrGo (c :: l) out n sm = some r) (hc : c ≠ 46) : 48 ≤ c ∧ c ≤ 57 ∧ ¬ (sm = true ∧ n = 0) ∧ 10 * n + (c - 48) ≤ 255 ∧ addrGo l out (10 * n + (c - 48)) true = some r := by
  unfold addrGo at h
  rw [if_neg hc] at h
  split at h
  · simp at h
  · rename_i hn
    simp only [not_or] at hn
    exact ⟨by omega, by omega, hn.2.2.1, by omega, h⟩
theorem addrGo_end {out : List Int} {n : Int} {sm : Bool} {r : List Int} (h : addrGo [] out n sm = some r) : sm = true ∧ r = out ++ [n] := by
  unfold addrGo at h
  split at h
  · rename_i hc
    simp only [Option.some.injEq] at h
    exact ⟨hc.1, h.symm⟩
  · simp at h
/-- The block of four fields, so far. -/
def fields (out : List Int) : List Int := out ++ List.replicate (4 - out.length) 0
theorem fields_set (out : List Int) (n : Int) (h : out.length ≤ 3) : (fields out).set out.length n = fields (out ++ [n]) := by
  unfold fields
  rw [List.length_append, List.length_singleton, show 4 - out.length = (4 - (out.length + 1)) + 1 by omega, List.replicate_succ, List.set_append_right _ _ (Nat.le_refl _)]
  simp
theorem fields_four (r : List Int) (h : r.length = 4) : fields r = r := by
  unfold fields
  rw [h]
  simp
theorem sAddr_go {tx out : List Int} (h : sAddr tx = (out, true)) : addrGo tx [] 0 false = some out ∧ out.length = 4 := by
  unfold sAddr finD at h
  cases hg : addrGo tx [] 0 false with
  | none => rw [hg] at h; simp at h
  | some r =>
    rw [hg] at h
    simp only [Prod.mk.injEq, decide_eq_true_eq] at h
    obtain ⟨rfl, h⟩ := h
    exact ⟨rfl, h⟩
end Go.Proofs.YtangjgclpipjdaaDoor
set_option linter.unusedVariables false
namespace Go.Proofs.YtangjgclpipjdaaDoor
open Go.RowKit Go.Proofs.YtangjgclpipjdaaDoorW.PrintWords Go.Proofs.YtangjgclpipjdaaDoorW.PrintLast Go.Proofs.YtangjgclpipjdaaDoorW.PrintMore
/-- netip.Addr as a value: a version 4 address of the number n. -/
abbrev ipV (n : Int) (z : Addr) : Value := .agg #[.int .u64 0, .int .u64 (281470681743360 + n), .pointer (some z)]
/-- The package's variables z4, z0. -/
def ZTab (z : Addr) (w : World) : Prop := w.cell? ⟨13, 0, none⟩ = some (.pointer (some z)) ∧ w.cell? ⟨9, 0, none⟩ = some (.pointer none)
theorem cell_up' {W W' : World} {a : Addr} {v : Value} (c : W.cell? a = some v) (hb : Below W.heap.size W W') : W'.cell? a = some v := (hb.cell (World.block_lt_of_cell? _ _ c)).trans c
theorem ZTab.on {z : Addr} {w w' : World} (h : ZTab z w) (hb : Below w.heap.size w w') : ZTab z w' := ⟨cell_up' h.1 hb, cell_up' h.2 hb⟩
theorem cell_al {W : World} {a : Addr} {v : Value} (c : W.cell? a = some v) (o : Obj) : (W.alloc o).cell? a = some v := cell_up' c ((Below.refl _ _).alloc (Nat.le_refl _) o)
abbrev ipO (n : Int) (z : Addr) : Obj := .cells #[.int .u64 0, .int .u64 (281470681743360 + n), .pointer (some z)] 158
def ip4 (a b c d : Int) : Int := a * 16777216 + b * 65536 + c * 256 + d
theorem eq_nil (d : Nat) (W : World) : ∀ a : Addr, (Op.equalIn (d + 1) 154 (.pointer (some a)) (.pointer none)).run Tryd.prog W = .ok false W := fun a =>
  (run_equalIn_pointer_nil (P := Tryd.prog) W d 154 (some a) (by kernel_rfl)).trans rfl
theorem eq_self (d : Nat) (W : World) : ∀ a : Addr, (Op.equalIn (d + 1) 154 (.pointer (some a)) (.pointer (some a))).run Tryd.prog W = .ok true W := fun a => by
  have h := Tryd.underlying154
  obtain ⟨i, hi⟩ := Option.isSome_iff_exists.1 (show (Tryd.prog.info? 201).isSome = true by kernel_rfl)
  simp [Op.equalIn, run_underlying h, sizeOf, typeInfo, hi, Result.andThen, run_sameAddr_same]
theorem OwnB.blk {w : World} {B : Nat} {v : Value} {xs : List Int} (h : OwnB w B v xs) (k : Nat) (hk : v.ownBlock = some k) : B ≤ k := ((Kd.R_bound h).1 k hk).2.1
end Go.Proofs.YtangjgclpipjdaaDoor
set_option linter.unusedVariables false
namespace Go.Proofs.YtangjgclpipjdaaDoor
open Go.RowKit Go.Proofs.YtangjgclpipjdaaDoorW.PrintWords Go.Proofs.YtangjgclpipjdaaDoorW.PrintLast Go.Proofs.YtangjgclpipjdaaDoorW.PrintMore
theorem ip_cells {W : World} {g : Nat} {n : Int} {z : Addr} (h : W.heap[g]? = some (ipO n z)) : W.cell? ⟨g, 0, none⟩ = some (.int .u64 0) ∧ W.cell? ⟨g, 1, none⟩ = some (.int .u64 (281470681743360 + n)) ∧ W.cell? ⟨g, 2, none⟩ = some (.pointer (some z)) :=
  ⟨(blk_cell h 0).trans rfl, (blk_cell h 1).trans rfl, (blk_cell h 2).trans rfl⟩
theorem OwnB.lt {w : World} {B : Nat} {v : Value} {xs : List Int} (h : OwnB w B v xs) (k : Nat) (hk : v.ownBlock = some k) : k < w.heap.size := ((Kd.R_bound h).1 k hk).2.2.1
end Go.Proofs.YtangjgclpipjdaaDoor
set_option linter.unusedVariables false
namespace Go.Proofs.YtangjgclpipjdaaDoor
open Go.RowKit Go.Proofs.YtangjgclpipjdaaDoorW.PrintWords Go.Proofs.YtangjgclpipjdaaDoorW.PrintLast Go.Proofs.YtangjgclpipjdaaDoorW.PrintMore
set_option maxRecDepth 100000 in
theorem addrFrom4_any (a b c d : Int) (z : Addr) (w : World) (ha : 0 ≤ a ∧ a ≤ 255) (hb : 0 ≤ b ∧ b ≤ 255) (hc : 0 ≤ c ∧ c ≤ 255) (hd : 0 ≤ d ∧ d ≤ 255) (hz : ZTab z w) :
    Calls Tryd.prog 117 #[.agg #[.int .u8 a, .int .u8 b, .int .u8 c, .int .u8 d]] w fun e w' => e = .returned (ipV (ip4 a b c d) z) ∧ Below w.heap.size w w' := by
  have o1 : bits .or .u64 281470681743360 (a * 16777216) = 281470681743360 + a * 16777216 := by
    rw [u64_or _ _ (by omega) (by omega) (by omega) (by omega), nat_join 32 _ _ (by omega) (by omega)]; omega
  have o2 : bits .or .u64 (281470681743360 + a * 16777216) (b * 65536) = 281470681743360 + a * 16777216 + b * 65536 := by
    rw [u64_or _ _ (by omega) (by omega) (by omega) (by omega), nat_join 24 _ _ (by omega) (by omega)]; omega
  have o3 : bits .or .u64 (281470681743360 + a * 16777216 + b * 65536) (c * 256) = 281470681743360 + a * 16777216 + b * 65536 + c * 256 := by
    rw [u64_or _ _ (by omega) (by omega) (by omega) (by omega), nat_join 16 _ _ (by omega) (by omega)]; omega
  have o4 : bits .or .u64 (281470681743360 + a * 16777216 + b * 65536 + c * 256) d = 281470681743360 + a * 16777216 + b * 65536 + c * 256 + d := by
    rw [u64_or _ _ (by omega) (by omega) (by omega) (by omega), nat_join 8 _ _ (by omega) (by omega)]; omega
  have e4 : 281470681743360 + a * 16777216 + b * 65536 + c * 256 + d = 281470681743360 + ip4 a b c d := by unfold ip4; omega
  have hz2 := cell_al (cell_al hz.1 (.cells #[.int .u8 a, .int .u8 b, .int .u8 c, .int .u8 d] 186)) (.cells #[.int .u64 0, .int .u64 0, .pointer none] 158)
  have HE := Lib.hid e4
  clear e4
  go_enter Tryd.func117, Tryd.ntmps117
  go_wp2
  have hr := blk_new (w.alloc (.cells #[.int .u8 a, .int .u8 b, .int .u8 c, .int .u8 d] 186)) (ipO (ip4 a b c d) z)
  rw [show (w.alloc (.cells #[.int .u8 a, .int .u8 b, .int .u8 c, .int .u8 d] 186)).heap.size = w.heap.size + 1 by simp] at hr
  rw [HE.out]
  exact bodyPost_ret (results_cell_row rfl _ _ (w.heap.size + 1) 158 #[.int .u64 0, .int .u64 (281470681743360 + ip4 a b c d), .pointer (some z)] (0, 0) _ rfl hr Tryd.underlying158 rfl (by kernel_rfl)) rfl ⟨rfl, ((Below.refl w.heap.size w).alloc (Nat.le_refl _) _).alloc (by simp) _⟩
theorem results_ct {P : Program} {fn : Func} {p u : Tmp} {ty : TypeId} (h : fn.results = #[.cell p ty, .tmp u]) (tmps : Array Value) (w : World) (g : Nat) (t : TypeId) (cs : Array Value) (fr : Nat × Nat) (d : TypeDesc)
    (hp : tmps.getD p undef = .pointer (some ⟨g, 0, none⟩)) (hg : w.heap[g]? = some (.cells cs t fr))
    (hu : P.underlying ty = some d) (hd : (match d with | .struct _ | .array _ _ => true | _ => false) = true) (hi : (P.info? ty).map (·.size) = some cs.size) :
    (results fn tmps).run P w = .ok (.tuple #[.agg cs, tmps.getD u undef]) w := by
  have hp' : tmps[p]?.getD undef = .pointer (some ⟨g, 0, none⟩) := by simpa using hp
  simp [results, h, hp', asAddr, run_loadVar_row w g t ty cs fr d hg hu hd hi]
end Go.Proofs.YtangjgclpipjdaaDoor
set_option linter.unusedVariables false
namespace Go.Proofs.YtangjgclpipjdaaDoor
open Go.RowKit Go.Proofs.YtangjgclpipjdaaDoorW.PrintWords Go.Proofs.YtangjgclpipjdaaDoorW.PrintLast Go.Proofs.YtangjgclpipjdaaDoorW.PrintMore
abbrev fldO (l : List Int) : Obj := .cells (l.map (Value.int .u8)).toArray 186 (0, 0)
theorem below_al2 (w : World) (o1 o2 : Obj) : Below w.heap.size w ((w.alloc o1).alloc o2) := ((Below.refl _ _).alloc (Nat.le_refl _) _).alloc (by simp) _
theorem fld_cell {W : World} {g : Nat} {out : List Int} (h : W.heap[g]? = some (fldO (fields out))) (hl : out.length ≤ 3) : W.cell? ⟨g, out.length, none⟩ = some (.int .u8 0) := by
  rw [blk_cell h out.length]
  have h3 : out.length = 0 ∨ out.length = 1 ∨ out.length = 2 ∨ out.length = 3 := by omega
  unfold fields
  rcases h3 with h3 | h3 | h3 | h3
  all_goals simp [h3]
theorem fld_put {W : World} {g : Nat} {out : List Int} (h : W.heap[g]? = some (fldO (fields out))) (n : Int) (hl : out.length ≤ 3) : (W.setCell ⟨g, out.length, none⟩ (.int .u8 n)).heap[g]? = some (fldO (fields (out ++ [n]))) := by
  rw [Lib.heap_setCell_same (i := out.length) h _, ← fields_set out n hl]
  congr 2
  simp [List.map_set]
set_option maxRecDepth 100000 in
set_option maxHeartbeats 8000000 in
theorem parseFields_any (t : ByteArray) (r : List Int) (h : sAddr (bs t) = (r, true)) (hz : t.size ≤ 1000) (g : Nat) (w : World) (hg : w.heap[g]? = some (fldO [0, 0, 0, 0])) :
    Calls Tryd.prog 128 #[.string t, .int .i64 0, .int .i64 t.size, .slice (some ⟨g, 0, none⟩) 4 4] w fun e w' => e = .returned .nilIface ∧ KB w w' g g ∧ w'.heap[g]? = some (fldO r) := by
  obtain ⟨hgo, h4⟩ := sAddr_go h
  have hx : t.extract 0 t.size = t := by simp
  have HH := Lib.hid (And.intro hgo (And.intro h4 hg))
  clear hgo h4 h hg
  go_enter Tryd.func128, Tryd.ntmps128
  go_wp2
  go_loopg [9, 10, 11, 13] t.size (fun k v9 v10 v11 v13 wr => ∃ (i : Nat) (out : List Int) (n : Int) (sm : Bool) (dl : Nat), v9 = .int .i64 n ∧ v10 = .int .i64 out.length ∧ v11 = .int .i64 dl ∧ v13 = .int .i64 i ∧ Hid (k = t.size - i ∧ i ≤ t.size ∧ 0 ≤ n ∧ n ≤ 255 ∧ dl ≤ i ∧ (1 ≤ dl ↔ sm = true) ∧ out.length ≤ 3 ∧ addrGo ((bs t).drop i) out n sm = some r ∧ KB w wr g g ∧ wr.heap[g]? = some (fldO (fields out)) ∧ (sm = true → ∃ j c, i = j + 1 ∧ c ≠ 46 ∧ ∃ hj : j < t.size, ((t[j]'hj).toNat : Int) = c)))
  case atStart => exact ⟨0, [], 0, false, 0, rfl, rfl, rfl, rfl, Lib.hid ⟨rfl, Nat.zero_le _, by omega, by omega, Nat.le_refl _, by simp, by simp, HH.out.1, KB.refl _ _ _, HH.out.2.2, by simp⟩⟩
  case round =>
    obtain ⟨i, out, n, sm, dl, rfl, rfl, rfl, rfl, HR⟩ := hrel
    obtain ⟨hk, hi, n0, n1, hdl, hsm, hol, hgo, hKB, hblk, hprev⟩ := HR.out
    have HW := Lib.hid (And.intro hKB hblk)
    have d0 : wr.cell? ⟨g, out.length, none⟩ = some (.int .u8 0) := fld_cell hblk hol
    have f0 : wr.frozen? ⟨g, out.length, none⟩ = false := Lib.frozen_of_heap hblk _
    clear hKB hblk HR
    by_cases hi2 : i = t.size
    · subst hi2
      rw [List.drop_of_length_le (by rw [bs_length]; exact Nat.le_refl _)] at hgo
      obtain ⟨rfl, rfl⟩ := addrGo_end hgo
      have h4 := HH.out.2.1
      simp at h4
      rw [h4] at d0 f0
      have HE := Lib.hid (And.intro h4 (fld_put HW.out.2 n hol))
      have h43 : (out.length : Int) = 3 := by omega
      clear hprev hsm hgo hk h4
      go_wp2
      go_ret
      refine ⟨rfl, HW.out.1.setCell (.inl rfl) _, ?_⟩
      have h5 := HE.out.2
      rw [HE.out.1, fields_four _ (by have := HE.out.1; simp; omega)] at h5
      exact h5
    · obtain ⟨c, l, hcl⟩ : ∃ c l, (bs t).drop i = c :: l := ⟨_, _, List.drop_eq_getElem_cons (by rw [bs_length]; omega)⟩
      obtain ⟨hit, hc, hdr⟩ := char_at t i c l hcl
      have hll : l.length = t.size - (i + 1) := by rw [← hdr, List.length_drop, bs_length]
      rw [hcl] at hgo
      by_cases c46 : c = 46
      · subst c46
        obtain ⟨rfl, ho2, hl, hgo⟩ := addrGo_dot hgo HH.out.2.1
        obtain ⟨j, c', rfl, hc46, hj, hcj⟩ := hprev rfl
        have hnl : j + 2 < t.size := by
          have : l.length ≠ 0 := fun e => hl (List.eq_nil_of_length_eq_zero e)
          omega
        have hpu := fld_put HW.out.2 n hol
        have HN := Lib.hid (And.intro hgo (And.intro hdr (And.intro hpu (And.intro hdl hk))))
        have e1 : ((j + 1 : Nat) : Int) - 1 = (j : Int) := by omega
        have d46 : (c' == 46) = false := beq_eq_false_iff_ne.2 hc46
        have n256 : n % 256 = n := by omega
        have k1 : ((j : Int) + 1 == 0) = false := beq_eq_false_iff_ne.2 (by omega)
        have k2 : ((j : Int) + 1 == (t.size : Int) - 1) = false := beq_eq_false_iff_ne.2 (by omega)
        have k3 : ((out.length : Int) == 3) = false := beq_eq_false_iff_ne.2 (by omega)
        clear hgo hdr hpu hll hcl hsm hprev hdl hk hl
        go_wp2
        go_roundg (t.size - (j + 2))
        case measure =>
          have := HN.out.2.2.2.2
          omega
        case rel => exact ⟨j + 2, out ++ [n], 0, false, 0, rfl, by simp, rfl, by go_num, Lib.hid ⟨rfl, by omega, by omega, by omega, Nat.zero_le _, by simp, by simp; omega, by exact HN.out.2.1 ▸ HN.out.1, HW.out.1.setCell (.inl rfl) _, HN.out.2.2.1, by simp⟩⟩
      · obtain ⟨c0, c1, hn0, hn1, hgo⟩ := addrGo_dig hgo c46
        have HN := Lib.hid (And.intro hgo (And.intro hdr (And.intro hsm (And.intro hdl hk))))
        have e2 : n * 10 + c - 48 = 10 * n + (c - 48) := by omega
        clear hgo hdr hll hcl hprev hk
        by_cases hd1 : dl = 1
        · have hn : n ≠ 0 := fun e => hn0 ⟨hsm.1 (by omega), e⟩
          have hd0 : (n == 0) = false := beq_eq_false_iff_ne.2 hn
          subst hd1
          clear hsm hdl
          go_wp2
          go_roundg (t.size - (i + 1))
          case measure =>
            have := HN.out.2.2.2.2
            omega
          case rel => exact ⟨i + 1, out, 10 * n + (c - 48), true, 2, rfl, rfl, by go_num, by go_num, Lib.hid ⟨rfl, by omega, by omega, by omega, by have := HN.out.2.2.2.1; omega, by simp, hol, by exact HN.out.2.1 ▸ HN.out.1, HW.out.1, HW.out.2, fun _ => ⟨i, c, rfl, c46, hit, hc⟩⟩⟩
        · have hd0 : ((dl : Int) == 1) = false := beq_eq_false_iff_ne.2 (by omega)
          clear hsm
          go_wp2
          go_roundg (t.size - (i + 1))
          case measure =>
            have := HN.out.2.2.2.2
            omega
          case rel => exact ⟨i + 1, out, 10 * n + (c - 48), true, dl + 1, rfl, rfl, by go_num, by go_num, Lib.hid ⟨rfl, by omega, by omega, by omega, by have := HN.out.2.2.2.1; omega, by simp, hol, by exact HN.out.2.1 ▸ HN.out.1, HW.out.1, HW.out.2, fun _ => ⟨i, c, rfl, c46, hit, hc⟩⟩⟩
set_option maxRecDepth 100000 in
set_option maxHeartbeats 4000000 in
theorem parseIPv4_any (t : ByteArray) (a b c d : Int) (h : sAddr (bs t) = ([a, b, c, d], true)) (hz : t.size ≤ 1000) (z : Addr) (w : World) (hZ : ZTab z w) :
    Calls Tryd.prog 104 #[.string t] w fun e w' => e = .returned (.tuple #[ipV (ip4 a b c d) z, .nilIface]) ∧ Below w.heap.size w w' := by
  have hbd := (sAddr_text _ _ h).2.2
  have HH := Lib.hid (And.intro h (And.intro hbd hZ))
  clear h hbd hZ
  go_enter Tryd.func104, Tryd.ntmps104
  go_wp2_with fail
  have hblk := blk_new (w.alloc (.cells #[.int .u64 0, .int .u64 0, .pointer none] 158)) (fldO [0, 0, 0, 0])
  rw [show (w.alloc (.cells #[.int .u64 0, .int .u64 0, .pointer none] 158)).heap.size = w.heap.size + 1 by simp] at hblk
  have hb2 := below_al2 w (.cells #[.int .u64 0, .int .u64 0, .pointer none] 158) (fldO [0, 0, 0, 0])
  have hip := blk_alloc (blk_new w (.cells #[.int .u64 0, .int .u64 0, .pointer none] 158)) (fldO [0, 0, 0, 0])
  refine (parseFields_any t [a, b, c, d] HH.out.1 hz (w.heap.size + 1) _ hblk).mono ?_
  rintro e w3 ⟨rfl, K3, B3⟩
  have hip3 := K3.blk hip (by omega) (by omega)
  have hb3 := hb2.trans (K3.below (by omega) (by omega) hb2.size)
  have hs3 := K3.size
  have hz3 := HH.out.2.2.on hb3
  have m0 := blk_cell B3 0
  have m1 := blk_cell B3 1
  have m2 := blk_cell B3 2
  have m3 := blk_cell B3 3
  simp only [List.map_cons, List.map_nil] at m0 m1 m2 m3
  have q0 : w3.cell? ⟨w.heap.size + 1, 0, none⟩ = some (.int .u8 a) := m0
  have q1 : w3.cell? ⟨w.heap.size + 1, 1, none⟩ = some (.int .u8 b) := m1
  have q2 : w3.cell? ⟨w.heap.size + 1, 2, none⟩ = some (.int .u8 c) := m2
  have q3 : w3.cell? ⟨w.heap.size + 1, 3, none⟩ = some (.int .u8 d) := m3
  have H3 := Lib.hid (And.intro hb3 (And.intro hz3 (And.intro hip3 B3)))
  clear hb2 hip K3 B3 hip3 hb3 hz3 m0 m1 m2 m3 hblk
  go_wp2_with fail
  refine (addrFrom4_any a b c d z w3 (HH.out.2.1 a (by simp)) (HH.out.2.1 b (by simp)) (HH.out.2.1 c (by simp)) (HH.out.2.1 d (by simp)) H3.out.2.1).mono ?_
  rintro e w4 ⟨rfl, hb4⟩
  have hr := blk_below H3.out.2.2.1 hb4
  have r0 : w4.cell? ⟨w.heap.size, 0, none⟩ = some (.int .u64 0) := (blk_cell hr 0).trans rfl
  have r1 : w4.cell? ⟨w.heap.size, 1, none⟩ = some (.int .u64 0) := (blk_cell hr 1).trans rfl
  have r2 : w4.cell? ⟨w.heap.size, 2, none⟩ = some (.pointer none) := (blk_cell hr 2).trans rfl
  have f0 := blk_frozen hr 0
  have f1 := blk_frozen hr 1
  have f2 := blk_frozen hr 2
  have H4 := Lib.hid (And.intro hr (below_step H3.out.1 hb4))
  clear hr hb4
  go_wp2
  have g0 := blk_put (cs' := #[.int .u64 0, .int .u64 0, .pointer none]) H4.out.1 0 (.int .u64 0) rfl
  have g1 := blk_put (cs' := #[.int .u64 0, .int .u64 (281470681743360 + ip4 a b c d), .pointer none]) g0 1 (.int .u64 (281470681743360 + ip4 a b c d)) rfl
  have g2 := blk_put (cs' := #[.int .u64 0, .int .u64 (281470681743360 + ip4 a b c d), .pointer (some z)]) g1 2 (.pointer (some z)) rfl
  exact bodyPost_ret (results_ct rfl _ _ w.heap.size 158 #[.int .u64 0, .int .u64 (281470681743360 + ip4 a b c d), .pointer (some z)] (0, 0) _ rfl g2 Tryd.underlying158 rfl (by kernel_rfl)) rfl ⟨rfl, below_set (below_set (below_set H4.out.2 (by omega)) (by omega)) (by omega)⟩
set_option maxRecDepth 100000 in
set_option maxHeartbeats 4000000 in
theorem parseAddr_any (t : ByteArray) (a b c d : Int) (h : sAddr (bs t) = ([a, b, c, d], true)) (hz : t.size ≤ 1000) (z : Addr) (w : World) (hZ : ZTab z w) :
    Calls Tryd.prog 80 #[.string t] w fun e w' => e = .returned (.tuple #[ipV (ip4 a b c d) z, .nilIface]) ∧ Below w.heap.size w w' := by
  have HH := Lib.hid (And.intro h hZ)
  have hgo := (sAddr_go h).1
  have HG := Lib.hid hgo
  clear h hZ hgo
  go_enter Tryd.func80, Tryd.ntmps80
  have hb2 := (Below.refl w.heap.size w).alloc (Nat.le_refl _) (.cells #[.int .u64 0, .int .u64 0, .pointer none] 158)
  have hip := blk_new w (.cells #[.int .u64 0, .int .u64 0, .pointer none] 158)
  have HB := Lib.hid (And.intro hb2 (And.intro hip (HH.out.2.on hb2)))
  clear hb2 hip
  go_wp2
  generalize (w.alloc (.cells #[.int .u64 0, .int .u64 0, .pointer none] 158)) = w2 at *
  go_loopg [4] t.size (fun k v4 wr => wr = w2 ∧ ∃ (i : Nat) (n : Int) (sm : Bool), v4 = .int .i64 i ∧ Hid (k = t.size - i ∧ i ≤ t.size ∧ addrGo ((bs t).drop i) [] n sm = some [a, b, c, d]))
  case atStart => exact ⟨rfl, 0, 0, false, rfl, Lib.hid ⟨rfl, Nat.zero_le _, HG.out⟩⟩
  case round =>
    obtain ⟨rfl, i, n, sm, rfl, HR⟩ := hrel
    obtain ⟨hk, hi, hgo⟩ := HR.out
    clear HR
    by_cases hi2 : i = t.size
    · subst hi2
      rw [List.drop_of_length_le (by rw [bs_length]; exact Nat.le_refl _)] at hgo
      have := (addrGo_end hgo).2
      simp at this
    · obtain ⟨x, l, hcl⟩ : ∃ x l, (bs t).drop i = x :: l := ⟨_, _, List.drop_eq_getElem_cons (by rw [bs_length]; omega)⟩
      obtain ⟨hit, hc, hdr⟩ := char_at t i x l hcl
      rw [hcl] at hgo
      by_cases c46 : x = 46
      · subst c46
        clear hgo hdr hcl hk HG
        go_wp2_with fail
        refine (parseIPv4_any t a b c d HH.out.1 hz z _ HB.out.2.2).mono ?_
        rintro e w4 ⟨rfl, hb4⟩
        have hr := blk_below HB.out.2.1 hb4
        have r0 : w4.cell? ⟨w.heap.size, 0, none⟩ = some (.int .u64 0) := (blk_cell hr 0).trans rfl
        have r1 : w4.cell? ⟨w.heap.size, 1, none⟩ = some (.int .u64 0) := (blk_cell hr 1).trans rfl
        have r2 : w4.cell? ⟨w.heap.size, 2, none⟩ = some (.pointer none) := (blk_cell hr 2).trans rfl
        have f0 := blk_frozen hr 0
        have f1 := blk_frozen hr 1
        have f2 := blk_frozen hr 2
        have H4 := Lib.hid (And.intro hr (below_step HB.out.1 hb4))
        clear hr hb4
        go_wp2
        have g0 := blk_put (cs' := #[.int .u64 0, .int .u64 0, .pointer none]) H4.out.1 0 (.int .u64 0) rfl
        have g1 := blk_put (cs' := #[.int .u64 0, .int .u64 (281470681743360 + ip4 a b c d), .pointer none]) g0 1 (.int .u64 (281470681743360 + ip4 a b c d)) rfl
        have g2 := blk_put (cs' := #[.int .u64 0, .int .u64 (281470681743360 + ip4 a b c d), .pointer (some z)]) g1 2 (.pointer (some z)) rfl
        exact bodyPost_ret (results_ct rfl _ _ w.heap.size 158 #[.int .u64 0, .int .u64 (281470681743360 + ip4 a b c d), .pointer (some z)] (0, 0) _ rfl g2 Tryd.underlying158 rfl (by kernel_rfl)) rfl ⟨rfl, below_set (below_set (below_set H4.out.2 (by omega)) (by omega)) (by omega)⟩
      · obtain ⟨c0, c1, -, -, hgo⟩ := addrGo_dig hgo c46
        have HN := Lib.hid (And.intro hgo (And.intro hdr hk))
        have d46 : (x == 46) = false := beq_eq_false_iff_ne.2 c46
        have d58 : (x == 58) = false := beq_eq_false_iff_ne.2 (by omega)
        have d37 : (x == 37) = false := beq_eq_false_iff_ne.2 (by omega)
        clear hgo hdr hcl hk HG
        go_wp2
        go_roundg (t.size - (i + 1))
        case measure =>
          have := HN.out.2.2
          omega
        case rel => exact ⟨rfl, i + 1, _, _, by go_num, Lib.hid ⟨rfl, by omega, HN.out.2.1 ▸ HN.out.1⟩⟩
/-- The tables, and what z4 points to: no zone. -/
def ZZone (z : Addr) (w : World) : Prop := ZTab z w ∧ (∃ b, w.cell? z = some (.bool b)) ∧ w.cell? (z.add 1) = some (.string ⟨#[]⟩)
theorem ZZone.on {z : Addr} {w w' : World} (h : ZZone z w) (hb : Below w.heap.size w w') : ZZone z w' := ⟨h.1.on hb, by obtain ⟨v, hv⟩ := h.2.1; exact ⟨v, cell_up' hv hb⟩, cell_up' h.2.2 hb⟩
set_option maxRecDepth 100000 in
set_option maxHeartbeats 4000000 in
theorem handle_any (z : Addr) (b : Bool) (w : World) (hv0 : w.cell? z = some (.bool b)) (hzz : w.cell? (z.add 1) = some (.string ⟨#[]⟩)) :
    Calls Tryd.prog 106 #[.agg #[.pointer (some z)]] w fun e w' => e = .returned (.agg #[.bool b, .string ⟨#[]⟩]) ∧ Below w.heap.size w w' := by
  have z3 := cell_al (cell_al hzz (.cells #[.pointer (some z)] 156)) (.cells #[.bool false, .string ⟨#[]⟩] 201)
  have z4 := cell_al (cell_al hv0 (.cells #[.pointer (some z)] 156)) (.cells #[.bool false, .string ⟨#[]⟩] 201)
  simp only [Go.Addr.add, Nat.reduceEqDiff, if_false] at z3
  go_enter Tryd.func106, Tryd.ntmps106
  go_wp2
  have hr := blk_new (w.alloc (.cells #[.pointer (some z)] 156)) (.cells #[.bool b, .string ⟨#[]⟩] 201)
  rw [show (w.alloc (.cells #[.pointer (some z)] 156)).heap.size = w.heap.size + 1 by simp] at hr
  exact bodyPost_ret (results_cell_row rfl _ _ (w.heap.size + 1) 201 #[.bool b, .string ⟨#[]⟩] (0, 0) _ rfl hr Tryd.underlying201 rfl (by kernel_rfl)) rfl ⟨rfl, below_al2 w _ _⟩
theorem field_zone (b : Bool) (W : World) : (Instr.field 201 (.agg #[.bool b, .string ⟨#[]⟩]) 1).run Tryd.prog W = .ok (.string ⟨#[]⟩) W := by kernel_rfl
set_option maxRecDepth 100000 in
set_option maxHeartbeats 4000000 in
theorem zone_any (n : Int) (z : Addr) (w : World) (hZ : ZZone z w) :
    Calls Tryd.prog 81 #[ipV n z] w fun e w' => e = .returned (.string ⟨#[]⟩) ∧ Below w.heap.size w w' := by
  obtain ⟨hZ, ⟨b0, hb0⟩, hzz⟩ := hZ
  have z1 := cell_al hZ.1 (ipO n z)
  have z2 := cell_al hZ.2 (ipO n z)
  have q1 := fun W => eq_nil 9998 W z
  have q2 := fun W => eq_self 9998 W z
  simp only [Nat.reduceAdd] at q1 q2
  have HZ := Lib.hid (And.intro (cell_al hb0 (ipO n z)) (cell_al hzz (ipO n z)))
  clear hZ hb0 hzz
  go_enter Tryd.func81, Tryd.ntmps81
  go_wp2_with fail
  refine (handle_any z b0 _ HZ.out.1 HZ.out.2).mono ?_
  rintro e w3 ⟨rfl, hb3⟩
  have H3 := Lib.hid (below_step ((Below.refl w.heap.size w).alloc (Nat.le_refl _) (ipO n z)) hb3)
  clear hb3
  have hfz := fun W => field_zone b0 W
  go_wp2
  go_ret
  exact ⟨rfl, H3.out⟩
end Go.Proofs.YtangjgclpipjdaaDoor
