/- marshalObjectIdentifier: the walk. marshalObjectIdentifier: the walk itself. marshalUint64, marshalUint32: the walks. -/
import Derived.Test.YtangjgclpipjdaaDoorPFnValuex6
import Derived.Test.YtangjgclpipjdaaDoorVA
import Derived.OwnWalk
import Derived.Test.YtangjgclpipjdaaDoorVC
set_option linter.unusedVariables false
namespace Go.Proofs.YtangjgclpipjdaaDoor
open Go.RowKit Go.Proofs.YtangjgclpipjdaaDoorW.PrintWords Go.Proofs.YtangjgclpipjdaaDoorW.PrintLast Go.Proofs.YtangjgclpipjdaaDoorW.PrintMore

theorem app128_step (k : Nat) (l : List Int) (n x5 x6 : Int) (h : x6 > 0) : PFnValue.snmp_appendBase128Int.l0 (k + 1) l n x5 x6 = PFnValue.snmp_appendBase128Int.l0 k l n (wrap64 (x5 + 1)) (x6 / 128) := by
  rw [PFnValue.snmp_appendBase128Int.l0, if_pos h]
theorem app128_turn (k : Nat) (l : List Int) (n x5 x6 : Int) (h : ¬ x6 > 0) : PFnValue.snmp_appendBase128Int.l0 (k + 1) l n x5 x6 = PFnValue.snmp_appendBase128Int.l1 k l n (wrap64 (x5 - 1)) := by
  rw [PFnValue.snmp_appendBase128Int.l0, if_neg h]
theorem app128_end (k : Nat) (l : List Int) (n : Int) : PFnValue.snmp_appendBase128Int.l1 (k + 1) l n (-1) = some l := by
  rw [PFnValue.snmp_appendBase128Int.l1, if_neg (by omega)]
theorem and127' (x : Int) (h0 : 0 ≤ x) (h1 : x < 256) : bits .and .u8 x 127 = x % 128 := by
  have := bits_mask .u8 8 (by decide) wraps_u8 7 (by decide) x h0 (by omega)
  simpa using this
theorem or128' (x : Int) (h0 : 0 ≤ x) (h1 : x < 128) : bits .or .u8 x 128 = x + 128 := by
  rw [u8_or x 128 h0 (by omega) (by omega) (by omega)]
  have := nat_join 7 128 x.toNat (by decide) (by omega)
  rw [Nat.or_comm, show (128 : Int).toNat = 128 from rfl, this]
  omega
theorem u64_same (x : Int) (h0 : 0 ≤ x) (h1 : x ≤ 1000) : IntKind.u64.wrap x = x := by simp [IntKind.wrap, IntKind.bits, IntKind.signed]; omega
theorem w64_same (x : Int) (h0 : -1000 ≤ x) (h1 : x ≤ 1000) : wrap64 x = x := by unfold wrap64; omega
theorem app128_last (k : Nat) (l : List Int) (n : Int) (h0 : 0 ≤ n) (h1 : n ≤ 4294967295) (hl : l.length ≤ 1000) : PFnValue.snmp_appendBase128Int.l1 (k + 2) l n 0 = some (l ++ [n % 128]) := by
  rw [PFnValue.snmp_appendBase128Int.l1, if_pos (by omega)]
  have e : IntKind.u64.wrap (wrap64 ((0 : Int) * 7)) = 0 := by rw [w64_same _ (by omega) (by omega), u64_same _ (by omega) (by omega)]; rfl
  rw [e, if_pos (by omega), if_pos rfl, if_pos (by omega)]
  have e2 : shr .i64 n 0 = n := by simp [shr]
  have e3 : wrap64 ((0 : Int) - 1) = -1 := by rw [w64_same _ (by omega) (by omega)]; rfl
  rw [e2, e3, and127' _ (by omega) (by omega), app128_end]
  congr 3
  omega
theorem app128_mid (k : Nat) (l : List Int) (n : Int) (h0 : 0 ≤ n) (h1 : n ≤ 4294967295) (hl : l.length ≤ 1000) (i : Nat) (hi : 1 ≤ i) (hi4 : i ≤ 4) (q : Int) (hq : q = n / 2 ^ (i * 7)) :
    PFnValue.snmp_appendBase128Int.l1 (k + 1) l n i = PFnValue.snmp_appendBase128Int.l1 k (l ++ [q % 128 + 128]) n ((i - 1 : Nat) : Int) := by
  rw [PFnValue.snmp_appendBase128Int.l1, if_pos (by omega)]
  have e : IntKind.u64.wrap (wrap64 ((i : Int) * 7)) = ((i * 7 : Nat) : Int) := by
    rw [w64_same _ (by omega) (by omega), u64_same _ (by omega) (by omega)]
    omega
  rw [e, if_pos (by omega), if_neg (by omega), if_pos (by omega)]
  have e2 : shr .i64 n ((i * 7 : Nat) : Int) = q := by
    rw [hq]
    unfold shr
    rcases (by omega : i = 1 ∨ i = 2 ∨ i = 3 ∨ i = 4) with rfl | rfl | rfl | rfl <;> rfl
  have e3 : wrap64 ((i : Int) - 1) = ((i - 1 : Nat) : Int) := by unfold wrap64; omega
  rw [e2, e3, and127' _ (by omega) (by omega), or128' _ (by omega) (by omega)]
  have e4 : q % 256 % 128 = q % 128 := by omega
  rw [e4]

theorem pow7 (n : Int) : n / 2 ^ (1 * 7) = n / 128 ∧ n / 2 ^ (2 * 7) = n / 16384 ∧ n / 2 ^ (3 * 7) = n / 2097152 ∧ n / 2 ^ (4 * 7) = n / 268435456 := ⟨rfl, rfl, rfl, rfl⟩

theorem app128_eq (l : List Int) (n : Int) (h0 : 0 ≤ n) (h1 : n ≤ 4294967295) (hl : l.length ≤ 900) : PFnValue.snmp_appendBase128Int.f 12 l n = some (l ++ b128 n) := by
  unfold PFnValue.snmp_appendBase128Int.f
  have d2 : n / 128 / 128 = n / 16384 := by omega
  have d3 : n / 16384 / 128 = n / 2097152 := by omega
  have d4 : n / 2097152 / 128 = n / 268435456 := by omega
  have d5 : n / 268435456 / 128 = 0 := by omega
  have w1 : wrap64 ((0 : Int) + 1) = 1 := w64_same _ (by omega) (by omega)
  have w2 : wrap64 ((1 : Int) + 1) = 2 := w64_same _ (by omega) (by omega)
  have w3 : wrap64 ((2 : Int) + 1) = 3 := w64_same _ (by omega) (by omega)
  have w4 : wrap64 ((3 : Int) + 1) = 4 := w64_same _ (by omega) (by omega)
  have w5 : wrap64 ((4 : Int) + 1) = 5 := w64_same _ (by omega) (by omega)
  have v1 : wrap64 ((1 : Int) - 1) = 0 := w64_same _ (by omega) (by omega)
  have v2 : wrap64 ((2 : Int) - 1) = (1 : Nat) := w64_same _ (by omega) (by omega)
  have v3 : wrap64 ((3 : Int) - 1) = (2 : Nat) := w64_same _ (by omega) (by omega)
  have v4 : wrap64 ((4 : Int) - 1) = (3 : Nat) := w64_same _ (by omega) (by omega)
  have v5 : wrap64 ((5 : Int) - 1) = (4 : Nat) := w64_same _ (by omega) (by omega)
  have p7 := pow7 n
  unfold b128
  by_cases c0 : n = 0
  · subst c0
    rw [if_pos rfl, if_pos (by omega)]
    rfl
  rw [if_neg c0, app128_step _ _ _ _ _ (by omega), w1]
  by_cases c1 : n < 128
  · rw [if_pos c1, app128_turn _ _ _ _ _ (by omega), v1, app128_last _ _ _ h0 h1 (by omega)]
    congr 3; omega
  rw [if_neg c1, app128_step _ _ _ _ _ (by omega), w2, d2]
  by_cases c2 : n < 16384
  · rw [if_pos c2, app128_turn _ _ _ _ _ (by omega), v2, app128_mid _ _ _ h0 h1 (by omega) 1 (by omega) (by omega) (n / 128) p7.1.symm, show ((1 - 1 : Nat) : Int) = 0 from rfl, app128_last _ _ _ h0 h1 (by simp; omega)]
    simp; omega
  rw [if_neg c2, app128_step _ _ _ _ _ (by omega), w3, d3]
  by_cases c3 : n < 2097152
  · rw [if_pos c3, app128_turn _ _ _ _ _ (by omega), v3, app128_mid _ _ _ h0 h1 (by omega) 2 (by omega) (by omega) (n / 16384) p7.2.1.symm, app128_mid _ _ _ h0 h1 (by simp; omega) 1 (by omega) (by omega) (n / 128) p7.1.symm, show ((1 - 1 : Nat) : Int) = 0 from rfl, app128_last _ _ _ h0 h1 (by simp; omega)]
    simp; omega
  rw [if_neg c3, app128_step _ _ _ _ _ (by omega), w4, d4]
  by_cases c4 : n < 268435456
  · rw [if_pos c4, app128_turn _ _ _ _ _ (by omega), v4, app128_mid _ _ _ h0 h1 (by omega) 3 (by omega) (by omega) (n / 2097152) p7.2.2.1.symm, app128_mid _ _ _ h0 h1 (by simp; omega) 2 (by omega) (by omega) (n / 16384) p7.2.1.symm, app128_mid _ _ _ h0 h1 (by simp; omega) 1 (by omega) (by omega) (n / 128) p7.1.symm, show ((1 - 1 : Nat) : Int) = 0 from rfl, app128_last _ _ _ h0 h1 (by simp; omega)]
    simp; omega
  rw [if_neg c4, app128_step _ _ _ _ _ (by omega), w5, d5, app128_turn _ _ _ _ _ (by omega), v5, app128_mid _ _ _ h0 h1 (by omega) 4 (by omega) (by omega) (n / 268435456) p7.2.2.2.symm, app128_mid _ _ _ h0 h1 (by simp; omega) 3 (by omega) (by omega) (n / 2097152) p7.2.2.1.symm, app128_mid _ _ _ h0 h1 (by simp; omega) 2 (by omega) (by omega) (n / 16384) p7.2.1.symm, app128_mid _ _ _ h0 h1 (by simp; omega) 1 (by omega) (by omega) (n / 128) p7.1.symm, show ((1 - 1 : Nat) : Int) = 0 from rfl, app128_last _ _ _ h0 h1 (by simp; omega)]
  simp; omega
end Go.Proofs.YtangjgclpipjdaaDoor
set_option linter.unusedVariables false
namespace Go.Proofs.YtangjgclpipjdaaDoor
open Go.RowKit Go.Proofs.YtangjgclpipjdaaDoorW.PrintWords Go.Proofs.YtangjgclpipjdaaDoorW.PrintLast Go.Proofs.YtangjgclpipjdaaDoorW.PrintMore

/-- What is told of the arcs so far. -/
def encP : List Int → List Int
  | [] => []
  | [_] => []
  | l => sName l
/-- The text of what is left. -/
def Left (post : List Int) (l : List Int) : Prop := Rem post l ∨ ∃ a post', post = a :: post' ∧ Num a post' l

set_option maxRecDepth 100000 in
theorem make_own (w : World) (n : Nat) (hn : n ≤ 1000) : ∃ w', (Instr.makeSlice 26 (.int .i64 0) (.int .i64 (n : Int))).run Tryd.prog w = .ok (.slice (some ⟨w.heap.size, 0, none⟩) 0 n) w' ∧ OwnB w' w.heap.size (.slice (some ⟨w.heap.size, 0, none⟩) 0 n) [] ∧ Below w.heap.size w w' := by
  obtain ⟨i, hi, hz⟩ := Option.map_eq_some_iff.1 infoB
  obtain ⟨h3, h4, h5⟩ : i.zero = some (.int .u8 0) ∧ i.size = 1 ∧ i.bytes = 1 := by simpa using hz
  obtain ⟨w', hrun, r1, r2⟩ := run_make_own (P := Tryd.prog) w w.heap.size 26 5 i (.int .u8 0) 1 rfl hi h3 h4 .i64 .i64 n (by rw [h5]; omega) (by simp [maxLen]; omega) (Nat.le_refl _)
  exact ⟨w', hrun, Kd.R_of_own (enc := Value.int .u8) r1 (fun _ _ => trivial), (Below.refl _ _).grown r2 (by simp) (by simp)⟩

theorem figs_app (l m : List Int) : ∀ v, figs (l ++ m) v = figs m (figs l v) := by
  induction l with
  | nil => intro v; rfl
  | cons c l ih => intro v; exact ih _
theorem figs_take (ds : List Int) (h : ∀ d ∈ ds, 48 ≤ d ∧ d ≤ 57) (k : Nat) (hk : k < ds.length) : 48 ≤ ds[k] ∧ ds[k] ≤ 57 ∧ 0 ≤ figs (ds.take k) 0 ∧ figs (ds.take (k + 1)) 0 = figs (ds.take k) 0 * 10 + (ds[k] - 48) ∧ figs (ds.take (k + 1)) 0 ≤ figs ds 0 := by
  obtain ⟨h1, h2⟩ := h ds[k] (List.getElem_mem hk)
  have ht : ∀ d ∈ ds.take k, 48 ≤ d ∧ d ≤ 57 := fun d hd => h d (List.mem_of_mem_take hd)
  have ht2 : ∀ d ∈ ds.take (k + 1), 48 ≤ d ∧ d ≤ 57 := fun d hd => h d (List.mem_of_mem_take hd)
  have hd2 : ∀ d ∈ ds.drop (k + 1), 48 ≤ d ∧ d ≤ 57 := fun d hd => h d (List.mem_of_mem_drop hd)
  have e : figs (ds.take (k + 1)) 0 = figs (ds.take k) 0 * 10 + (ds[k] - 48) := by
    rw [List.take_succ_eq_append_getElem hk, figs_snoc]
    omega
  have p := figs_mono _ ht 0 (Int.le_refl _)
  have p2 := figs_mono _ ht2 0 (Int.le_refl _)
  refine ⟨h1, h2, p, e, ?_⟩
  have := figs_mono _ hd2 (figs (ds.take (k + 1)) 0) p2
  rw [← figs_app, List.take_append_drop] at this
  exact this

theorem app128_own (w : World) {B : Nat} (hB : B = w.heap.size) (wr : World) (v : Value) (l l2 : List Int) (n : Int) (h0 : 0 ≤ n) (h1 : n ≤ 4294967295) (hl : l.length ≤ 900) (ho : OwnB wr B v l) (hb : Below w.heap.size w wr) (he : l ++ b128 n = l2) :
    Calls Tryd.prog 90 #[v, .int .i64 n] wr fun e w' => ∃ v', e = .returned v' ∧ Hid (OwnB w' w.heap.size v' l2 ∧ Below w.heap.size w w') := by
  subst hB
  refine (PFnValue.snmp_appendBase128Int.calls 12 (fun _ => True) v l n l2 w wr hb ho (by rw [app128_eq l n h0 h1 hl, he])).mono ?_
  rintro e w' ⟨v', rfl, hr, hb', -⟩
  exact ⟨v', rfl, Lib.hid ⟨Kd.R_mono hr (fun _ _ => trivial), hb'⟩⟩
theorem sName_app (p0 p1 a : Int) (pr : List Int) : sName (p0 :: p1 :: pr) ++ b128 a = sName (p0 :: p1 :: pr ++ [a]) := by
  unfold sName
  simp [b128s, Go.Proofs.YtangjgclpipjdaaDoorW.PrintWords.rd]
theorem encP_two (p0 a : Int) (h0 : 0 ≤ p0) (h1 : p0 ≤ 2) (h2 : 0 ≤ a) (h3 : a < 40) : [] ++ b128 (p0 * 40 + a) = encP [p0, a] := by
  have e1 : b128 (p0 * 40 + a) = [p0 * 40 + a] := by unfold b128; rw [if_pos (by omega)]
  have e2 : encP [p0, a] = [(40 * p0 + a) % 256] := rfl
  rw [e1, e2]
  simp
  omega

set_option maxRecDepth 100000 in
theorem marshalOid_any (s : ByteArray) (arcs : List Int) (hs : s.size ≤ 1000) (h : sArcs (bs s) = (arcs, true)) (w : World) :
    Calls Tryd.prog 56 #[.string s] w fun e w' => GotE w w' (sName arcs) e := by
  obtain ⟨hok, hlen, a0, post0, he0, ht0⟩ := sArcs_text _ _ h
  obtain ⟨w1, hmk, ho1, hb1⟩ := make_own w (s.size / 2) (by omega)
  rw [show ((s.size / 2 : Nat) : Int) = (s.size : Int) / 2 by omega] at hmk
  have hst : Left arcs ((bs s).drop 0) := by
    rcases ht0 with h' | h'
    · exact .inr ⟨a0, post0, he0, h'⟩
    · exact .inl h'
  have HS := Lib.hid (And.intro hok (And.intro hlen (And.intro hst (And.intro ho1 hb1))))
  clear hok hlen hst ho1 hb1 h ht0 he0
  go_enter Tryd.func56, Tryd.ntmps56
  go_wp2
  go_loopg [5, 6, 7, 8] s.size (fun k v5 v6 v7 v8 wr => ∃ (j : Nat) (pre post : List Int), v7 = .int .i64 pre.length ∧ v8 = .int .i64 j ∧ v6 = .int .i64 (rd (pre.take 1) 0) ∧ Hid (arcs = pre ++ post ∧ Left post ((bs s).drop j) ∧ OwnB wr w.heap.size v5 (encP pre) ∧ Below w.heap.size w wr ∧ j ≤ s.size ∧ k = s.size - j ∧ 0 ≤ rd (pre.take 1) 0))
  case atStart =>
    obtain ⟨hok, hlen, hst, ho1, hb1⟩ := HS.out
    exact ⟨0, [], arcs, rfl, rfl, rfl, Lib.hid ⟨rfl, hst, ho1, hb1, Nat.zero_le _, rfl, Int.le_refl _⟩⟩
  case round =>
    obtain ⟨j, pre, post, rfl, rfl, rfl, HJ⟩ := hrel
    obtain ⟨hok, hlen, -, -, -⟩ := HS.out
    obtain ⟨he, hleft, ho, hb, hj, hk, hnn⟩ := HJ.out
    clear HS HJ hmk
    have HO := Lib.hid (And.intro hok (And.intro hlen (And.intro he (And.intro ho (And.intro hb (And.intro hk hnn))))))
    clear hok hlen he ho hb hk hnn
    rcases hleft with hrem | ⟨a, post', hpost, hnum⟩
    · cases post with
      | nil =>
        have hd : (bs s).drop j = [] := by simpa [Rem] using hrem
        have hj2 : j = s.size := by
          have := congrArg List.length hd
          simp [bs] at this
          omega
        clear hrem hd
        obtain ⟨hok, hlen, he, ho, hb, hk, hnn⟩ := HO.out
        clear HO
        rw [List.append_nil] at he
        obtain ⟨o1, o2, o3, o4⟩ := hok
        rw [he] at o1 o2
        have p1 : (2 : Int) ≤ pre.length := by omega
        have p2 : (pre.length : Int) ≤ 60 := by omega
        have HO := Lib.hid (And.intro he (And.intro ho hb))
        clear he ho hb hk hnn o3 o4 hlen
        subst hj2
        go_wp2
        go_ret2
        obtain ⟨rfl, ho, hb⟩ := HO.out
        refine ⟨_, rfl, ?_, hb⟩
        have : encP arcs = sName arcs := by
          unfold encP
          split
          · simp at o1
          · simp at o1
          · rfl
        rw [← this]
        exact ho
      | cons a post' =>
        rw [Rem] at hrem
        obtain ⟨l', hl', hnum⟩ := hrem
        obtain ⟨hjs, hc, hdrop⟩ := char_at s j 46 l' hl'
        have HN := Lib.hid (And.intro hnum (And.intro hdrop hjs))
        clear hnum hdrop hl'
        go_wp2
        go_roundg (s.size - (j + 1))
        case measure =>
          have := HO.out.2.2.2.2.2.1
          have := HN.out.2.2
          omega
        case rel =>
          obtain ⟨hok, hlen, he, ho, hb, hk, hnn⟩ := HO.out
          obtain ⟨hnum, hdrop, hjs⟩ := HN.out
          refine ⟨j + 1, pre, a :: post', rfl, rfl, rfl, Lib.hid ⟨he, .inr ⟨a, post', rfl, ?_⟩, ho, hb, by omega, rfl, hnn⟩⟩
          rw [hdrop]; exact hnum
    · subst hpost
      rw [Num] at hnum
      obtain ⟨ds, l2, hl, hne, hds, hfa, ha, hrem⟩ := hnum
      obtain ⟨d, ds', rfl⟩ := List.exists_cons_of_ne_nil hne
      obtain ⟨hjs, hc, -⟩ := char_at s j d (ds' ++ l2) hl
      have hdb := hds d (by simp)
      have hc46 : (d == 46) = false := beq_eq_false_iff_ne.2 (by omega)
      have HN := Lib.hid (And.intro hl (And.intro hds (And.intro hfa (And.intro ha hrem))))
      obtain ⟨m, hm⟩ : ∃ m, m = (d :: ds').length := ⟨_, rfl⟩
      clear hl hds hfa ha hrem hne hdb
      go_wp2
      go_loopg [8, 9, 10] m (fun g v8 v9 _ w2 => w2 = wr ∧ ∃ k : Nat, v8 = .int .i64 ((j + k : Nat) : Int) ∧ v9 = .int .i64 (figs ((d :: ds').take k) 0) ∧ Hid (g = m - k ∧ k ≤ m))
      case atStart => exact ⟨rfl, 0, rfl, rfl, Lib.hid ⟨rfl, Nat.zero_le _⟩⟩
      case round =>
        obtain ⟨rfl, k, rfl, rfl, HG⟩ := hrel
        obtain ⟨hg, hk⟩ := HG.out
        clear HG
        obtain ⟨hl, hds, hfa, ha, hrem⟩ := HN.out
        by_cases hkm : k < m
        · have G := Lib.hid (And.intro hg (And.intro hk hkm))
          rw [hm] at hkm
          obtain ⟨f1, f2, f3, f4, f5⟩ := figs_take _ hds k hkm
          rw [hfa] at f5
          obtain ⟨hjk, hck, -⟩ := char_at s (j + k) (d :: ds')[k] (((d :: ds') ++ l2).drop (k + 1)) (by
            rw [← List.drop_drop, hl, List.drop_eq_getElem_cons (by simp; simp at hkm; omega), List.getElem_append_left hkm])
          clear hl hds hfa hrem hc hm hg hk
          generalize (d :: ds')[k] = c at *
          generalize hv : figs ((d :: ds').take k) 0 = v at *
          generalize hv' : figs ((d :: ds').take (k + 1)) 0 = v' at *
          have q1 : c ≠ 46 := by omega
          have q2 : (c - 48) % 256 = c - 48 := by omega
          have q3 : v * 10 ≤ 4294967295 := by omega
          have q4 : v * 10 + (c - 48) ≤ 4294967295 := by omega
          have F := Lib.hid (And.intro f4 (And.intro hv hv'))
          clear f4 f5 hv hv' ha
          go_wp2
          go_roundg (m - (k + 1))
          case measure =>
            have := G.out
            omega
          case rel => exact ⟨rfl, k + 1, rfl, by rw [F.out.2.2, F.out.1], Lib.hid ⟨rfl, by have := G.out; omega⟩⟩
        · obtain rfl : k = m := by omega
          rw [show (d :: ds').take k = d :: ds' from List.take_of_length_le (by omega), hfa]
          have hlen2 : j + (d :: ds').length ≤ s.size := by
            have := congrArg List.length hl
            rw [List.length_drop, bs_length, List.length_append] at this
            omega
          have hdm : (bs s).drop (j + k) = l2 := by rw [← List.drop_drop, hl, hm, List.drop_left]
          have hmem := figs_mono _ hds 0 (Int.le_refl _)
          rw [hfa] at hmem
          clear hkm hk hfa hl hds HN hc hg
          obtain ⟨hok, hlen, he, ho, hb, hk, hnn⟩ := HO.out
          rw [← hm] at hlen2
          have hcase : (((j : Int) + k = s.size) ∧ post' = []) ∨ ∃ (hj2 : j + k < s.size), ((s[j + k]'hj2).toNat : Int) = 46 := by
            cases post' with
            | nil =>
              left
              refine ⟨?_, rfl⟩
              have : l2 = [] := by simpa [Rem] using hrem
              rw [this] at hdm
              have := congrArg List.length hdm
              rw [List.length_drop, bs_length, List.length_nil] at this
              omega
            | cons a2 p2 =>
              right
              rw [Rem] at hrem
              obtain ⟨l', hl', -⟩ := hrem
              rw [hl'] at hdm
              obtain ⟨h1, h2, -⟩ := char_at s _ _ _ hdm
              exact ⟨h1, h2⟩
          have harc := hok
          obtain ⟨o1, o2, o3, o4⟩ := harc
          have hml : 1 ≤ k := by rw [hm, List.length_cons]; omega
          have HO := Lib.hid (And.intro hok (And.intro hlen (And.intro he (And.intro ho (And.intro hb (And.intro hk (And.intro hdm (And.intro hrem (And.intro hml (And.intro hnn ha))))))))))
          clear hok hlen ho hb hk hdm hm hrem hml
          rcases pre with _ | ⟨p0, _ | ⟨p1, pr⟩⟩
          · subst he
            have q1 : a ≤ 2 := o3
            clear o1 o2 o3 o4
            rcases hcase with ⟨hj2, rfl⟩ | ⟨hj2, hc⟩
            · have E := Lib.hid hj2
              go_wp2
              go_roundg (s.size - s.size)
              case measure =>
                obtain ⟨hok, hlen, he, ho, hb, hk, hdm, hrem, hml, hnn, ha⟩ := HO.out
                omega
              case rel =>
                obtain ⟨hok, hlen, he, ho, hb, hk, hdm, hrem, hml, hnn, ha⟩ := HO.out
                have hjk : j + k = s.size := by have := E.out; omega
                exact ⟨s.size, [a], [], rfl, rfl, rfl, Lib.hid ⟨rfl, .inl (by rw [← hjk, hdm]; exact hrem), ho, hb, Nat.le_refl _, rfl, hmem⟩⟩
            · have E := Lib.hid hj2
              go_wp2
              go_roundg (s.size - (j + k))
              case measure =>
                obtain ⟨hok, hlen, he, ho, hb, hk, hdm, hrem, hml, hnn, ha⟩ := HO.out
                omega
              case rel =>
                obtain ⟨hok, hlen, he, ho, hb, hk, hdm, hrem, hml, hnn, ha⟩ := HO.out
                exact ⟨j + k, [a], post', rfl, rfl, rfl, Lib.hid ⟨rfl, .inl (by rw [hdm]; exact hrem), ho, hb, by omega, rfl, hmem⟩⟩
          · subst he
            have q1 : p0 ≤ 2 := o3
            have q2 : a < 40 := o4
            have q3 : 0 ≤ p0 := hnn
            clear o1 o2 o3 o4 hnn ha
            have W1 : wrap64 (p0 * 40) = p0 * 40 := by unfold wrap64; omega
            have W2 : wrap64 (p0 * 40 + a) = p0 * 40 + a := by unfold wrap64; omega
            rw [show rd ([p0].take 1) 0 = p0 from rfl]
            rcases hcase with ⟨hj2, rfl⟩ | ⟨hj2, hc⟩
            · have E := Lib.hid hj2
              go_wp2_with fail
              all_goals
                refine (app128_own w rfl wr u5 [] (encP [p0, a]) (p0 * 40 + a) (by omega) (by omega) (by simp) HO.out.2.2.2.1 HO.out.2.2.2.2.1 (encP_two p0 a q3 q1 hmem q2)).mono ?_
                rintro e w2 ⟨v', rfl, HR⟩
                go_wp2
                go_roundg (s.size - s.size)
                case measure =>
                  obtain ⟨hok, hlen, he, ho, hb, hk, hdm, hrem, hml, hnn, ha⟩ := HO.out
                  omega
                case rel =>
                  obtain ⟨hok, hlen, he, ho, hb, hk, hdm, hrem, hml, hnn, ha⟩ := HO.out
                  have hjk : j + k = s.size := by have := E.out; omega
                  exact ⟨s.size, [p0, a], [], rfl, rfl, rfl, Lib.hid ⟨rfl, .inl (by rw [← hjk, hdm]; exact hrem), HR.out.1, HR.out.2, Nat.le_refl _, rfl, q3⟩⟩
            · have E := Lib.hid hj2
              go_wp2_with fail
              all_goals
                refine (app128_own w rfl wr u5 [] (encP [p0, a]) (p0 * 40 + a) (by omega) (by omega) (by simp) HO.out.2.2.2.1 HO.out.2.2.2.2.1 (encP_two p0 a q3 q1 hmem q2)).mono ?_
                rintro e w2 ⟨v', rfl, HR⟩
                go_wp2
                go_roundg (s.size - (j + k))
                case measure =>
                  obtain ⟨hok, hlen, he, ho, hb, hk, hdm, hrem, hml, hnn, ha⟩ := HO.out
                  omega
                case rel =>
                  obtain ⟨hok, hlen, he, ho, hb, hk, hdm, hrem, hml, hnn, ha⟩ := HO.out
                  exact ⟨j + k, [p0, a], post', rfl, rfl, rfl, Lib.hid ⟨rfl, .inl (by rw [hdm]; exact hrem), HR.out.1, HR.out.2, by omega, rfl, q3⟩⟩
          · have hle := sName_len (p0 :: p1 :: pr)
            rw [he] at o2
            have hl9 : (sName (p0 :: p1 :: pr)).length ≤ 900 := by simp at o2 hle; omega
            have HE := Lib.hid he
            clear he hle o1 o3 o4 hnn
            have n0 : ((pr.length : Int) + 1 + 1 == 0) = false := beq_eq_false_iff_ne.2 (by omega)
            have n1 : ((pr.length : Int) + 1 + 1 == 1) = false := beq_eq_false_iff_ne.2 (by omega)
            rw [show (((p0 :: p1 :: pr).length : Nat) : Int) = (pr.length : Int) + 1 + 1 from by simp, show rd ((p0 :: p1 :: pr).take 1) 0 = p0 from rfl]
            have n2 : (pr.length : Int) ≤ 60 := by simp at o2; omega
            clear o2
            rcases hcase with ⟨hj2, rfl⟩ | ⟨hj2, hc⟩
            · have E := Lib.hid hj2
              go_wp2_with fail
              refine (app128_own w rfl wr u5 _ _ a hmem ha (Nat.le_trans (Nat.le_of_eq rfl) hl9) HO.out.2.2.2.1 HO.out.2.2.2.2.1 (sName_app p0 p1 a pr)).mono ?_
              rintro e w2 ⟨v', rfl, HR⟩
              go_wp2
              go_roundg (s.size - s.size)
              case measure =>
                obtain ⟨hok, hlen, he, ho, hb, hk, hdm, hrem, hml, hnn, ha⟩ := HO.out
                omega
              case rel =>
                obtain ⟨hok, hlen, he, ho, hb, hk, hdm, hrem, hml, hnn, ha⟩ := HO.out
                have hjk : j + k = s.size := by have := E.out; omega
                exact ⟨s.size, p0 :: p1 :: pr ++ [a], [], by simp, by first | rfl | (rw [← hjk]), rfl, Lib.hid ⟨by rw [he]; simp, .inl (by rw [← hjk, hdm]; exact hrem), HR.out.1, HR.out.2, Nat.le_refl _, rfl, hnn⟩⟩
            · have E := Lib.hid hj2
              go_wp2_with fail
              refine (app128_own w rfl wr u5 _ _ a hmem ha (Nat.le_trans (Nat.le_of_eq rfl) hl9) HO.out.2.2.2.1 HO.out.2.2.2.2.1 (sName_app p0 p1 a pr)).mono ?_
              rintro e w2 ⟨v', rfl, HR⟩
              go_wp2
              go_roundg (s.size - (j + k))
              case measure =>
                obtain ⟨hok, hlen, he, ho, hb, hk, hdm, hrem, hml, hnn, ha⟩ := HO.out
                omega
              case rel =>
                obtain ⟨hok, hlen, he, ho, hb, hk, hdm, hrem, hml, hnn, ha⟩ := HO.out
                exact ⟨j + k, p0 :: p1 :: pr ++ [a], post', by simp, rfl, rfl, Lib.hid ⟨by rw [he]; simp, .inl (by rw [hdm]; exact hrem), HR.out.1, HR.out.2, by omega, rfl, hnn⟩⟩
end Go.Proofs.YtangjgclpipjdaaDoor
set_option linter.unusedVariables false
namespace Go.Proofs.YtangjgclpipjdaaDoor
open Go.RowKit Go.Proofs.YtangjgclpipjdaaDoorW.PrintWords Go.Proofs.YtangjgclpipjdaaDoorW.PrintLast Go.Proofs.YtangjgclpipjdaaDoorW.PrintMore

theorem zzTrim_eq (l : List Int) : ∀ k, l.length < k → PFnValue.snmp_zzTrim.f k l = some (trim0 l) := by
  unfold PFnValue.snmp_zzTrim.f
  induction l with
  | nil =>
    intro k hk
    obtain ⟨k, rfl⟩ : ∃ m, k = m + 1 := ⟨k - 1, by simp at hk; omega⟩
    rw [PFnValue.snmp_zzTrim.l0, if_neg (by simp)]
    rfl
  | cons x l ih =>
    intro k hk
    obtain ⟨k, rfl⟩ : ∃ m, k = m + 1 := ⟨k - 1, by simp at hk; omega⟩
    have hk' : l.length < k := by simpa using hk
    rw [PFnValue.snmp_zzTrim.l0, if_pos (by simp), if_pos (by simp)]
    have hr : rd (x :: l) 0 = x := rfl
    rw [hr]
    unfold trim0
    by_cases hx : x = 0
    · rw [if_pos hx, if_pos hx, if_pos (by simp; omega)]
      exact ih k hk'
    · rw [if_neg hx, if_neg hx]

theorem as_u64 (v : Value) (w : World) : (Instr.typeAssert (.iface 22 v) 20 22 true).run Tryd.prog w = .ok (.tuple #[v, .bool true]) w := by kernel_rfl
theorem as_u32 (v : Value) (w : World) : (Instr.typeAssert (.iface 36 v) 20 36 true).run Tryd.prog w = .ok (.tuple #[v, .bool true]) w := by kernel_rfl
theorem as_uint (v : Value) (w : World) : (Instr.typeAssert (.iface 38 v) 20 38 true).run Tryd.prog w = .ok (.tuple #[v, .bool true]) w := by kernel_rfl
theorem as_u8 (v : Value) (w : World) : (Instr.typeAssert (.iface 5 v) 20 5 true).run Tryd.prog w = .ok (.tuple #[v, .bool true]) w := by kernel_rfl
theorem as_err (v : Value) (w : World) : (Instr.typeAssert (.iface 85 v) 20 85 true).run Tryd.prog w = .ok (.tuple #[v, .bool true]) w := by kernel_rfl
theorem as_uint_u32 (v : Value) (w : World) : (Instr.typeAssert (.iface 38 v) 20 36 true).run Tryd.prog w = .ok (.tuple #[.int .u32 0, .bool false]) w := by kernel_rfl
theorem as_u8_u32 (v : Value) (w : World) : (Instr.typeAssert (.iface 5 v) 20 36 true).run Tryd.prog w = .ok (.tuple #[.int .u32 0, .bool false]) w := by kernel_rfl
theorem as_u8_uint (v : Value) (w : World) : (Instr.typeAssert (.iface 5 v) 20 38 true).run Tryd.prog w = .ok (.tuple #[.int .u64 0, .bool false]) w := by kernel_rfl
theorem as_err_u32 (v : Value) (w : World) : (Instr.typeAssert (.iface 85 v) 20 36 true).run Tryd.prog w = .ok (.tuple #[.int .u32 0, .bool false]) w := by kernel_rfl
theorem as_err_uint (v : Value) (w : World) : (Instr.typeAssert (.iface 85 v) 20 38 true).run Tryd.prog w = .ok (.tuple #[.int .u64 0, .bool false]) w := by kernel_rfl
theorem as_err_u8 (v : Value) (w : World) : (Instr.typeAssert (.iface 85 v) 20 5 true).run Tryd.prog w = .ok (.tuple #[.int .u8 0, .bool false]) w := by kernel_rfl
attribute [local go_sem] as_u64 as_u32 as_uint as_u8 as_err as_uint_u32 as_u8_u32 as_u8_uint as_err_u32 as_err_uint as_err_u8

theorem bel_alloc (w : World) (o : Obj) : Below w.heap.size w (w.alloc o) := (Below.refl _ _).alloc (Nat.le_refl _) _

set_option maxHeartbeats 800000 in
theorem marshalUint64_any (n : Int) (h0 : 0 ≤ n) (h1 : n ≤ 18446744073709551615) (w : World) :
    Calls Tryd.prog 68 #[.iface 22 (.int .u64 n)] w fun e w' => GotV w w' (sUint n) e := by
  have hmk : ∀ w, (Instr.makeSlice 26 (.int .i64 8) (.int .i64 8)).run Tryd.prog w = .ok (.slice (some ⟨w.heap.size, 0, none⟩) 8 8) (w.alloc (.cells #[.int .u8 0, .int .u8 0, .int .u8 0, .int .u8 0, .int .u8 0, .int .u8 0, .int .u8 0, .int .u8 0] 5)) := fun _ => by kernel_rfl
  have ht := zzTrim_eq (be64 n) 9 (by simp [be64])
  rw [trim_be64 n h0 h1] at ht
  have HT := Lib.hid ht
  clear ht
  go_enter Tryd.func68, Tryd.ntmps68
  go_wp2_with fail
  refine (PutUint64_any n h0 h1 _ 5 _ _ (blk_new _ _) rfl).mono ?_
  rintro e w1 ⟨rfl, hb1, hg1⟩
  have hbel := (bel_alloc w _).grown hg1 (by simp) (fun k hk => by injection hk with hk; omega)
  have ho1 := OwnB.of_block (B := w.heap.size) hb1 rfl (Nat.le_refl _) (by simp [be64])
  have hV := OwnB.new ho1
  have hw1 : w.heap.size < w1.heap.size := blk_lt hb1
  have HH := Lib.hid (And.intro hV hbel)
  clear hb1 hg1 hbel ho1 hV
  go_wp2_with fail
  refine (PFnValue.snmp_zzTrim.calls 9 (fun k => w.heap.size ≤ k) (some ⟨w.heap.size, 0, none⟩) 8 (be64 n) _ _ HH.out.1 HT.out).mono ?_
  rintro e w2 ⟨v2, rfl, hv2, hb2⟩
  have hn2 : NewB w w2 v2 (if n = 0 then [] else uBytes n) := Kd.V_mono (e := 5) (base := 0) hv2 (fun k hk => hk.elim id (fun h => by omega))
  have hbw := below_step HH.out.2 hb2
  have hw2 := hb2.size
  clear hv2 hb2 HT HH
  by_cases c0 : n = 0
  · rw [if_pos c0] at hn2
    subst c0
    obtain ⟨A, c, rfl, hc, hC⟩ := hn2.reads
    have HB := Lib.hid hbw
    clear hn2 hC hbw
    simp only [List.length_nil]
    go_wp2
    go_ret2
    have e : sUint 0 = [0] := rfl
    rw [e]
    exact ⟨_, rfl, OwnB.newAt (OwnB.lit w2 w2.heap.size [0] (Nat.le_refl _) (by simp) rfl) (by omega), HB.out.alloc (by omega) _⟩
  · rw [if_neg c0] at hn2
    obtain ⟨A, c, rfl, hc, hC⟩ := hn2.reads
    have hln := uBytes_len n
    obtain ⟨ad, rfl, hcell⟩ := cell_at0 hC (by omega)
    have hbr := uBytes_isB n h0 h1 0
    have hu := u8_bit7 _ hbr.1 hbr.2
    have hs1 := Lib.hid (show rd (uBytes n) 0 > 127 → sUint n = 0 :: uBytes n from fun h => if_pos h)
    have hs2 := Lib.hid (show ¬ rd (uBytes n) 0 > 127 → sUint n = uBytes n from fun h => if_neg h)
    have HN := Lib.hid (And.intro hn2 (And.intro hbw hC))
    have l0 : (((uBytes n).length : Int) == 0) = false := beq_eq_false_iff_ne.2 (by omega)
    have l1 : (0 < (uBytes n).length) = True := eq_true (by omega)
    have l2 : (uBytes n).length ≤ 8 := hln.2
    clear hn2 hbw hC hln
    generalize uBytes n = xs at *
    generalize rd xs 0 = b at *
    by_cases c1 : 128 ≤ b
    · rw [if_pos c1] at hu
      go_wp2_with (at_builtin; refine app_bytes rfl (.tmp 32) (.tmp 33) 26 rfl Tryd.underlying26 infoB w2.heap.size (.slice (some ⟨w2.heap.size, 0, none⟩) 1 1) [0] xs (some ad) xs.length c rfl rfl (OwnB.lit w2 _ [0] (Nat.le_refl _) (by simp) (by rfl)) (Kd.C_alloc HN.out.2.2 _) (by simp) (by simp; omega) ?_; intro v1 w3 ho hg hat)
      go_ret2
      rw [hs1.out (by omega)]
      exact ⟨_, rfl, OwnB.newAt ho (by omega), (HN.out.2.1.alloc (by omega) _).grown hg (by simp; omega) (fun k hk => by simp [Value.ownBlock] at hk; omega)⟩
    · rw [if_neg c1] at hu
      go_wp2
      go_ret2
      rw [hs2.out (by omega)]
      exact ⟨_, rfl, HN.out.1, HN.out.2.1⟩
/-- Kinds of numbers that marshalUint32 takes. -/
def U32Arg (n : Int) (v : Value) : Prop := v = .iface 36 (.int .u32 n) ∨ v = .iface 38 (.int .u64 n) ∨ (v = .iface 5 (.int .u8 n) ∧ n ≤ 255) ∨ (v = .iface 85 (.int .u8 n) ∧ n ≤ 255)

set_option maxRecDepth 100000 in
set_option maxHeartbeats 2000000 in
theorem marshalUint32_at (n : Int) (h0 : 0 ≤ n) (h1 : n ≤ 4294967295) (v : Value) (hv : U32Arg n v) (s : Nat) (hs : s = 0 ∨ s = 1 ∨ s = 2 ∨ s = 3) (hz : ∀ j, j < s → (be32 n)[j]?.getD 0 = 0) (hnz : s < 3 → (be32 n)[s]?.getD 0 ≠ 0) (hd : (be32 n).drop s = uBytes n) (w : World) :
    Calls Tryd.prog 62 #[v] w fun e w' => GotV w w' (sUint n) e := by
  have hmk : ∀ w, (Instr.makeSlice 26 (.int .i64 4) (.int .i64 4)).run Tryd.prog w = .ok (.slice (some ⟨w.heap.size, 0, none⟩) 4 4) (w.alloc (.cells #[.int .u8 0, .int .u8 0, .int .u8 0, .int .u8 0] 5)) := fun _ => by kernel_rfl
  have HZ := Lib.hid (And.intro hz (And.intro hnz hd))
  have hs3 : s ≤ 3 := by omega
  have HS := Lib.hid hs
  clear hz hnz hd hs
  rcases hv with rfl | rfl | ⟨rfl, h255⟩ | ⟨rfl, h255⟩
  all_goals
    go_enter Tryd.func62, Tryd.ntmps62
    go_wp2_with fail
    refine (PutUint32_any n h0 h1 _ 5 _ _ (blk_new _ _) rfl).mono ?_
    rintro e w1 ⟨rfl, hb1, hg1⟩
    have hbel := (bel_alloc w _).grown hg1 (by simp) (fun k hk => by injection hk with hk; omega)
    have hw1 : w.heap.size < w1.heap.size := blk_lt hb1
    have HB := Lib.hid hb1
    have HL := Lib.hid hbel
    clear hb1 hg1 hbel
    go_wp2
    go_loop [11] (fun i => ∃ k : Nat, k ≤ s ∧ i = .int .i64 k) (fun i => 3 - (intOf i).toNat)
    case atStart => exact ⟨0, Nat.zero_le _, rfl⟩
    case round =>
      obtain ⟨k, hk, rfl⟩ := hrel
      have hc := be_cell' HB.out k (by show k < 4; omega)
      by_cases hlt : k < s
      · have hzk : ((be32 n)[k]?.getD 0 != 0) = false := by rw [HZ.out.1 k hlt]; rfl
        have hk3 : k < 3 := by omega
        go_wp2
        go_round
        case rel => exact ⟨k + 1, by omega, by go_num⟩
        case measure => simp [intOf]; omega
      · obtain rfl : k = s := by omega
        have eb : (be32 n)[k]?.getD 0 = rd (uBytes n) 0 := by
          rw [← HZ.out.2.2]
          simp [Go.Proofs.YtangjgclpipjdaaDoorW.PrintWords.rd, List.getD_eq_getElem?_getD]
        rw [eb] at hc
        have hnz := HZ.out.2.1
        rw [eb] at hnz
        have hbr := uBytes_isB n h0 (by omega) 0
        have hu := u8_bit7 _ hbr.1 hbr.2
        have hs1 := Lib.hid (show rd (uBytes n) 0 > 127 → sUint n = 0 :: uBytes n from fun h => if_pos h)
        have hs2 := Lib.hid (show ¬ rd (uBytes n) 0 > 127 → sUint n = uBytes n from fun h => if_neg h)
        have hul : (uBytes n).length = 4 - k := by rw [← HZ.out.2.2, List.length_drop]; rfl
        have hdr := Lib.hid HZ.out.2.2
        have HU := Lib.hid hul
        have HS' := HS.out
        clear HZ HS hul eb hlt hk hs3
        generalize rd (uBytes n) 0 = b at *
        rcases HS' with rfl | rfl | rfl | rfl
        · have hR := Lib.hid (readB_block (ok := fun k => w.heap.size ≤ k) HB.out hdr.out HU.out (by omega) (Nat.le_refl _))
          have hne : (b != 0) = true := bne_iff_ne.2 (hnz (by omega))
          by_cases c1 : 128 ≤ b
          · rw [if_pos c1] at hu
            go_wp2_with (at_builtin; refine app_bytes rfl (.tmp 60) (.tmp 61) 26 rfl Tryd.underlying26 infoB w1.heap.size (.slice (some ⟨w1.heap.size, 0, none⟩) 1 1) [0] (uBytes n) (some ⟨w.heap.size, 0, none⟩) 4 4 rfl rfl (OwnB.lit w1 _ [0] (Nat.le_refl _) (by simp) (by rfl)) (Kd.C_alloc (ReadB.C hR.out) _) (by simp) (by simp) ?_; intro v1 w3 ho hg hat)
            go_ret2
            rw [hs1.out (by omega)]
            exact ⟨_, rfl, OwnB.newAt ho (by omega), (HL.out.alloc (by omega) _).grown hg (by simp; omega) (fun k hk => by simp [Value.ownBlock] at hk; omega)⟩
          · rw [if_neg c1] at hu
            go_wp2
            go_ret2
            rw [hs2.out (by omega)]
            exact ⟨_, rfl, hR.out, HL.out⟩
        · have hR := Lib.hid (readB_block (ok := fun k => w.heap.size ≤ k) HB.out hdr.out HU.out (by omega) (Nat.le_refl _))
          have hne : (b != 0) = true := bne_iff_ne.2 (hnz (by omega))
          by_cases c1 : 128 ≤ b
          · rw [if_pos c1] at hu
            go_wp2_with (at_builtin; refine app_bytes rfl (.tmp 60) (.tmp 61) 26 rfl Tryd.underlying26 infoB w1.heap.size (.slice (some ⟨w1.heap.size, 0, none⟩) 1 1) [0] (uBytes n) (some ⟨w.heap.size, 1, none⟩) 3 3 rfl rfl (OwnB.lit w1 _ [0] (Nat.le_refl _) (by simp) (by rfl)) (Kd.C_alloc (ReadB.C hR.out) _) (by simp) (by simp) ?_; intro v1 w3 ho hg hat)
            go_ret2
            rw [hs1.out (by omega)]
            exact ⟨_, rfl, OwnB.newAt ho (by omega), (HL.out.alloc (by omega) _).grown hg (by simp; omega) (fun k hk => by simp [Value.ownBlock] at hk; omega)⟩
          · rw [if_neg c1] at hu
            go_wp2
            go_ret2
            rw [hs2.out (by omega)]
            exact ⟨_, rfl, hR.out, HL.out⟩
        · have hR := Lib.hid (readB_block (ok := fun k => w.heap.size ≤ k) HB.out hdr.out HU.out (by omega) (Nat.le_refl _))
          have hne : (b != 0) = true := bne_iff_ne.2 (hnz (by omega))
          by_cases c1 : 128 ≤ b
          · rw [if_pos c1] at hu
            go_wp2_with (at_builtin; refine app_bytes rfl (.tmp 60) (.tmp 61) 26 rfl Tryd.underlying26 infoB w1.heap.size (.slice (some ⟨w1.heap.size, 0, none⟩) 1 1) [0] (uBytes n) (some ⟨w.heap.size, 2, none⟩) 2 2 rfl rfl (OwnB.lit w1 _ [0] (Nat.le_refl _) (by simp) (by rfl)) (Kd.C_alloc (ReadB.C hR.out) _) (by simp) (by simp) ?_; intro v1 w3 ho hg hat)
            go_ret2
            rw [hs1.out (by omega)]
            exact ⟨_, rfl, OwnB.newAt ho (by omega), (HL.out.alloc (by omega) _).grown hg (by simp; omega) (fun k hk => by simp [Value.ownBlock] at hk; omega)⟩
          · rw [if_neg c1] at hu
            go_wp2
            go_ret2
            rw [hs2.out (by omega)]
            exact ⟨_, rfl, hR.out, HL.out⟩
        · have hR := Lib.hid (readB_block (ok := fun k => w.heap.size ≤ k) HB.out hdr.out HU.out (by omega) (Nat.le_refl _))
          by_cases c1 : 128 ≤ b
          · rw [if_pos c1] at hu
            go_wp2_with (at_builtin; refine app_bytes rfl (.tmp 60) (.tmp 61) 26 rfl Tryd.underlying26 infoB w1.heap.size (.slice (some ⟨w1.heap.size, 0, none⟩) 1 1) [0] (uBytes n) (some ⟨w.heap.size, 3, none⟩) 1 1 rfl rfl (OwnB.lit w1 _ [0] (Nat.le_refl _) (by simp) (by rfl)) (Kd.C_alloc (ReadB.C hR.out) _) (by simp) (by simp) ?_; intro v1 w3 ho hg hat)
            go_ret2
            rw [hs1.out (by omega)]
            exact ⟨_, rfl, OwnB.newAt ho (by omega), (HL.out.alloc (by omega) _).grown hg (by simp; omega) (fun k hk => by simp [Value.ownBlock] at hk; omega)⟩
          · rw [if_neg c1] at hu
            go_wp2
            go_ret2
            rw [hs2.out (by omega)]
            exact ⟨_, rfl, hR.out, HL.out⟩
theorem marshalUint32_any (n : Int) (h0 : 0 ≤ n) (h1 : n ≤ 4294967295) (v : Value) (hv : U32Arg n v) (w : World) :
    Calls Tryd.prog 62 #[v] w fun e w' => GotV w w' (sUint n) e := by
  have pt : ∀ j, (be32 n)[j]?.getD 0 = if j = 0 then n / 16777216 else if j = 1 then n / 65536 % 256 else if j = 2 then n / 256 % 256 else if j = 3 then n % 256 else 0 := by
    intro j
    match j with
    | 0 => rfl
    | 1 => rfl
    | 2 => rfl
    | 3 => rfl
    | j + 4 => simp [be32]
  by_cases c1 : n ≤ 255
  · refine marshalUint32_at n h0 h1 v hv 3 (by omega) (fun j hj => ?_) (fun h => by omega) ?_ w
    · rw [pt j]
      rcases (by omega : j = 0 ∨ j = 1 ∨ j = 2) with rfl | rfl | rfl
      · rw [if_pos rfl]; omega
      · rw [if_neg (by omega), if_pos rfl]; omega
      · rw [if_neg (by omega), if_neg (by omega), if_pos rfl]; omega
    · unfold uBytes be32
      rw [if_pos c1]
      simp; omega
  by_cases c2 : n ≤ 65535
  · refine marshalUint32_at n h0 h1 v hv 2 (by omega) (fun j hj => ?_) (fun h => ?_) ?_ w
    · rw [pt j]
      rcases (by omega : j = 0 ∨ j = 1) with rfl | rfl
      · rw [if_pos rfl]; omega
      · rw [if_neg (by omega), if_pos rfl]; omega
    · rw [pt 2, if_neg (by omega), if_neg (by omega), if_pos rfl]; omega
    · unfold uBytes be32
      rw [if_neg c1, if_pos c2]
      simp; omega
  by_cases c3 : n ≤ 16777215
  · refine marshalUint32_at n h0 h1 v hv 1 (by omega) (fun j hj => ?_) (fun h => ?_) ?_ w
    · rw [pt j]
      obtain rfl : j = 0 := by omega
      rw [if_pos rfl]; omega
    · rw [pt 1, if_neg (by omega), if_pos rfl]; omega
    · unfold uBytes be32
      rw [if_neg c1, if_neg c2, if_pos c3]
      simp; omega
  · refine marshalUint32_at n h0 h1 v hv 0 (by omega) (fun j hj => by omega) (fun h => ?_) ?_ w
    · rw [pt 0, if_pos rfl]; omega
    · unfold uBytes be32
      rw [if_neg c1, if_neg c2, if_neg c3, if_pos (by omega)]
      rfl
end Go.Proofs.YtangjgclpipjdaaDoor
