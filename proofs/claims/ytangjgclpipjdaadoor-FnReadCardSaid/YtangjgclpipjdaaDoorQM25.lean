/- The lemmas and walks that FnDecode and FnCut and FnRead rests on, part 25: SameA. -/
import Derived.Test.YtangjgclpipjdaaDoorQM10
set_option linter.unusedVariables false
namespace Go.Proofs.YtangjgclpipjdaaDoor
open Go.RowKit Go.Proofs.YtangjgclpipjdaaDoorW.PrintWords Go.Proofs.YtangjgclpipjdaaDoorW.PrintLast Go.Proofs.YtangjgclpipjdaaDoorW.PrintMore
theorem toList_ne {a b : ByteArray} (h : a ≠ b) : (a.toList == b.toList) = false := beq_eq_false_iff_ne.2 (fun e => h (by
  rw [ByteArray.toList_eq, ByteArray.toList_eq] at e
  obtain ⟨⟨x⟩⟩ := a
  obtain ⟨⟨y⟩⟩ := b
  have e2 : x = y := e
  rw [e2]))
set_option maxRecDepth 100000 in
set_option maxHeartbeats 4000000 in
theorem same_any (m : MsgT) (A1 : Option Addr) (c1 : Nat) (A2 : Option Addr) (c2 : Nat) (vs us : List VarT) (n : Nat) (hn : vs.length = n) (hu : us.length = n) (w : World) (h1 : Kd.C kVar w A1 vs.length vs) (h2 : Kd.C kVar w A2 us.length us) :
    Calls Tryd.prog 18 #[.agg (m.arr (.slice A1 n c1)), .agg (m.arr (.slice A2 n c2))] w fun e w' => (e = .returned (.bool false) ∨ (e = .returned (.bool true) ∧ vs = us)) ∧ Below w.heap.size w w' := by
  have b2 := ((Below.refl w.heap.size w).alloc (Nat.le_refl _) (msgO m (.slice A1 n c1))).alloc (by simp) (msgO m (.slice A2 n c2))
  have e1 := blk_alloc (blk_new w (msgO m (.slice A1 n c1))) (msgO m (.slice A2 n c2))
  have e2 := blk_new (w.alloc (msgO m (.slice A1 n c1))) (msgO m (.slice A2 n c2))
  rw [show (w.alloc (msgO m (.slice A1 n c1))).heap.size = w.heap.size + 1 by simp] at e2
  have HH := Lib.hid (And.intro b2 (And.intro (Kd.C_below h1 b2) (And.intro (Kd.C_below h2 b2) (And.intro e1 (And.intro e2 (And.intro hn hu))))))
  have hmx := Kd.C_max h1
  rw [hn] at hmx
  clear b2 h1 h2 e1 e2 hn hu
  go_enter Tryd.func18, Tryd.ntmps18
  go_wp2_with fail
  go_loopg [5, 93] n (fun k v5 v93 wr => ∃ j : Nat, v93 = .int .i64 j ∧ Hid (j ≤ n ∧ k = n - j ∧ vs.take j = us.take j ∧ Below w.heap.size w wr ∧ Kd.C kVar wr A1 vs.length vs ∧ Kd.C kVar wr A2 us.length us ∧ wr.heap[w.heap.size]? = some (msgO m (.slice A1 n c1)) ∧ wr.heap[w.heap.size + 1]? = some (msgO m (.slice A2 n c2))))
  case atStart => exact ⟨0, rfl, Lib.hid ⟨Nat.zero_le _, rfl, rfl, HH.out.1, HH.out.2.1, HH.out.2.2.1, HH.out.2.2.2.1, HH.out.2.2.2.2.1⟩⟩
  case round =>
    obtain ⟨j, rfl, HJ⟩ := hrel
    obtain ⟨hj, hk, htk, hbw, hC1, hC2, hm1, hm2⟩ := HJ.out
    clear HJ
    have HK := Lib.hid (And.intro hk (And.intro hbw (And.intro htk (And.intro hC1 (And.intro hC2 (And.intro hm1 hm2))))))
    by_cases hjl : j < n
    · have hj1 : j < vs.length := by rw [HH.out.2.2.2.2.2.1]; exact hjl
      have hj2 : j < us.length := by rw [HH.out.2.2.2.2.2.2]; exact hjl
      obtain ⟨ad1, rfl, q0, q1, q2, q3, q4⟩ := var_at hC1 j hj1
      obtain ⟨ad2, rfl, s0, s1, s2, s3, s4⟩ := var_at hC2 j hj2
      have m6 : wr.cell? ⟨w.heap.size, 6, none⟩ = some (.slice (some ad1) n c1) := (blk_cell hm1 6).trans rfl
      have n6 : wr.cell? ⟨w.heap.size + 1, 6, none⟩ = some (.slice (some ad2) n c2) := (blk_cell hm2 6).trans rfl
      have HS := Lib.hid (And.intro (List.take_succ_eq_append_getElem hj1) (List.take_succ_eq_append_getElem hj2))
      clear hk hbw hC1 hC2 hm1 hm2 htk
      generalize hvj : vs[j] = vj at *
      generalize huj : us[j] = uj at *
      have HV := Lib.hid (And.intro hvj huj)
      clear hvj huj
      by_cases he : vj = uj
      · subst he
        go_wp2_with fail
        go_quiet (fail)
        go_wp2
        go_roundg (n - (j + 1))
        case measure =>
          have := HK.out.1
          omega
        case rel => exact ⟨j + 1, by go_num, Lib.hid ⟨by omega, rfl, by rw [HS.out.1, HS.out.2, HK.out.2.2.1], pw_below_drewN HK.out.2.1 _, HK.out.2.2.2⟩⟩
      · obtain ⟨nm, ty, i, u, tx⟩ := vj
        obtain ⟨nm', ty', i', u', tx'⟩ := uj
        simp only at q0 q1 q2 q3 q4 s0 s1 s2 s3 s4
        by_cases h0 : nm = nm'
        case neg =>
          have hf : (nm.toList == nm'.toList) = false := toList_ne h0
          clear HV he
          go_wp2_with fail
          go_quiet (fail)
          go_wp2
          go_ret
          exact ⟨.inl rfl, pw_below_drewN HK.out.2.1 _⟩
        subst h0
        by_cases h1 : ty = ty'
        case neg =>
          have hf : (ty == ty') = false := beq_eq_false_iff_ne.2 h1
          clear HV he
          go_wp2_with fail
          go_quiet (fail)
          go_wp2
          go_ret
          exact ⟨.inl rfl, pw_below_drewN HK.out.2.1 _⟩
        subst h1
        by_cases h2 : i = i'
        case neg =>
          have hf : (i == i') = false := beq_eq_false_iff_ne.2 h2
          clear HV he
          go_wp2_with fail
          go_quiet (fail)
          go_wp2
          go_ret
          exact ⟨.inl rfl, pw_below_drewN HK.out.2.1 _⟩
        subst h2
        by_cases h3 : u = u'
        case neg =>
          have hf : (u == u') = false := beq_eq_false_iff_ne.2 h3
          clear HV he
          go_wp2_with fail
          go_quiet (fail)
          go_wp2
          go_ret
          exact ⟨.inl rfl, pw_below_drewN HK.out.2.1 _⟩
        subst h3
        have h4 : tx ≠ tx' := fun h => he (by rw [h])
        have hf : (tx.toList == tx'.toList) = false := toList_ne h4
        clear HV he
        go_wp2_with fail
        go_quiet (fail)
        go_wp2
        go_ret
        exact ⟨.inl rfl, pw_below_drewN HK.out.2.1 _⟩
    · obtain rfl : j = n := by omega
      clear hk hbw hC1 hC2 hm1 hm2 htk
      go_wp2
      go_ret
      exact ⟨.inr ⟨rfl, by
        have := HK.out.2.2.1
        rw [List.take_of_length_le (Nat.le_of_eq HH.out.2.2.2.2.2.1), List.take_of_length_le (Nat.le_of_eq HH.out.2.2.2.2.2.2)] at this
        exact this⟩, HK.out.2.1⟩
end Go.Proofs.YtangjgclpipjdaaDoor
