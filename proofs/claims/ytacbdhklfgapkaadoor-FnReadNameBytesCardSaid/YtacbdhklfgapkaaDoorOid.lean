/- Names: the reference's plain functions (arcs of dotted figures, the bytes of arcs), and what a text of arcs looks like. -/
import Derived.Test.YtacbdhklfgapkaaDoorLib
set_option linter.unusedVariables false
namespace Go.Proofs.YtacbdhklfgapkaaDoor
open Go.RowKit Go.Proofs.YtacbdhklfgapkaaDoorW.PrintWords Go.Proofs.YtacbdhklfgapkaaDoorW.PrintLast Go.Proofs.YtacbdhklfgapkaaDoorW.PrintMore

/-- A string's bytes as numbers. -/
def bs (s : ByteArray) : List Int := s.data.toList.map fun b => (b.toNat : Int)
theorem bs_length (s : ByteArray) : (bs s).length = s.size := by simp [bs]
theorem bt_bs (s : ByteArray) (i : Nat) (h : i < s.size) : bt s i = rd (bs s) i := by
  have h' : i < s.data.toList.length := by simpa using h
  unfold bt Go.Proofs.YtacbdhklfgapkaaDoorW.PrintWords.rd bs
  rw [dif_pos (by simpa using h)]
  simp [List.getD_eq_getElem?_getD, List.getElem?_eq_getElem h']
  rfl
theorem strOfNums_bs (s : ByteArray) : strOfNums (bs s) = s := by
  obtain ⟨⟨l⟩⟩ := s
  unfold strOfNums bs
  simp [Function.comp_def]

theorem char_at (s : ByteArray) (j : Nat) (c : Int) (l' : List Int) (h : (bs s).drop j = c :: l') : ∃ hj : j < s.size, ((s[j]'hj).toNat : Int) = c ∧ (bs s).drop (j + 1) = l' := by
  have hj : j < s.size := by
    have := congrArg List.length h
    simp [bs] at this
    omega
  refine ⟨hj, ?_, ?_⟩
  · have := congrArg (fun l => l[0]?) h
    simp [bs] at this
    obtain ⟨a, ha, hc⟩ := this
    rw [Array.getElem?_eq_getElem (by simpa using hj)] at ha
    injection ha with ha
    rw [← hc, ← ha]
    rfl
  · have := congrArg (List.drop 1) h
    simpa using this


/-- The numbers between the points; none where the text is no such. -/
def arcsGo : List Int → List Int → Int → Bool → Option (List Int)
  | [], out, n, some_ => if some_ = true then some (out ++ [n]) else none
  | c :: l, out, n, some_ =>
    if c = 46 then (if some_ = true then arcsGo l (out ++ [n]) 0 false else none)
    else if c < 48 ∨ c > 57 ∨ (some_ = true ∧ n = 0) ∨ 10 * n + (c - 48) ≥ 4294967296 then none
    else arcsGo l out (10 * n + (c - 48)) true

/-- n to the base 128. -/
def b128 (n : Int) : List Int :=
  if n < 128 then [n] else if n < 16384 then [n / 128 + 128, n % 128] else if n < 2097152 then [n / 16384 + 128, n / 128 % 128 + 128, n % 128]
  else if n < 268435456 then [n / 2097152 + 128, n / 16384 % 128 + 128, n / 128 % 128 + 128, n % 128]
  else [n / 268435456 + 128, n / 2097152 % 128 + 128, n / 16384 % 128 + 128, n / 128 % 128 + 128, n % 128]
theorem b128_len (n : Int) : (b128 n).length ≤ 5 := by unfold b128; repeat' split
                                                       all_goals simp
def b128s (l : List Int) : List Int := (l.map b128).flatten
theorem b128s_cons (a : Int) (l : List Int) : b128s (a :: l) = b128 a ++ b128s l := by simp [b128s]
theorem b128s_snoc (a : Int) (l : List Int) : b128s (l ++ [a]) = b128s l ++ b128 a := by simp [b128s]
theorem b128s_len (l : List Int) : (b128s l).length ≤ 5 * l.length := by
  induction l with
  | nil => simp [b128s]
  | cons a l ih =>
    rw [b128s_cons, List.length_append, List.length_cons]
    have := b128_len a
    omega
/-- The content of a name. -/
def sName (arcs : List Int) : List Int := ((40 * rd arcs 0 + rd arcs 1) % 256) :: b128s (arcs.drop 2)
theorem sName_len (arcs : List Int) : (sName arcs).length ≤ 1 + 5 * (arcs.length - 2) := by
  unfold sName
  have := b128s_len (arcs.drop 2)
  simp only [List.length_cons, List.length_drop] at this ⊢
  omega

/-- Without the point ahead. -/
def strip : List Int → List Int
  | 46 :: l => l
  | l => l
def arcsOk (out : List Int) : Prop := 2 ≤ out.length ∧ out.length ≤ 60 ∧ rd out 0 ≤ 2 ∧ rd out 1 < 40
instance (out : List Int) : Decidable (arcsOk out) := by unfold arcsOk; infer_instance
def sArcs (s : List Int) : List Int × Bool :=
  match arcsGo (strip s) [] 0 false with
  | none => ([], false)
  | some out => if arcsOk out then (out, decide ((sName out).length ≤ 100)) else (out, false)

/-! ### What a text of arcs looks like -/
/-- Figures with the value a, read on from v. -/
def figs : List Int → Int → Int
  | [], v => v
  | c :: l, v => figs l (10 * v + (c - 48))
mutual
/-- What is left of the text where a number has just ended. -/
def Rem : List Int → List Int → Prop
  | [], l => l = []
  | a :: post, l => ∃ l', l = 46 :: l' ∧ Num a post l'
termination_by p _ => (p.length, 0)
/-- What is left where a number begins. -/
def Num : Int → List Int → List Int → Prop
  | a, post, l => ∃ ds l2, l = ds ++ l2 ∧ ds ≠ [] ∧ (∀ d ∈ ds, 48 ≤ d ∧ d ≤ 57) ∧ figs ds 0 = a ∧ a ≤ 4294967295 ∧ Rem post l2
termination_by a p _ => (p.length, 1)
end

theorem figs_mono (l : List Int) (h : ∀ d ∈ l, 48 ≤ d ∧ d ≤ 57) : ∀ v, 0 ≤ v → v ≤ figs l v := by
  induction l with
  | nil => intro v hv; exact Int.le_refl _
  | cons c l ih =>
    intro v hv
    have hc := h c (by simp)
    have := ih (fun d hd => h d (by simp [hd])) (10 * v + (c - 48)) (by omega)
    simp only [figs]
    omega
theorem figs_snoc (l : List Int) (c : Int) : ∀ v, figs (l ++ [c]) v = 10 * figs l v + (c - 48) := by
  induction l with
  | nil => intro v; rfl
  | cons d l ih => intro v; exact ih _

/-- The arcs that are told are those of the text. -/
theorem arcsGo_rem (l : List Int) : ∀ (out : List Int) (n : Int) (sm : Bool) (r : List Int), arcsGo l out n sm = some r → 0 ≤ n → n ≤ 4294967295 → (sm = false → n = 0) →
    ∃ a post, r = out ++ a :: post ∧ (∃ ds l2, l = ds ++ l2 ∧ (sm = false → ds ≠ []) ∧ (∀ d ∈ ds, 48 ≤ d ∧ d ≤ 57) ∧ figs ds n = a ∧ a ≤ 4294967295 ∧ Rem post l2) := by
  induction l with
  | nil =>
    intro out n sm r h h0 h1 hs
    simp only [arcsGo] at h
    cases sm with
    | false => simp at h
    | true =>
      simp at h
      subst h
      exact ⟨n, [], by simp, [], [], rfl, by simp, by simp, rfl, h1, by simp [Rem]⟩
  | cons c l ih =>
    intro out n sm r h h0 h1 hs
    simp only [arcsGo] at h
    by_cases hc : c = 46
    · rw [if_pos hc] at h
      cases sm with
      | false => simp at h
      | true =>
        simp only [if_true] at h
        obtain ⟨a, post, hr, ds, l2, e, hne, hd, hf, ha, hrem⟩ := ih _ _ _ _ h (Int.le_refl _) (by omega) (fun _ => rfl)
        refine ⟨n, a :: post, by rw [hr]; simp, [], c :: l, rfl, by simp, by simp, rfl, h1, ?_⟩
        rw [Rem]
        refine ⟨l, by rw [hc], ?_⟩
        rw [Num]
        exact ⟨ds, l2, e, hne rfl, hd, hf, ha, hrem⟩
    · rw [if_neg hc] at h
      by_cases hg : c < 48 ∨ c > 57 ∨ (sm = true ∧ n = 0) ∨ 10 * n + (c - 48) ≥ 4294967296
      · rw [if_pos hg] at h; cases h
      · rw [if_neg hg] at h
        obtain ⟨a, post, hr, ds, l2, e, hne, hd, hf, ha, hrem⟩ := ih _ _ _ _ h (by omega) (by omega) (by simp)
        refine ⟨a, post, hr, c :: ds, l2, by rw [e]; rfl, by simp, ?_, hf, ha, hrem⟩
        intro d hdd
        rcases List.mem_cons.1 hdd with rfl | h'
        · omega
        · exact hd d h'

/-- A text whose arcs are told: behind a point or none. -/
theorem sArcs_text (s : List Int) (arcs : List Int) (h : sArcs s = (arcs, true)) : arcsOk arcs ∧ (sName arcs).length ≤ 100 ∧ ∃ a post, arcs = a :: post ∧ (Num a post s ∨ Rem arcs s) := by
  unfold sArcs at h
  cases e : arcsGo (strip s) [] 0 false with
  | none => rw [e] at h; simp at h
  | some out =>
    rw [e] at h
    simp only at h
    by_cases ho : arcsOk out
    · rw [if_pos ho] at h
      simp at h
      obtain ⟨rfl, hl⟩ := h
      obtain ⟨a, post, hr, ds, l2, e2, hne, hd, hf, ha, hrem⟩ := arcsGo_rem _ _ _ _ _ e (Int.le_refl _) (by omega) (fun _ => rfl)
      simp only [List.nil_append] at hr
      refine ⟨ho, hl, a, post, hr, ?_⟩
      have hN : Num a post (strip s) := by rw [Num]; exact ⟨ds, l2, e2, hne rfl, hd, hf, ha, hrem⟩
      unfold strip at hN
      split at hN
      · right
        rw [hr, Rem]
        exact ⟨_, rfl, hN⟩
      · left; exact hN
    · rw [if_neg ho] at h; simp at h
end Go.Proofs.YtacbdhklfgapkaaDoor
