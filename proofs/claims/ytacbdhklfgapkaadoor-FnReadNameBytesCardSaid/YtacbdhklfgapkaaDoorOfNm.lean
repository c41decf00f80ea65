/- spec.OfName: the plain function, and what content it takes. -/
import Derived.Test.YtacbdhklfgapkaaDoorWArcs
import Derived.Test.YtacbdhklfgapkaaDoorPLen
set_option linter.unusedVariables false
namespace Go.Proofs.YtacbdhklfgapkaaDoor
open Go.RowKit Go.Proofs.YtacbdhklfgapkaaDoorW.PrintWords Go.Proofs.YtacbdhklfgapkaaDoorW.PrintLast Go.Proofs.YtacbdhklfgapkaaDoorW.PrintMore

def ofGo : List Int → List Int → Int → Bool → Option (List Int × Bool)
  | [], out, _, op => some (out, op)
  | x :: l, out, n, op =>
    if (op = false ∧ x = 128) ∨ n ≥ 33554432 then none
    else if x ≤ 127 then ofGo l (out ++ [n * 128 + x % 128]) 0 false
    else ofGo l out (n * 128 + x % 128) true
def sOf (b : List Int) : List Int × Bool :=
  if b.length = 0 ∨ rd b 0 ≥ 120 ∨ b.length > 300 then ([], false)
  else match ofGo (b.drop 1) [rd b 0 / 40, rd b 0 % 40] 0 false with
    | none => ([], false)
    | some (out, op) => (out, !op && decide ((out.length : Int) ≤ 60))
/-- The bytes of a number that goes on. -/
def cont (n : Int) : List Int :=
  if n < 128 then [n + 128] else if n < 16384 then [n / 128 + 128, n % 128 + 128] else if n < 2097152 then [n / 16384 + 128, n / 128 % 128 + 128, n % 128 + 128]
  else [n / 2097152 + 128, n / 16384 % 128 + 128, n / 128 % 128 + 128, n % 128 + 128]
theorem cont_last (n x : Int) (h0 : 1 ≤ n) (h1 : n < 33554432) (x0 : 0 ≤ x) (x1 : x ≤ 127) : cont n ++ [x] = b128 (n * 128 + x) := by
  unfold cont b128
  have e1 : (n * 128 + x) / 128 = n := by omega
  have e2 : (n * 128 + x) / 16384 = n / 128 := by omega
  have e3 : (n * 128 + x) / 2097152 = n / 16384 := by omega
  have e4 : (n * 128 + x) / 268435456 = n / 2097152 := by omega
  have e5 : (n * 128 + x) % 128 = x := by omega
  rw [e1, e2, e3, e4, e5, if_neg (by omega : ¬ n * 128 + x < 128)]
  by_cases c1 : n < 128
  · rw [if_pos c1, if_pos (by omega)]; simp
  rw [if_neg c1, if_neg (by omega : ¬ n * 128 + x < 16384)]
  by_cases c2 : n < 16384
  · rw [if_pos c2, if_pos (by omega)]; simp
  rw [if_neg c2, if_neg (by omega : ¬ n * 128 + x < 2097152)]
  by_cases c3 : n < 2097152
  · rw [if_pos c3, if_pos (by omega)]; simp
  rw [if_neg c3, if_neg (by omega : ¬ n * 128 + x < 268435456)]
  simp
theorem cont_more (n x : Int) (h0 : 1 ≤ n) (h1 : n * 128 + (x - 128) < 33554432) (x0 : 128 ≤ x) (x1 : x ≤ 255) : cont n ++ [x] = cont (n * 128 + (x - 128)) := by
  unfold cont
  have e1 : (n * 128 + (x - 128)) / 128 = n := by omega
  have e2 : (n * 128 + (x - 128)) / 16384 = n / 128 := by omega
  have e3 : (n * 128 + (x - 128)) / 2097152 = n / 16384 := by omega
  have e5 : (n * 128 + (x - 128)) % 128 + 128 = x := by omega
  rw [e1, e2, e3, e5, if_neg (by omega : ¬ n * 128 + (x - 128) < 128)]
  by_cases c1 : n < 128
  · rw [if_pos c1, if_pos (by omega)]; simp
  rw [if_neg c1, if_neg (by omega : ¬ n * 128 + (x - 128) < 16384)]
  by_cases c2 : n < 16384
  · rw [if_pos c2, if_pos (by omega)]; simp
  rw [if_neg c2, if_pos (by omega : n < 2097152), if_neg (by omega : ¬ n * 128 + (x - 128) < 2097152)]
  simp
def Bnd (l : List Int) : Prop := ∀ x ∈ l, 0 ≤ x ∧ x ≤ 4294967295
theorem ofGo_text (l : List Int) (hb : IsB l) : (∀ out r, ofGo l out 0 false = some (r, false) → ∃ rest, r = out ++ rest ∧ l = b128s rest ∧ Bnd rest) ∧
    (∀ out n r, 1 ≤ n → n ≤ 4294967295 → ofGo l out n true = some (r, false) → n < 33554432 ∧ ∃ a rest, r = out ++ a :: rest ∧ cont n ++ l = b128 a ++ b128s rest ∧ Bnd (a :: rest)) := by
  induction l with
  | nil =>
    refine ⟨?_, ?_⟩
    · intro out r h
      simp [ofGo] at h
      exact ⟨[], by simp [h], rfl, fun x hx => by simp at hx⟩
    · intro out n r h0 h1 h
      simp [ofGo] at h
  | cons x l ih =>
    have hx := hb x (by simp)
    obtain ⟨ih1, ih2⟩ := ih (fun y hy => hb y (by simp [hy]))
    have bcons : ∀ a rest, 0 ≤ a → a ≤ 4294967295 → Bnd rest → Bnd (a :: rest) := by
      intro a rest h0 h1 h y hy
      rcases List.mem_cons.1 hy with rfl | h'
      · exact ⟨h0, h1⟩
      · exact h y h'
    refine ⟨?_, ?_⟩
    · intro out r h
      simp only [ofGo] at h
      by_cases c : x = 128
      · rw [if_pos (.inl (by simp [c]))] at h; cases h
      rw [if_neg (by rintro (h' | h'); exact c h'.2; exact absurd h' (by decide))] at h
      by_cases c2 : x ≤ 127
      · rw [if_pos c2] at h
        obtain ⟨rest, h1, h2, h3⟩ := ih1 _ _ h
        refine ⟨(0 * 128 + x % 128) :: rest, by rw [h1]; simp, ?_, bcons _ _ (by omega) (by omega) h3⟩
        rw [b128s_cons, ← h2, show (0 : Int) * 128 + x % 128 = x by omega]
        unfold b128
        rw [if_pos (by omega)]
        rfl
      · rw [if_neg c2] at h
        obtain ⟨hlt, a, rest, h1, h2, h3⟩ := ih2 _ _ _ (by omega) (by omega) h
        refine ⟨a :: rest, h1, ?_, h3⟩
        rw [b128s_cons, ← h2]
        unfold cont
        rw [if_pos (by omega), show (0 : Int) * 128 + x % 128 + 128 = x by omega]
        rfl
    · intro out n r h0 h1 h
      simp only [ofGo] at h
      by_cases c : n ≥ 33554432
      · rw [if_pos (.inr c)] at h; cases h
      rw [if_neg (by rintro (h' | h'); exact absurd h'.1 (by simp); exact c h')] at h
      refine ⟨by omega, ?_⟩
      by_cases c2 : x ≤ 127
      · rw [if_pos c2] at h
        obtain ⟨rest, e1, e2, e3⟩ := ih1 _ _ h
        refine ⟨n * 128 + x % 128, rest, by rw [e1]; simp, ?_, bcons _ _ (by omega) (by omega) e3⟩
        rw [← e2, show x % 128 = x by omega, ← cont_last n x h0 (by omega) hx.1 c2]
        simp
      · rw [if_neg c2] at h
        obtain ⟨hlt, a, rest, e1, e2, e3⟩ := ih2 _ _ _ (by omega) (by omega) h
        refine ⟨a, rest, e1, ?_, e3⟩
        rw [show x % 128 = x - 128 by omega] at e2 hlt
        rw [← e2, ← cont_more n x h0 hlt (by omega) hx.2]
        simp
/-- The content that is taken is that of its name. -/
theorem sOf_text (b : List Int) (hb : IsB b) (arcs : List Int) (h : sOf b = (arcs, true)) : ∃ x y rest, arcs = x :: y :: rest ∧ b = sName arcs ∧ 0 ≤ x ∧ x ≤ 2 ∧ 0 ≤ y ∧ y < 40 ∧ Bnd rest ∧ arcs.length ≤ 60 := by
  unfold sOf at h
  by_cases c : b.length = 0 ∨ rd b 0 ≥ 120 ∨ b.length > 300
  · rw [if_pos c] at h; simp at h
  rw [if_neg c] at h
  obtain ⟨v, l, rfl⟩ : ∃ v l, b = v :: l := List.exists_cons_of_ne_nil (by rintro rfl; exact c (.inl rfl))
  have hv : rd (v :: l) 0 = v := rfl
  rw [hv] at h c
  have hv0 := hb v (by simp)
  cases e : ofGo l [v / 40, v % 40] 0 false with
  | none => rw [show (v :: l).drop 1 = l from rfl, e] at h; simp at h
  | some p =>
    obtain ⟨out, op⟩ := p
    rw [show (v :: l).drop 1 = l from rfl, e] at h
    simp at h
    obtain ⟨rfl, rfl, h60⟩ := h
    obtain ⟨rest, e1, e2, e3⟩ := (ofGo_text l (fun y hy => hb y (by simp [hy]))).1 _ _ e
    refine ⟨v / 40, v % 40, rest, by rw [e1]; rfl, ?_, by omega, by omega, by omega, by omega, e3, by omega⟩
    rw [e1]
    show v :: l = ((40 * (v / 40) + v % 40) % 256) :: b128s rest
    rw [← e2]
    congr 1
    omega
end Go.Proofs.YtacbdhklfgapkaaDoor
