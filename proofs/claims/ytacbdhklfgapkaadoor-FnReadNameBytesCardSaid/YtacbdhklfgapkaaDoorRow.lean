/- A slice of bytes that comes in. -/
import Derived.Test.YtacbdhklfgapkaaDoorPLen
import Derived.ChangeSlices
import Derived.OpenShut
set_option linter.unusedVariables false
namespace Go.Proofs.YtacbdhklfgapkaaDoor
open Go.RowKit Go.Proofs.YtacbdhklfgapkaaDoorW.PrintWords Go.Proofs.YtacbdhklfgapkaaDoorW.PrintLast Go.Proofs.YtacbdhklfgapkaaDoorW.PrintMore

def IsRow (k : IntKind) (w : World) (A : Option Addr) (len cap : Nat) (zs : List Int) : Prop :=
  (A = none ∧ len = 0 ∧ cap = 0 ∧ zs = []) ∨ ∃ a, A = some a ∧ len ≤ cap ∧ cap ≤ maxLen ∧ zs.length = cap ∧ (∀ i, i < zs.length → w.cell? (a.add i) = some (.int k (zs.getD i 0))) ∧ ∀ n ∈ zs, (Lit.int k n).wf = true
theorem IsRow.bytes {w : World} {A : Option Addr} {len cap : Nat} {zs : List Int} (h : IsRow .u8 w A len cap zs) : ∃ xs : List Int, len = xs.length ∧ xs.length ≤ cap ∧ xs.length ≤ maxLen ∧ Kd.C (Kd.int .u8) w A xs.length xs ∧ IsB xs := by
  rcases h with ⟨rfl, rfl, rfl, rfl⟩ | ⟨a, rfl, hl, hm, hz, hc, hw⟩
  · exact ⟨[], rfl, Nat.le_refl _, Nat.zero_le _, Kd.C_of_reads (h1 := fun _ => rfl) (d := (0 : Int)) ⟨rfl, Nat.zero_le _, fun h => absurd h (by simp)⟩, fun x hx => by simp at hx⟩
  · have e : (zs.take len).length = len := by rw [List.length_take]; omega
    refine ⟨zs.take len, e.symm, by omega, by omega, Kd.C_of_reads (h1 := fun _ => rfl) (d := (0 : Int)) ⟨rfl, by simp only [maxLen] at hm; omega, fun h => ⟨a, rfl, fun j hj => ?_⟩⟩, ?_⟩
    · rw [e] at hj
      rw [hc j (by omega)]
      simp [List.getD_eq_getElem?_getD, hj]
    · intro x hx
      have := hw x (List.mem_of_mem_take hx)
      exact bounds_u8 this
end Go.Proofs.YtacbdhklfgapkaaDoor
