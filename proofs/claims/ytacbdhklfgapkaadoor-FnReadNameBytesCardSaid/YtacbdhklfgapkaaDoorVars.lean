/- The named variables' data: as many as names. -/
import Derived.OpenVars
import Derived.ChangeVars
namespace Go.Proofs.YtacbdhklfgapkaaDoor
open Go.RowKit
theorem vars_length {H : Type} {enc : TypeId × Value → H} {P : Program} {W : World} {sp : Nat → Bool} : ∀ {ns : List String} {gs : List (DataW H)} {ps : List MemPlace}, DataW.TrodVars enc P W sp ns gs ps → gs.length = ns.length
  | [], [], _, _ => rfl
  | [], _ :: _, _, h => h.elim
  | _ :: _, [], _, h => h.elim
  | _ :: ns, _ :: gs, _, h => by
    obtain ⟨g, t, cs, fuel, p, q, h1, h2, h3, h4, hs, e⟩ := h
    simp only [List.length_cons, vars_length hs]
end Go.Proofs.YtacbdhklfgapkaaDoor
