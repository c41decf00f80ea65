/- The reference's functions, as plain Lean. -/
import Derived.Test.YtacbdhklfgapkaaDoorLib
set_option linter.unusedVariables false
namespace Go.Proofs.YtacbdhklfgapkaaDoor
open Go.RowKit Go.Proofs.YtacbdhklfgapkaaDoorW.PrintWords Go.Proofs.YtacbdhklfgapkaaDoorW.PrintLast Go.Proofs.YtacbdhklfgapkaaDoorW.PrintMore

def lenBytes (n : Int) : List Int :=
  if n ≤ 0 then [] else if n ≤ 255 then [n] else if n ≤ 65535 then [n / 256, n % 256] else if n ≤ 16777215 then [n / 65536, n / 256 % 256, n % 256] else [n / 16777216, n / 65536 % 256, n / 256 % 256, n % 256]
theorem lenBytes_len (n : Int) : (lenBytes n).length ≤ 4 := by unfold lenBytes; split <;> (try split) <;> (try split) <;> (try split) <;> simp
def sLen (n : Int) (wide : Nat) : List Int :=
  if n < 128 ∧ wide = 0 then [n] else ((128 + ((lenBytes n).length + wide : Nat) : Int)) :: (List.replicate wide 0 ++ lenBytes n)

def sSealed (tag : Int) (c : List Int) (wide : Nat) : List Int := tag % 256 :: (sLen c.length wide ++ c)
theorem sLen_len (n : Int) (wide : Nat) : (sLen n wide).length ≤ 5 + wide := by
  have := lenBytes_len n
  unfold sLen
  split <;> simp <;> omega
end Go.Proofs.YtacbdhklfgapkaaDoor
