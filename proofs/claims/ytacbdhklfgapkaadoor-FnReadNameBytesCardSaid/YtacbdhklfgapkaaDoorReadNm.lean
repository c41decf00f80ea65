/- ZZReadName, impl.ReadName: the walks. -/
import Derived.Test.YtacbdhklfgapkaaDoorPOid
set_option linter.unusedVariables false
namespace Go.Proofs.YtacbdhklfgapkaaDoor
open Go.RowKit Go.Proofs.YtacbdhklfgapkaaDoorW.PrintWords Go.Proofs.YtacbdhklfgapkaaDoorW.PrintLast Go.Proofs.YtacbdhklfgapkaaDoorW.PrintMore

theorem ZZReadName_any (A : Option Addr) (c : Nat) (a b : Int) (rest : List Int) (a0 : 0 ≤ a) (a2 : a ≤ 2) (b0 : 0 ≤ b) (b40 : b < 40) (hrest : ∀ x ∈ rest, 0 ≤ x ∧ x ≤ 4294967295) (hl : rest.length ≤ 300) (w : World) (hr : Kd.C (Kd.int .u8) w A (sName (a :: b :: rest)).length (sName (a :: b :: rest))) (ht : PowTab w) :
    Calls Tryd.prog 25 #[.slice A (sName (a :: b :: rest)).length c] w fun e w' => e = .returned (.tuple #[.string (strOfNums (sDot (a :: b :: rest))), .nilIface]) ∧ Below w.heap.size w w' := by
  have HH := Lib.hid (And.intro hr (And.intro ht hrest))
  clear hr ht hrest
  go_enter Tryd.func25, Tryd.ntmps25
  go_wp2_with fail
  refine (parseOid_any A c a b rest a0 a2 b0 b40 HH.out.2.2 hl w HH.out.1 HH.out.2.1).mono ?_
  rintro e w' ⟨rfl, hb⟩
  have HB := Lib.hid hb
  clear hb
  go_wp2
  go_ret2
  exact ⟨rfl, HB.out⟩
set_option maxRecDepth 100000 in
theorem implReadName_any (A : Option Addr) (c : Nat) (a b : Int) (rest : List Int) (a0 : 0 ≤ a) (a2 : a ≤ 2) (b0 : 0 ≤ b) (b40 : b < 40) (hrest : ∀ x ∈ rest, 0 ≤ x ∧ x ≤ 4294967295) (hl : rest.length ≤ 300) (w : World) (hr : Kd.C (Kd.int .u8) w A (sName (a :: b :: rest)).length (sName (a :: b :: rest))) (ht : PowTab w) :
    Calls Tryd.prog 16 #[.slice A (sName (a :: b :: rest)).length c] w fun e w' => e = .returned (.tuple #[.string (strOfNums (sDot (a :: b :: rest))), .bool true]) ∧ Below w.heap.size w w' := by
  have hln : ((sName (a :: b :: rest)).length : Int) ≤ 2000 := by
    have := sName_len (a :: b :: rest)
    simp at this
    omega
  have HH := Lib.hid (And.intro hr (And.intro ht hrest))
  clear hr ht hrest
  go_enter Tryd.func16, Tryd.ntmps16
  go_wp2_with fail
  refine (ZZReadName_any A c a b rest a0 a2 b0 b40 HH.out.2.2 hl w HH.out.1 HH.out.2.1).mono ?_
  rintro e w' ⟨rfl, hb⟩
  have HB := Lib.hid hb
  clear hb
  go_wp2
  go_quiet (fail)
  go_wp2
  go_ret2
  exact ⟨rfl, pw_below_drewN HB.out _⟩
end Go.Proofs.YtacbdhklfgapkaaDoor
