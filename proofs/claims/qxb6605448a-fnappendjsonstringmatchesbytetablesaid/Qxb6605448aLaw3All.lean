import Derived.Test.Qxb6605448aLaw3
namespace Go.Proofs.Qxb6605448a
open Go.ChangeShapes Go.WideShapes Go.ChangeAt Go.RowKit
set_option linter.unusedVariables false

set_option maxRecDepth 100000 in
set_option maxHeartbeats 400000 in
theorem law3_early (a : Option Addr) (l cap : Nat) (s : ByteArray) (w : World) (h0 : l ≤ maxLen) (h1 : s.size ≤ maxLen) (h : 1048576 < l + s.size) :
    Calls Try.prog 3 #[.slice a l cap, .string s] w fun e w' => e = .returned (.bool true) ∧ Below w.heap.size w w' := by
  have hB : decide (l + s.size ≤ 1048576) = false := by simp; omega
  go_enter Try.func3, Try.ntmps3
  go_wp2_with fail
  refine (zzbytes3 _ _ _ _ _ h0 h1).mono ?_
  rintro e w' ⟨rfl, hw'⟩
  obtain rfl : w = w' := hw'.symm
  rw [hB]
  go_wp2
  go_ret
  exact ⟨rfl, Below.refl _ _⟩

theorem law3_any (a : Option Addr) (l cap : Nat) (z : List Int) (s : ByteArray) (w : World) (w0 : RowIn .u8 w a l cap z) (h1 : s.size ≤ maxLen) :
    Calls Try.prog 3 #[.slice a l cap, .string s] w fun e w' => e = .returned (.bool true) ∧ Below w.heap.size w w' := by
  obtain ⟨k0, e0, m0⟩ := w0.came
  by_cases h : l + s.size ≤ 1048576
  · exact law3_main a l cap _ s w k0 e0 h
  · exact law3_early a l cap s w m0 h1 (by omega)
end Go.Proofs.Qxb6605448a
