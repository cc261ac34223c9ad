/-
  SEAT b6604071a: FnEscapedUnitReadsBackEveryEncodedUnit: its helpers.
-/
import Derived.Test.Qxb6604071aClone
import Derived.Test.Qxb6604071aShelf
namespace Go.Proofs.Qxb6604071a
open Go.RowKit

/-- The digit d, in lower or upper case. -/
def hx (d : Int) (up : Bool) : Int := if d < 10 then 48 + d else if up then 55 + d else 87 + d

set_option maxRecDepth 100000 in
set_option maxHeartbeats 1000000 in
theorem hex_any (d : Int) (up : Bool) (h0 : 0 ≤ d) (h1 : d ≤ 15) (w : World) : Calls Try.prog 14 #[.int .u16 d, .bool up] w fun e w' => e = .returned (.int .u8 (hx d up)) ∧ w' = w := by
  by_cases h : d < 10
  · have HX : Hid (hx d up = 48 + d) := by show hx d up = _; unfold hx; rw [if_pos h]
    go_enter Try.func14, Try.ntmps14
    go_wp2
    go_ret
    exact ⟨ret_int (by rw [HX.out]), rfl⟩
  · cases up with
    | true =>
      have HX : Hid (hx d true = 55 + d) := by show hx d true = _; unfold hx; rw [if_neg h, if_pos rfl]
      go_enter Try.func14, Try.ntmps14
      go_wp2
      go_ret
      exact ⟨ret_int (by rw [HX.out]; omega), rfl⟩
    | false =>
      have HX : Hid (hx d false = 87 + d) := by show hx d false = _; unfold hx; rw [if_neg h, if_neg (by decide)]
      go_enter Try.func14, Try.ntmps14
      go_wp2
      go_ret
      exact ⟨ret_int (by rw [HX.out]; omega), rfl⟩

set_option maxRecDepth 100000 in
set_option maxHeartbeats 1000000 in
theorem ubytes_any (u up : Int) (p : Option Addr) (len cap : Nat) (hl : len ≤ maxLen) (w : World) :
    Calls Try.prog 13 #[.int .u16 u, .int .u8 up, .slice p len cap] w fun e w' => e = .returned (.bool (decide (len ≤ 1048576))) ∧ w' = w := by
  unfold maxLen at hl
  by_cases h : len ≤ 1048576
  · have HD : Hid (decide (len ≤ 1048576) = true) := decide_eq_true h
    go_enter Try.func13, Try.ntmps13
    go_wp2
    go_ret
    exact ⟨ret_bool HD.out.symm, rfl⟩
  · have HD : Hid (decide (len ≤ 1048576) = false) := decide_eq_false h
    go_enter Try.func13, Try.ntmps13
    go_wp2
    go_ret
    exact ⟨ret_bool HD.out.symm, rfl⟩
end Go.Proofs.Qxb6604071a
