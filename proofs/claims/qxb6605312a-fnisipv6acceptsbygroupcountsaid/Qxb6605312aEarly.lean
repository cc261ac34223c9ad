/-
  SEAT b6605312a: the walk of FnIsIPv6AcceptsByGroupCount: the ways on which it answers true at once.
-/
import Derived.Test.Qxb6605312aDoor
import Derived.Lib.AppendStr
namespace Go.Proofs.Qxb6605312a
open Go.RowKit

set_option maxRecDepth 100000 in
set_option maxHeartbeats 1000000 in
theorem bytes_any (p : Option Addr) (len cap : Nat) (el : Bool) (a : Int) (up hz : Bool) (zone : ByteArray) (hl : len ≤ maxLen) (hzl : zone.size ≤ maxLen) (w : World) :
    Calls Try.prog 11 #[.slice p len cap, .bool el, .int .i64 a, .bool up, .bool hz, .string zone] w fun e w' => e = .returned (.bool (decide (len + zone.size ≤ 1048576))) ∧ w' = w := by
  unfold maxLen at hl hzl
  by_cases h : len + zone.size ≤ 1048576
  · have HD : Hid (decide (len + zone.size ≤ 1048576) = true) := decide_eq_true h
    go_enter Try.func11, Try.ntmps11
    go_wp2
    go_ret
    exact ⟨ret_bool HD.out.symm, rfl⟩
  · have HD : Hid (decide (len + zone.size ≤ 1048576) = false) := decide_eq_false h
    by_cases h1 : len ≤ 1048576
    · by_cases h2 : zone.size ≤ 1048576
      · go_enter Try.func11, Try.ntmps11
        go_wp2
        go_ret
        exact ⟨ret_bool HD.out.symm, rfl⟩
      · go_enter Try.func11, Try.ntmps11
        go_wp2
        go_ret
        exact ⟨ret_bool HD.out.symm, rfl⟩
    · go_enter Try.func11, Try.ntmps11
      go_wp2
      go_ret
      exact ⟨ret_bool HD.out.symm, rfl⟩

set_option maxRecDepth 100000 in
set_option maxHeartbeats 2000000 in
/-- Too long: the law answers true at once. -/
theorem law_long (p : Option Addr) (len cap : Nat) (el : Bool) (a : Int) (up hz : Bool) (zone : ByteArray) (hl : len ≤ maxLen) (hzl : zone.size ≤ maxLen) (w : World) (h : 4096 < len ∨ 65536 < zone.size) :
    Calls Try.prog 4 #[.slice p len cap, .bool el, .int .i64 a, .bool up, .bool hz, .string zone] w fun e w' => e = .returned (.bool true) ∧ Below w.heap.size w w' := by
  cases hd : decide (len + zone.size ≤ 1048576) with
  | false =>
    have HD : Hid (decide (len + zone.size ≤ 1048576) = false) := hd
    clear hd h
    go_enter Try.func4, Try.ntmps4
    go_wp2_with fail
    refine (bytes_any _ _ _ _ _ _ _ _ hl hzl _).mono ?_
    rintro e w1 ⟨he, hw1⟩
    obtain rfl := hw1.symm
    rw [HD.out] at he
    subst he
    go_wp2_with fail
    go_ret
    exact ⟨rfl, Below.refl _ _⟩
  | true =>
    have HD : Hid (decide (len + zone.size ≤ 1048576) = true) := hd
    clear hd
    by_cases h1 : 4096 < len
    · clear h
      go_enter Try.func4, Try.ntmps4
      go_wp2_with fail
      refine (bytes_any _ _ _ _ _ _ _ _ hl hzl _).mono ?_
      rintro e w1 ⟨he, hw1⟩
      obtain rfl := hw1.symm
      rw [HD.out] at he
      subst he
      go_wp2_with fail
      go_ret
      exact ⟨rfl, Below.refl _ _⟩
    · have h2 : 65536 < zone.size := by omega
      clear h
      go_enter Try.func4, Try.ntmps4
      go_wp2_with fail
      refine (bytes_any _ _ _ _ _ _ _ _ hl hzl _).mono ?_
      rintro e w1 ⟨he, hw1⟩
      obtain rfl := hw1.symm
      rw [HD.out] at he
      subst he
      go_wp2_with fail
      go_ret
      exact ⟨rfl, Below.refl _ _⟩

set_option maxRecDepth 100000 in
set_option maxHeartbeats 2000000 in
/-- The elision's place lies outside: the law answers true at once. -/
theorem law_out (p : Option Addr) (len cap : Nat) (a : Int) (up hz : Bool) (zone : ByteArray) (hl : len ≤ 4096) (hzl : zone.size ≤ 65536) (w : World) (h : a < 0 ∨ (len : Int) < a) :
    Calls Try.prog 4 #[.slice p len cap, .bool true, .int .i64 a, .bool up, .bool hz, .string zone] w fun e w' => e = .returned (.bool true) ∧ Below w.heap.size w w' := by
  have HD : Hid (decide (len + zone.size ≤ 1048576) = true) := decide_eq_true (by omega)
  by_cases h1 : a < 0
  · clear h
    go_enter Try.func4, Try.ntmps4
    go_wp2_with fail
    refine (bytes_any _ _ _ _ _ _ _ _ (by unfold maxLen; omega) (by unfold maxLen; omega) _).mono ?_
    rintro e w1 ⟨he, hw1⟩
    obtain rfl := hw1.symm
    rw [HD.out] at he
    subst he
    go_wp2_with fail
    go_ret
    exact ⟨rfl, Below.refl _ _⟩
  · have h2 : (len : Int) < a := by omega
    clear h
    go_enter Try.func4, Try.ntmps4
    go_wp2_with fail
    refine (bytes_any _ _ _ _ _ _ _ _ (by unfold maxLen; omega) (by unfold maxLen; omega) _).mono ?_
    rintro e w1 ⟨he, hw1⟩
    obtain rfl := hw1.symm
    rw [HD.out] at he
    subst he
    go_wp2_with fail
    go_ret
    exact ⟨rfl, Below.refl _ _⟩
end Go.Proofs.Qxb6605312a
