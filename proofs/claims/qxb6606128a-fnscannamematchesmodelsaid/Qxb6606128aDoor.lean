/-
  SEAT b6606128a: ZZScanName; the bounds.
-/
import Derived.Test.Qxb6606128aScan
namespace Go.Proofs.Qxb6606128a
open Go.RowKit

/-- ZZScanName's answer. -/
def ans4 (i : Nat) : Option Nat → Value
  | none => .tuple #[.int .i64 0, .int .i64 0, .int .i64 (i : Int), .bool false]
  | some e => .tuple #[.int .i64 (i : Int), .int .i64 (e : Int), .int .i64 (e : Int), .bool true]
def Answers4 (z : Nat → Int) (n i : Nat) (w : World) (e : Ending) (w' : World) : Prop := ∃ r, Scan z n i r ∧ e = .returned (ans4 i r) ∧ Below w.heap.size w w'

set_option maxRecDepth 100000 in
set_option maxHeartbeats 2000000 in
theorem zz_any (p : Option Addr) (n c i : Nat) (I : Int) (hI : I = (i : Int)) (z : Nat → Int) (w : World) (hn : n ≤ 1048576) (hi : i ≤ n) (hl : Line w p n z) :
    Calls Try.prog 8 #[.slice p n c, .int .i64 I] w fun e w' => Answers4 z n i w e w' := by
  subst hI
  have HS : Hid (Calls Try.prog 12 #[.slice p n c, .int .i64 (i : Int)] w fun e w' => Answers z n i w e w') := scan_any p n c i z w hn hi hl
  clear hl
  go_enter Try.func8, Try.ntmps8
  go_wp2_with fail
  refine HS.out.mono ?_
  rintro e w1 ⟨r, hsc, he, hb⟩
  have HSC : Hid (Scan z n i r) := hsc
  have HB : Hid (Below w.heap.size w w1) := hb
  clear hsc hb HS
  cases r with
  | none =>
    simp only [ans] at he
    subst he
    go_wp2_with fail
    go_quiet (fail)
    go_wp2_with fail
    exact bodyPost_ret (v := .tuple #[.int .i64 0, .int .i64 0, .int .i64 (i : Int), .bool false]) (by simp [results, Try.results8, go_sem]) rfl ⟨none, HSC.out, rfl, below_drewN (HB.out.alloc HB.out.size _) _⟩
  | some e =>
    simp only [ans] at he
    subst he
    go_wp2_with fail
    go_quiet (fail)
    go_wp2_with fail
    exact bodyPost_ret (v := .tuple #[.int .i64 (i : Int), .int .i64 (e : Int), .int .i64 (e : Int), .bool true]) (by simp [results, Try.results8, go_sem]) rfl ⟨some e, HSC.out, rfl, below_drewN (HB.out.alloc HB.out.size _) _⟩

set_option maxRecDepth 100000 in
set_option maxHeartbeats 1000000 in
theorem bytes6_any (p : Option Addr) (len cap : Nat) (a : Int) (hl : len ≤ maxLen) (w : World) :
    Calls Try.prog 6 #[.slice p len cap, .int .i64 a] w fun e w' => e = .returned (.bool (decide (len ≤ 1048576))) ∧ w' = w := by
  unfold maxLen at hl
  by_cases h : len ≤ 1048576
  · have HD : Hid (decide (len ≤ 1048576) = true) := decide_eq_true h
    go_enter Try.func6, Try.ntmps6
    go_wp2
    go_ret
    exact ⟨ret_bool HD.out.symm, rfl⟩
  · have HD : Hid (decide (len ≤ 1048576) = false) := decide_eq_false h
    go_enter Try.func6, Try.ntmps6
    go_wp2
    go_ret
    exact ⟨ret_bool HD.out.symm, rfl⟩
set_option maxRecDepth 100000 in
set_option maxHeartbeats 1000000 in
theorem bytes10_any (p : Option Addr) (len cap : Nat) (a : Int) (hl : len ≤ maxLen) (w : World) :
    Calls Try.prog 10 #[.slice p len cap, .int .i64 a] w fun e w' => e = .returned (.bool (decide (len ≤ 1048576))) ∧ w' = w := by
  unfold maxLen at hl
  by_cases h : len ≤ 1048576
  · have HD : Hid (decide (len ≤ 1048576) = true) := decide_eq_true h
    go_enter Try.func10, Try.ntmps10
    go_wp2
    go_ret
    exact ⟨ret_bool HD.out.symm, rfl⟩
  · have HD : Hid (decide (len ≤ 1048576) = false) := decide_eq_false h
    go_enter Try.func10, Try.ntmps10
    go_wp2
    go_ret
    exact ⟨ret_bool HD.out.symm, rfl⟩
set_option maxRecDepth 100000 in
set_option maxHeartbeats 1000000 in
theorem bytes11_any (p : Option Addr) (len cap : Nat) (a : Int) (hl : len ≤ maxLen) (w : World) :
    Calls Try.prog 11 #[.slice p len cap, .int .i64 a] w fun e w' => e = .returned (.bool (decide (len ≤ 1048576))) ∧ w' = w := by
  unfold maxLen at hl
  by_cases h : len ≤ 1048576
  · have HD : Hid (decide (len ≤ 1048576) = true) := decide_eq_true h
    go_enter Try.func11, Try.ntmps11
    go_wp2
    go_ret
    exact ⟨ret_bool HD.out.symm, rfl⟩
  · have HD : Hid (decide (len ≤ 1048576) = false) := decide_eq_false h
    go_enter Try.func11, Try.ntmps11
    go_wp2
    go_ret
    exact ⟨ret_bool HD.out.symm, rfl⟩

set_option maxRecDepth 100000 in
set_option maxHeartbeats 2000000 in
theorem matches_great (p : Option Addr) (len cap : Nat) (a : Int) (w : World) (hl : len ≤ maxLen) (hg : 1048576 < len) :
    Calls Try.prog 3 #[.slice p len cap, .int .i64 a] w fun e w' => e = .returned (.bool true) ∧ Below w.heap.size w w' := by
  have HD : Hid (decide (len ≤ 1048576) = false) := decide_eq_false (by omega)
  go_enter Try.func3, Try.ntmps3
  go_wp2_with fail
  refine (bytes6_any _ _ _ _ hl _).mono ?_
  rintro e w1 ⟨he, hw1⟩
  obtain rfl := hw1.symm
  rw [HD.out] at he
  subst he
  go_wp2_with fail
  go_ret
  exact ⟨rfl, Below.refl _ _⟩
set_option maxRecDepth 100000 in
set_option maxHeartbeats 2000000 in
theorem matches_out (p : Option Addr) (len cap : Nat) (a : Int) (w : World) (hl : len ≤ 1048576) (ho : a < 0 ∨ (len : Int) < a) :
    Calls Try.prog 3 #[.slice p len cap, .int .i64 a] w fun e w' => e = .returned (.bool true) ∧ Below w.heap.size w w' := by
  have HD : Hid (decide (len ≤ 1048576) = true) := decide_eq_true hl
  by_cases h0 : a < 0
  · clear ho
    go_enter Try.func3, Try.ntmps3
    go_wp2_with fail
    refine (bytes6_any _ _ _ _ (by unfold maxLen; omega) _).mono ?_
    rintro e w1 ⟨he, hw1⟩
    obtain rfl := hw1.symm
    rw [HD.out] at he
    subst he
    go_wp2_with fail
    go_ret
    exact ⟨rfl, Below.refl _ _⟩
  · have h1 : (len : Int) < a := by omega
    clear ho
    go_enter Try.func3, Try.ntmps3
    go_wp2_with fail
    refine (bytes6_any _ _ _ _ (by unfold maxLen; omega) _).mono ?_
    rintro e w1 ⟨he, hw1⟩
    obtain rfl := hw1.symm
    rw [HD.out] at he
    subst he
    go_wp2_with fail
    go_ret
    exact ⟨rfl, Below.refl _ _⟩

set_option maxRecDepth 100000 in
set_option maxHeartbeats 2000000 in
theorem shift_great (p : Option Addr) (len cap : Nat) (a : Int) (w : World) (hl : len ≤ maxLen) (hg : 1048576 < len) :
    Calls Try.prog 4 #[.slice p len cap, .int .i64 a] w fun e w' => e = .returned (.bool true) ∧ Below w.heap.size w w' := by
  have HD : Hid (decide (len ≤ 1048576) = false) := decide_eq_false (by omega)
  go_enter Try.func4, Try.ntmps4
  go_wp2_with fail
  refine (bytes10_any _ _ _ _ hl _).mono ?_
  rintro e w1 ⟨he, hw1⟩
  obtain rfl := hw1.symm
  rw [HD.out] at he
  subst he
  go_wp2_with fail
  go_ret
  exact ⟨rfl, Below.refl _ _⟩
set_option maxRecDepth 100000 in
set_option maxHeartbeats 2000000 in
theorem shift_out (p : Option Addr) (len cap : Nat) (a : Int) (w : World) (hl : len ≤ 1048576) (ho : a < 0 ∨ (len : Int) < a) :
    Calls Try.prog 4 #[.slice p len cap, .int .i64 a] w fun e w' => e = .returned (.bool true) ∧ Below w.heap.size w w' := by
  have HD : Hid (decide (len ≤ 1048576) = true) := decide_eq_true hl
  by_cases h0 : a < 0
  · clear ho
    go_enter Try.func4, Try.ntmps4
    go_wp2_with fail
    refine (bytes10_any _ _ _ _ (by unfold maxLen; omega) _).mono ?_
    rintro e w1 ⟨he, hw1⟩
    obtain rfl := hw1.symm
    rw [HD.out] at he
    subst he
    go_wp2_with fail
    go_ret
    exact ⟨rfl, Below.refl _ _⟩
  · have h1 : (len : Int) < a := by omega
    clear ho
    go_enter Try.func4, Try.ntmps4
    go_wp2_with fail
    refine (bytes10_any _ _ _ _ (by unfold maxLen; omega) _).mono ?_
    rintro e w1 ⟨he, hw1⟩
    obtain rfl := hw1.symm
    rw [HD.out] at he
    subst he
    go_wp2_with fail
    go_ret
    exact ⟨rfl, Below.refl _ _⟩

set_option maxRecDepth 100000 in
set_option maxHeartbeats 2000000 in
theorem cut_great (p : Option Addr) (len cap : Nat) (a : Int) (w : World) (hl : len ≤ maxLen) (hg : 1048576 < len) :
    Calls Try.prog 5 #[.slice p len cap, .int .i64 a] w fun e w' => e = .returned (.bool true) ∧ Below w.heap.size w w' := by
  have HD : Hid (decide (len ≤ 1048576) = false) := decide_eq_false (by omega)
  go_enter Try.func5, Try.ntmps5
  go_wp2_with fail
  refine (bytes11_any _ _ _ _ hl _).mono ?_
  rintro e w1 ⟨he, hw1⟩
  obtain rfl := hw1.symm
  rw [HD.out] at he
  subst he
  go_wp2_with fail
  go_ret
  exact ⟨rfl, Below.refl _ _⟩
set_option maxRecDepth 100000 in
set_option maxHeartbeats 2000000 in
theorem cut_out (p : Option Addr) (len cap : Nat) (a : Int) (w : World) (hl : len ≤ 1048576) (ho : a < 0 ∨ (len : Int) < a) :
    Calls Try.prog 5 #[.slice p len cap, .int .i64 a] w fun e w' => e = .returned (.bool true) ∧ Below w.heap.size w w' := by
  have HD : Hid (decide (len ≤ 1048576) = true) := decide_eq_true hl
  by_cases h0 : a < 0
  · clear ho
    go_enter Try.func5, Try.ntmps5
    go_wp2_with fail
    refine (bytes11_any _ _ _ _ (by unfold maxLen; omega) _).mono ?_
    rintro e w1 ⟨he, hw1⟩
    obtain rfl := hw1.symm
    rw [HD.out] at he
    subst he
    go_wp2_with fail
    go_ret
    exact ⟨rfl, Below.refl _ _⟩
  · have h1 : (len : Int) < a := by omega
    clear ho
    go_enter Try.func5, Try.ntmps5
    go_wp2_with fail
    refine (bytes11_any _ _ _ _ (by unfold maxLen; omega) _).mono ?_
    rintro e w1 ⟨he, hw1⟩
    obtain rfl := hw1.symm
    rw [HD.out] at he
    subst he
    go_wp2_with fail
    go_ret
    exact ⟨rfl, Below.refl _ _⟩

/-- The clone's line. -/
theorem line_of {w w1 : World} {q : Option Addr} {len : Nat} {zs : List Int} (hz : ∀ j, 0 ≤ zs.getD j 0 ∧ zs.getD j 0 ≤ 255) (hq0 : q = none → len = 0) (hq1 : ∀ ad, q = some ad → ad = ⟨w.heap.size, 0, none⟩ ∧ Cloned w w1 w.heap.size len zs) : Line w1 q len (fun k => zs.getD k 0) := by
  refine ⟨fun hpos => ?_, fun k _ => hz k⟩
  cases q with
  | none => have := hq0 rfl; omega
  | some ad =>
    obtain ⟨rfl, hcl⟩ := hq1 ad rfl
    exact ⟨w.heap.size, 0, rfl, hcl.lt, fun k hk => by rw [Nat.zero_add]; exact hcl.cell k hk⟩
theorem Line.below {w w' : World} {p : Option Addr} {n : Nat} {z : Nat → Int} (h : Line w p n z) (hb : Below w.heap.size w w') : Line w' p n z := by
  refine ⟨fun hpos => ?_, h.2⟩
  obtain ⟨g, o, e, hg, hc⟩ := h.1 hpos
  exact ⟨g, o, e, Nat.lt_of_lt_of_le hg hb.size, fun k hk => (hb.cell (p := ⟨g, o + k, none⟩) hg).trans (hc k hk)⟩
end Go.Proofs.Qxb6606128a
