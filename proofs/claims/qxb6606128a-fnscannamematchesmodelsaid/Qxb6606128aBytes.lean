/-
  SEAT b6606128a: the tests on one byte.
-/
import Derived.Test.Qxb6606128aClone
import Derived.Test.Qxb6606128aPlain
import Derived.Test.Qxb6606128aShelf
namespace Go.Proofs.Qxb6606128a
open Go.RowKit

theorem idx_at (s : ByteArray) (c J : Int) (w : World) (h : Lib.indexByte s.data.toList c.toNat.toUInt8 = J) :
    Calls Try.prog 17 #[.string s, .int .u8 c] w fun e w' => e = .returned (.int .i64 J) ∧ w' = w :=
  (Try.strings_IndexByte s c w).mono fun e w' hh => by rw [h] at hh; exact hh
/-- What strings.IndexByte says of the five marks. -/
theorem five (c : Int) (h0 : 0 ≤ c) (h1 : c ≤ 255) : ((pu c || c == 58) = true → ∃ J : Nat, J ≤ 4 ∧ Lib.indexByte [95, 45, 46, 47, 58] c.toNat.toUInt8 = (J : Int)) ∧ ((pu c || c == 58) = false → Lib.indexByte [95, 45, 46, 47, 58] c.toNat.toUInt8 = -1) := by
  have key : ∀ d : Fin 256, ((pu (d.val : Int) || (d.val : Int) == 58) = true → ∃ J : Fin 5, Lib.indexByte [95, 45, 46, 47, 58] ((d.val : Int)).toNat.toUInt8 = ((J.val : Nat) : Int)) ∧ ((pu (d.val : Int) || (d.val : Int) == 58) = false → Lib.indexByte [95, 45, 46, 47, 58] ((d.val : Int)).toNat.toUInt8 = -1) := by decide +kernel
  obtain ⟨d, rfl⟩ := Int.eq_ofNat_of_zero_le h0
  obtain ⟨a, b⟩ := key ⟨d, by omega⟩
  exact ⟨fun h => let ⟨J, hJ⟩ := a h; ⟨J.val, by omega, hJ⟩, b⟩
theorem al_no {c : Int} (h : al c = false) : ¬ (97 ≤ c ∧ c ≤ 122) ∧ ¬ (65 ≤ c ∧ c ≤ 90) ∧ ¬ (48 ≤ c ∧ c ≤ 57) := by
  have := al_iff c
  rw [h] at this
  simp at this
  omega

set_option maxRecDepth 100000 in
set_option maxHeartbeats 2000000 in
theorem alnum_yes (c : Int) (w : World) (h : al c = true) : Calls Try.prog 13 #[.int .u8 c] w fun e w' => e = .returned (.bool true) ∧ w' = w := by
  rcases (al_iff c).1 h with ⟨h1, h2⟩ | ⟨h1, h2⟩ | ⟨h1, h2⟩
  all_goals
    clear h
    go_enter Try.func13, Try.ntmps13
    go_wp2
    all_goals (go_ret; exact ⟨ret_bool (by first | rfl | (simp; omega)), rfl⟩)
set_option maxRecDepth 100000 in
set_option maxHeartbeats 2000000 in
theorem alnum_no (c : Int) (w : World) (h : al c = false) : Calls Try.prog 13 #[.int .u8 c] w fun e w' => e = .returned (.bool false) ∧ w' = w := by
  have hn := al_no h
  have HN : Hid (¬ (97 ≤ c ∧ c ≤ 122) ∧ ¬ (65 ≤ c ∧ c ≤ 90) ∧ ¬ (48 ≤ c ∧ c ≤ 57)) := hn
  clear h hn
  go_enter Try.func13, Try.ntmps13
  go_wp2
  all_goals (have hn := HN.out)
  all_goals first | (exfalso; omega) | skip
  all_goals (go_ret; exact ⟨ret_bool (by first | rfl | (simp; omega)), rfl⟩)

set_option maxRecDepth 100000 in
set_option maxHeartbeats 2000000 in
theorem first_yes (c : Int) (b : Bool) (w : World) (h : al c = true) : Calls Try.prog 15 #[.int .u8 c, .bool b] w fun e w' => e = .returned (.bool true) ∧ w' = w := by
  rcases (al_iff c).1 h with ⟨h1, h2⟩ | ⟨h1, h2⟩ | ⟨h1, h2⟩
  all_goals
    clear h
    go_enter Try.func15, Try.ntmps15
    go_wp2_with fail
    all_goals (go_ret; exact ⟨ret_bool (by first | rfl | (simp; omega)), rfl⟩)
set_option maxRecDepth 100000 in
set_option maxHeartbeats 2000000 in
theorem first_no (c : Int) (w : World) (h : al c = false) : Calls Try.prog 15 #[.int .u8 c, .bool true] w fun e w' => e = .returned (.bool false) ∧ w' = w := by
  have hn := al_no h
  have HN : Hid (¬ (97 ≤ c ∧ c ≤ 122) ∧ ¬ (65 ≤ c ∧ c ≤ 90) ∧ ¬ (48 ≤ c ∧ c ≤ 57)) := hn
  clear h hn
  go_enter Try.func15, Try.ntmps15
  go_wp2_with fail
  all_goals (have hn := HN.out)
  all_goals first | (exfalso; omega) | skip
  all_goals (go_ret; exact ⟨ret_bool (by first | rfl | (simp; omega)), rfl⟩)
set_option maxRecDepth 100000 in
set_option maxHeartbeats 2000000 in
theorem rest_no_al (c : Int) (w : World) (h : al c = false) (h0 : 0 ≤ c) (h1 : c ≤ 255) : Calls Try.prog 15 #[.int .u8 c, .bool false] w fun e w' => e = .returned (.bool (pu c || c == 58)) ∧ w' = w := by
  have hn := al_no h
  have HN : Hid (¬ (97 ≤ c ∧ c ≤ 122) ∧ ¬ (65 ≤ c ∧ c ≤ 90) ∧ ¬ (48 ≤ c ∧ c ≤ 57)) := hn
  obtain ⟨f1, f2⟩ := five c h0 h1
  cases hq : (pu c || c == 58) with
  | true =>
    obtain ⟨J, hJ4, hJ⟩ := f1 hq
    have HJ : Hid (Lib.indexByte [95, 45, 46, 47, 58] c.toNat.toUInt8 = (J : Int)) := hJ
    clear h hn f1 f2 hq hJ
    go_enter Try.func15, Try.ntmps15
    go_wp2_with fail
    all_goals (have hn := HN.out)
    all_goals first | (exfalso; omega) | skip
    all_goals
      clear hn
      refine (idx_at _ _ _ _ HJ.out).mono ?_
      rintro e w1 ⟨rfl, hw1⟩
      obtain rfl := hw1.symm
      go_wp2_with fail
      go_ret
      exact ⟨rfl, rfl⟩
  | false =>
    have HJ : Hid (Lib.indexByte [95, 45, 46, 47, 58] c.toNat.toUInt8 = -1) := f2 hq
    clear h hn f1 f2 hq
    go_enter Try.func15, Try.ntmps15
    go_wp2_with fail
    all_goals (have hn := HN.out)
    all_goals first | (exfalso; omega) | skip
    all_goals
      clear hn
      refine (idx_at _ _ _ _ HJ.out).mono ?_
      rintro e w1 ⟨rfl, hw1⟩
      obtain rfl := hw1.symm
      go_wp2_with fail
      go_ret
      exact ⟨rfl, rfl⟩
theorem rest_any (c : Int) (w : World) (h0 : 0 ≤ c) (h1 : c ≤ 255) : Calls Try.prog 15 #[.int .u8 c, .bool false] w fun e w' => e = .returned (.bool (al c || (pu c || c == 58))) ∧ w' = w := by
  cases h : al c with
  | true => exact first_yes c false w h
  | false => exact rest_no_al c w h h0 h1
theorem colon : al 58 = false ∧ pu 58 = false := by decide

set_option maxRecDepth 100000 in
set_option maxHeartbeats 2000000 in
theorem plain_any (c : Int) (w : World) (h0 : 0 ≤ c) (h1 : c ≤ 255) : Calls Try.prog 16 #[.int .u8 c] w fun e w' => e = .returned (.bool (pl c)) ∧ w' = w := by
  cases hc : (c != 58) with
  | false =>
    have hcc : c = 58 := by simpa using hc
    have HP : Hid (pl c = false) := by show pl c = false; rw [hcc]; decide
    clear hcc
    go_enter Try.func16, Try.ntmps16
    go_wp2_with fail
    go_ret
    exact ⟨ret_bool HP.out.symm, rfl⟩
  | true =>
    have hcc : c ≠ 58 := by simpa using hc
    have hcb : (c == 58) = false := by simpa using hcc
    have HP : Hid ((al c || (pu c || c == 58)) = pl c) := by show (al c || (pu c || c == 58)) = pl c; rw [hcb]; simp [pl]
    clear hcb hcc
    go_enter Try.func16, Try.ntmps16
    go_wp2_with fail
    refine (rest_any c _ h0 h1).mono ?_
    rintro e w1 ⟨he, hw1⟩
    obtain rfl := hw1.symm
    rw [HP.out] at he
    subst he
    go_wp2_with fail
    go_ret
    exact ⟨rfl, rfl⟩
theorem plain_yes (c : Int) (w : World) (h0 : 0 ≤ c) (h1 : c ≤ 255) (h : pl c = true) : Calls Try.prog 16 #[.int .u8 c] w fun e w' => e = .returned (.bool true) ∧ w' = w :=
  (plain_any c w h0 h1).mono fun e w' hh => by rw [h] at hh; exact hh
theorem plain_no (c : Int) (w : World) (h0 : 0 ≤ c) (h1 : c ≤ 255) (h : pl c = false) : Calls Try.prog 16 #[.int .u8 c] w fun e w' => e = .returned (.bool false) ∧ w' = w :=
  (plain_any c w h0 h1).mono fun e w' hh => by rw [h] at hh; exact hh

set_option maxRecDepth 100000 in
set_option maxHeartbeats 1000000 in
theorem punct_any (c : Int) (w : World) : Calls Try.prog 14 #[.int .u8 c] w fun e w' => e = .returned (.bool (pu c)) ∧ w' = w := by
  by_cases h1 : (c == 95) = true
  · have HS : Hid (pu c = true) := by show pu c = true; simp [pu, h1]
    go_enter Try.func14, Try.ntmps14
    go_wp2
    all_goals (go_ret; exact ⟨ret_bool HS.out.symm, rfl⟩)
  · have h1' : (c == 95) = false := by simpa using h1
    by_cases h2 : (c == 45) = true
    · have HS : Hid (pu c = true) := by show pu c = true; simp [pu, h2]
      clear h1
      go_enter Try.func14, Try.ntmps14
      go_wp2
      all_goals (go_ret; exact ⟨ret_bool HS.out.symm, rfl⟩)
    · have h2' : (c == 45) = false := by simpa using h2
      by_cases h3 : (c == 46) = true
      · have HS : Hid (pu c = true) := by show pu c = true; simp [pu, h3]
        clear h1 h2
        go_enter Try.func14, Try.ntmps14
        go_wp2
        all_goals (go_ret; exact ⟨ret_bool HS.out.symm, rfl⟩)
      · have h3' : (c == 46) = false := by simpa using h3
        have HS : Hid (pu c = (c == 47)) := by show pu c = (c == 47); simp [pu, h1', h2', h3']
        clear h1 h2 h3
        go_enter Try.func14, Try.ntmps14
        go_wp2
        all_goals (go_ret; exact ⟨ret_bool HS.out.symm, rfl⟩)
theorem punct_yes (c : Int) (w : World) (h : pu c = true) : Calls Try.prog 14 #[.int .u8 c] w fun e w' => e = .returned (.bool true) ∧ w' = w :=
  (punct_any c w).mono fun e w' hh => by rw [h] at hh; exact hh
theorem punct_no (c : Int) (w : World) (h : pu c = false) : Calls Try.prog 14 #[.int .u8 c] w fun e w' => e = .returned (.bool false) ∧ w' = w :=
  (punct_any c w).mono fun e w' hh => by rw [h] at hh; exact hh
end Go.Proofs.Qxb6606128a
