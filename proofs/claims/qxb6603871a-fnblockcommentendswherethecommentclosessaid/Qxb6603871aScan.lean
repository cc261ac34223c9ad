/-
  THE WALKS OF SEAT b6603871a, THE FIRST: the law's own helpers over a text.
-/
import Derived.Test.Qxb6603871aProg
import Derived.Test.Qxb6603871aPlain
import Derived.WalkKit
import Derived.Outline
import Derived.Deep.QuietTactic
import Derived.BigQuiet
namespace Go.Proofs.Qxb6603871a
open Go.RowKit

theorem all_snoc {Q : Nat → Prop} {p k : Nat} (h : ∀ j, p ≤ j → j < k → Q j) (hk : Q k) : ∀ j, p ≤ j → j < k + 1 → Q j := fun j h1 h2 => by
  by_cases e : j = k
  · subst e; exact hk
  · exact h j h1 (by omega)

set_option maxHeartbeats 400000 in
/-- zzDigitsEnd -/
theorem dig_any (s : ByteArray) (p : Nat) (P : Int) (hP : P = (p : Int)) (hs : s.size ≤ 1048576) (hp : p ≤ 2000000) (w : World) :
    Calls Try.prog 6 #[.string s, .int .i64 P] w fun e w' => ∃ r : Nat, e = .returned (.int .i64 r) ∧ DigEnd s p r ∧ w' = w := by
  subst hP
  go_enter Try.func6, Try.ntmps6
  go_wp2
  go_loop [1] (fun i => ∃ k : Nat, p ≤ k ∧ k ≤ 2000000 ∧ i = .int .i64 k ∧ ∀ j, p ≤ j → j < k → Dig s j) (fun i => 2000001 - (intOf i).toNat)
  case atStart => exact ⟨p, Nat.le_refl _, hp, rfl, fun j h1 h2 => by omega⟩
  case round =>
    obtain ⟨k, hk, hk2, rfl, hall⟩ := hrel
    have HA : Hid (∀ j, p ≤ j → j < k → Dig s j) := hall
    clear hall
    by_cases hlt : k < s.size
    · have HB : Hid (bt s k = ((s[k]'hlt).toNat : Int)) := bt_at s k hlt
      go_wp2
      · have h1 : 48 ≤ ((s[k]'hlt).toNat : Int) := by assumption
        have h2 : ((s[k]'hlt).toNat : Int) ≤ 57 := by assumption
        have hd : Dig s k := by unfold Dig; rw [HB.out]; exact ⟨h1, h2⟩
        go_round
        case rel => exact ⟨k + 1, by omega, by omega, by go_num, all_snoc HA.out hd⟩
        case measure => simp [intOf]; omega
      · have h2 : 57 < ((s[k]'hlt).toNat : Int) := by assumption
        have hd : ¬ Dig s k := by unfold Dig; rw [HB.out]; omega
        go_ret
        exact ⟨k, rfl, ⟨hk, HA.out, hd⟩, rfl⟩
      · have h2 : ((s[k]'hlt).toNat : Int) < 48 := by assumption
        have hd : ¬ Dig s k := by unfold Dig; rw [HB.out]; omega
        go_ret
        exact ⟨k, rfl, ⟨hk, HA.out, hd⟩, rfl⟩
    · go_wp2
      have hd : ¬ Dig s k := fun h => absurd (dig_size h) (by omega)
      go_ret
      exact ⟨k, rfl, ⟨hk, HA.out, hd⟩, rfl⟩

set_option maxHeartbeats 400000 in
/-- zzFirstClose -/
theorem first_any (s : ByteArray) (p : Nat) (P : Int) (hP : P = (p : Int)) (hs : s.size ≤ 1048576) (hp : p ≤ 2000000) (w : World) :
    Calls Try.prog 7 #[.string s, .int .i64 P] w fun e w' => ∃ r : Nat, e = .returned (.int .i64 r) ∧ FirstShut s p r ∧ w' = w := by
  subst hP
  go_enter Try.func7, Try.ntmps7
  go_wp2
  go_loop [5] (fun i => ∃ k : Nat, p ≤ k ∧ k ≤ 2000000 ∧ i = .int .i64 k ∧ ∀ j, p ≤ j → j < k → ¬ Shut s j) (fun i => 2000001 - (intOf i).toNat)
  case atStart => exact ⟨p, Nat.le_refl _, hp, rfl, fun j h1 h2 => by omega⟩
  case round =>
    obtain ⟨k, hk, hk2, rfl, hall⟩ := hrel
    have HA : Hid (∀ j, p ≤ j → j < k → ¬ Shut s j) := hall
    clear hall
    by_cases hlt : k + 1 < s.size
    · have hlt0 : k < s.size := by omega
      have HB : Hid (bt s k = ((s[k]'hlt0).toNat : Int)) := bt_at s k hlt0
      have HC : Hid (bt s (k + 1) = ((s[k + 1]'hlt).toNat : Int)) := bt_at s (k + 1) hlt
      go_wp2
      · have h1 : ((s[k]'hlt0).toNat : Int) = 42 := by assumption
        have h2 : (((s[k + 1]'hlt).toNat : Int) == 47) = true := by assumption
        have hd : Shut s k := ⟨by rw [HB.out]; exact h1, by rw [HC.out]; simpa using h2⟩
        go_ret
        exact ⟨k + 2, by go_num, Or.inl ⟨k, hk, hd, HA.out, rfl⟩, rfl⟩
      · have h2 : (((s[k + 1]'hlt).toNat : Int) == 47) = false := by assumption
        have hd : ¬ Shut s k := fun h => by have := h.2; rw [HC.out] at this; simp [this] at h2
        go_round
        case rel => exact ⟨k + 1, by omega, by omega, by go_num, all_snoc HA.out hd⟩
        case measure => simp [intOf]; omega
      · have h1 : ¬ ((s[k]'hlt0).toNat : Int) = 42 := by assumption
        have hd : ¬ Shut s k := fun h => by have := h.1; rw [HB.out] at this; exact h1 this
        go_round
        case rel => exact ⟨k + 1, by omega, by omega, by go_num, all_snoc HA.out hd⟩
        case measure => simp [intOf]; omega
    · go_wp2
      have hd : ∀ j, p ≤ j → ¬ Shut s j := fun j hj h => by
        by_cases e : j < k
        · exact HA.out j hj e h
        · have := shut_size h; omega
      go_ret
      exact ⟨s.size, rfl, Or.inr ⟨hd, rfl⟩, rfl⟩

theorem ret_int {k : IntKind} {a b : Int} (h : a = b) : Ending.returned (.int k a) = .returned (.int k b) := by rw [h]
theorem ret_bool {a b : Bool} (h : a = b) : Ending.returned (.bool a) = .returned (.bool b) := by rw [h]

set_option maxHeartbeats 400000 in
/-- zzHasAt -/
theorem hasAt_any (s pre : ByteArray) (p : Nat) (hs : s.size ≤ 1048576) (hq : pre.size ≤ 1048576) (hp : p ≤ s.size) (w : World) :
    Calls Try.prog 5 #[.string s, .int .i64 p, .string pre] w fun e w' => e = .returned (.bool (Lib.hasPrefix (s.data.toList.drop p) pre.data.toList)) ∧ ∃ n, w' = w.drewN n := by
  by_cases hl : s.size < p + pre.size
  · have HL : Hid (Lib.hasPrefix (s.data.toList.drop p) pre.data.toList = false) := pre_long s pre p hl hp
    go_enter Try.func5, Try.ntmps5
    go_wp2
    go_ret
    exact ⟨ret_bool HL.out.symm, 0, rfl⟩
  · have d1 : decide ((p : Int) < 0) = false := decide_eq_false (by omega)
    have d2 : decide (s.size < p) = false := decide_eq_false (by omega)
    have d3 : decide ((s.size : Int) - (p : Int) < (pre.size : Int)) = false := decide_eq_false (by omega)
    go_enter Try.func5, Try.ntmps5
    go_wp2
    go_loopw [7] (fun i wr => ∃ k nq : Nat, k ≤ pre.size ∧ i = .int .i64 k ∧ wr = w.drewN nq ∧ ∀ j, 0 ≤ j → j < k → bt s (p + j) = bt pre j) (fun i _ => pre.size - (intOf i).toNat)
    case atStart => exact ⟨0, 0, Nat.zero_le _, rfl, rfl, fun j _ h => by omega⟩
    case round =>
      obtain ⟨k, nq, hk, rfl, rfl, hall⟩ := hrel
      have HA : Hid (∀ j, 0 ≤ j → j < k → bt s (p + j) = bt pre j) := hall
      clear hall
      by_cases hlt : k < pre.size
      · have hlt1 : (k : Int) < (pre.size : Int) := by omega
        have hlt2 : (p : Int) + (k : Int) < (s.size : Int) := by omega
        have hlt0 : p + k < s.size := by omega
        have hwr : IntKind.i64.wrap ((p : Int) + (k : Int)) = ((p + k : Nat) : Int) := by rw [IntWalk.i64_in _ (by omega)]; omega
        have hz : (0 : Int) ≤ (p : Int) + (k : Int) := by omega
        have hin : ((p + k : Nat) : Int) < (s.size : Int) := by omega
        have HB : Hid (bt s (p + k) = ((s[p + k]'hlt0).toNat : Int)) := bt_at s (p + k) hlt0
        have HC : Hid (bt pre k = ((pre[k]'hlt).toNat : Int)) := bt_at pre k hlt
        go_wp2
        go_quiet (fail)
        go_wp2
        · have hne : (((s[p + k]'hlt0).toNat : Int) != ((pre[k]'hlt).toNat : Int)) = true := by assumption
          have HM : Lib.hasPrefix (s.data.toList.drop p) pre.data.toList = false := pre_miss s pre p k hlt (by rw [HB.out, HC.out]; simpa using hne)
          go_ret
          exact ⟨ret_bool HM.symm, _, World.drewN_drewN _ _ _⟩
        · have hne : (((s[p + k]'hlt0).toNat : Int) != ((pre[k]'hlt).toNat : Int)) = false := by assumption
          have he : bt s (p + k) = bt pre k := by rw [HB.out, HC.out]; simpa using hne
          go_roundw
          case rel => exact ⟨k + 1, _, by omega, by go_num, by first | rfl | exact World.drewN_drewN _ _ _, all_snoc HA.out he⟩
          case measure => simp [intOf]; omega
      · go_wp2
        go_ret
        exact ⟨ret_bool ((pre_iff s pre p).2 fun j hj => HA.out j (Nat.zero_le _) (by omega)).symm, _, rfl⟩

set_option maxHeartbeats 1000000 in
/-- zzNestedEnd: by induction on what is left of the text. -/
theorem nest_any (f : Nat) : ∀ (s : ByteArray) (p : Nat) (P : Int) (w : World), P = (p : Int) → s.size ≤ 1048576 → p ≤ s.size → s.size ≤ p + f →
    Calls Try.prog 8 #[.string s, .int .i64 P] w fun e w' => e = .returned (.int .i64 (ends s 1 p : Nat)) ∧ w' = w := by
  induction f with
  | zero =>
    intro s p P w hP hs hp hf
    subst hP
    have HE : Hid (ends s 1 p = s.size) := ends_out s 1 p (by omega)
    have hf' : s.size ≤ p := by omega
    clear hf
    go_enter Try.func8, Try.ntmps8
    go_wp2_with fail
    go_loop [1] (fun i => i = .int .i64 (p : Int)) (fun i => 0)
    case atStart => rfl
    case round =>
      subst hrel
      go_wp2_with fail
      go_ret
      exact ⟨ret_int (by rw [HE.out]), rfl⟩
  | succ f ih =>
    intro s p P w hP hs hp hf
    subst hP
    have IH : Hid (∀ (s : ByteArray) (p : Nat) (P : Int) (w : World), P = (p : Int) → s.size ≤ 1048576 → p ≤ s.size → s.size ≤ p + f →
      Calls Try.prog 8 #[.string s, .int .i64 P] w fun e w' => e = .returned (.int .i64 (ends s 1 p : Nat)) ∧ w' = w) := ih
    clear ih
    go_enter Try.func8, Try.ntmps8
    go_wp2_with fail
    go_loop [1] (fun i => ∃ k : Nat, p ≤ k ∧ k ≤ s.size ∧ i = .int .i64 k ∧ ends s 1 p = ends s 1 k) (fun i => s.size - (intOf i).toNat)
    case atStart => exact ⟨p, Nat.le_refl _, hp, rfl, rfl⟩
    case round =>
      obtain ⟨k, hk, hk2, rfl, hall⟩ := hrel
      have HA : Hid (ends s 1 p = ends s 1 k) := hall
      clear hall
      by_cases hlt : k < s.size
      · have HB : Hid (bt s k = ((s[k]'hlt).toNat : Int)) := bt_at s k hlt
        by_cases hlt1 : k + 1 < s.size
        · have HC : Hid (bt s (k + 1) = ((s[k + 1]'hlt1).toNat : Int)) := bt_at s (k + 1) hlt1
          go_wp2_with fail
          · have h1 : ((s[k]'hlt).toNat : Int) = 42 := by assumption
            have h2 : (((s[k + 1]'hlt1).toNat : Int) == 47) = true := by assumption
            have hd : Shut s k := ⟨by rw [HB.out]; exact h1, by rw [HC.out]; simpa using h2⟩
            have he := ends_shut_one s k hd
            go_ret
            exact ⟨ret_int (by rw [HA.out, he]; omega), rfl⟩
          · have h1 : ((s[k]'hlt).toNat : Int) = 42 := by assumption
            have h2 : (((s[k + 1]'hlt1).toNat : Int) == 47) = false := by assumption
            have hd1 : ¬ Shut s k := fun h => by have := h.2; rw [HC.out] at this; simp [this] at h2
            have hd2 : ¬ Open s k := fun h => by have := h.1; rw [HB.out] at this; omega
            go_round
            case rel => exact ⟨k + 1, by omega, by omega, by go_num, HA.out.trans (ends_step s 1 k hlt hd2 hd1)⟩
            case measure => simp [intOf]; omega
          · have h1 : ((s[k]'hlt).toNat : Int) = 47 := by assumption
            have h2 : (((s[k + 1]'hlt1).toNat : Int) == 42) = true := by assumption
            have hd : Open s k := ⟨by rw [HB.out]; exact h1, by rw [HC.out]; simpa using h2⟩
            have HN : Hid (ends s 1 k = ends s 1 (ends s 1 (k + 2))) := ends_nest s k hd
            have hge := ends_ge s 1 (k + 2) (by omega)
            refine (IH.out s (k + 2) _ _ (by omega) hs (by omega) (by omega)).mono ?_
            rintro e w' ⟨rfl, rfl⟩
            go_wp2_with fail
            go_round
            case rel => exact ⟨ends s 1 (k + 2), by omega, by omega, by go_num, HA.out.trans HN.out⟩
            case measure => simp [intOf]; omega
          · have h1 : ((s[k]'hlt).toNat : Int) = 47 := by assumption
            have h2 : (((s[k + 1]'hlt1).toNat : Int) == 42) = false := by assumption
            have hd1 : ¬ Open s k := fun h => by have := h.2; rw [HC.out] at this; simp [this] at h2
            have hd2 : ¬ Shut s k := fun h => by have := h.1; rw [HB.out] at this; omega
            go_round
            case rel => exact ⟨k + 1, by omega, by omega, by go_num, HA.out.trans (ends_step s 1 k hlt hd1 hd2)⟩
            case measure => simp [intOf]; omega
          · have h1 : ¬ ((s[k]'hlt).toNat : Int) = 42 := by assumption
            have h2 : ¬ ((s[k]'hlt).toNat : Int) = 47 := by assumption
            have hd1 : ¬ Open s k := fun h => by have := h.1; rw [HB.out] at this; omega
            have hd2 : ¬ Shut s k := fun h => by have := h.1; rw [HB.out] at this; omega
            go_round
            case rel => exact ⟨k + 1, by omega, by omega, by go_num, HA.out.trans (ends_step s 1 k hlt hd1 hd2)⟩
            case measure => simp [intOf]; omega
        · go_wp2_with fail
          have hd1 : ¬ Open s k := fun h => by have := open_size h; omega
          have hd2 : ¬ Shut s k := fun h => by have := shut_size h; omega
          go_round
          case rel => exact ⟨k + 1, by omega, by omega, by go_num, HA.out.trans (ends_step s 1 k hlt hd1 hd2)⟩
          case measure => simp [intOf]; omega
      · have HE : Hid (ends s 1 k = s.size) := ends_out s 1 k (by omega)
        go_wp2_with fail
        go_ret
        exact ⟨ret_int (by rw [HA.out, HE.out]), rfl⟩

set_option maxHeartbeats 400000 in
/-- zzBytes..: the law's bound holds. -/
theorem bytes_yes (sql : ByteArray) (i kind n : Int) (prev : ByteArray) (cr be : Bool) (dp : Int) (bo en : Bool) (h : sql.size + prev.size ≤ 1048576) (w : World) :
    Calls Try.prog 4 #[.string sql, .int .i64 i, .int .i32 kind, .int .i64 n, .string prev, .bool cr, .bool be, .int .i64 dp, .bool bo, .bool en] w fun e w' => e = .returned (.bool true) ∧ w' = w := by
  go_enter Try.func4, Try.ntmps4
  go_wp2
  go_ret
  exact ⟨rfl, rfl⟩
set_option maxHeartbeats 400000 in
theorem bytes_no (sql : ByteArray) (i kind n : Int) (prev : ByteArray) (cr be : Bool) (dp : Int) (bo en : Bool) (h : 1048576 < sql.size + prev.size) (h1 : sql.size ≤ maxLen) (h2 : prev.size ≤ maxLen) (w : World) :
    Calls Try.prog 4 #[.string sql, .int .i64 i, .int .i32 kind, .int .i64 n, .string prev, .bool cr, .bool be, .int .i64 dp, .bool bo, .bool en] w fun e w' => e = .returned (.bool false) ∧ w' = w := by
  unfold maxLen at h1 h2
  by_cases c1 : 1048576 < sql.size
  · go_enter Try.func4, Try.ntmps4
    go_wp2
    go_ret
    exact ⟨rfl, rfl⟩
  · by_cases c2 : 1048576 < prev.size
    · go_enter Try.func4, Try.ntmps4
      go_wp2
      go_ret
      exact ⟨rfl, rfl⟩
    · go_enter Try.func4, Try.ntmps4
      go_wp2
      go_ret
      exact ⟨rfl, rfl⟩
end Go.Proofs.Qxb6603871a
