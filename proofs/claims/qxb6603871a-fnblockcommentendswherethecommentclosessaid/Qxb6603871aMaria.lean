/-
  THE WALKS OF SEAT b6603871a: (*lexer).blockComment on MariaDB.
-/
import Derived.Test.Qxb6603871aLex
namespace Go.Proofs.Qxb6603871a
open Go.RowKit

theorem idx0 (w : World) : (Instr.index 34 (.agg #[.string ⟨#[47, 42, 33]⟩, .string ⟨#[47, 42, 77, 33]⟩]) (.int .i64 0)).run Try.prog w = .ok (.string ⟨#[47, 42, 33]⟩) w := by kernel_rfl
theorem idx1 (w : World) : (Instr.index 34 (.agg #[.string ⟨#[47, 42, 33]⟩, .string ⟨#[47, 42, 77, 33]⟩]) (.int .i64 1)).run Try.prog w = .ok (.string ⟨#[47, 42, 77, 33]⟩) w := by kernel_rfl

set_option maxRecDepth 100000 in
set_option maxHeartbeats 2000000 in
/-- blockComment on MariaDB at the opener slash, star, bang. -/
theorem block_bang3 (b : Nat) (sql : ByteArray) (i : Nat) (w : World) (hs : sql.size ≤ 1048576) (hi : i + 3 ≤ sql.size) (hp : Lib.hasPrefix (sql.data.toList.drop i) [47, 42, 33] = true)
    (c0 : w.cell? ⟨b, 0, none⟩ = some (.string sql)) (c1 : w.cell? ⟨b, 1, none⟩ = some (.int .i64 (i : Int))) (c2 : w.cell? ⟨b, 2, none⟩ = some (.int .i32 3)) (f1 : w.frozen? ⟨b, 1, none⟩ = false) :
    Calls Try.prog 11 #[.pointer (some ⟨b, 0, none⟩)] w fun e w' => e = .returned (.tuple #[]) ∧ ∃ r, LexAt w w' b sql r ∧ DigEnd sql (i + 3) r := by
  have HP : Hid (Lib.hasPrefix (sql.data.toList.drop i) [47, 42, 33] = true) := hp
  have i0 := idx0
  clear hp
  go_enter Try.func11, Try.ntmps11
  go_wp2_with fail
  go_loopg [12] 2 (fun g c wr => c = .int .i64 0 ∧ w = wr)
  case atStart => exact ⟨rfl, rfl⟩
  case round =>
    obtain ⟨rfl, rfl⟩ := hrel
    go_wp2_with fail
    refine (at_yes b sql ⟨#[47, 42, 33]⟩ i _ hs (by omega) (by exact c0) (by exact c1) HP.out).mono ?_
    rintro e w' ⟨rfl, n1, rfl⟩
    go_wp2_with fail
    have hx0 : LexAt w ((w.drewN n1).setCell ⟨b, 1, none⟩ (.int .i64 ((i : Int) + 3))) b sql (i + 3) := by
      have h0 : LexAt w w b sql i := ⟨c0, c1, f1, fun _ _ => rfl, Below.refl _ _⟩
      exact (h0.drewN n1).set (i + 3) _ (by omega)
    have HX0 : Hid (LexAt w ((w.drewN n1).setCell ⟨b, 1, none⟩ (.int .i64 ((i : Int) + 3))) b sql (i + 3)) := hx0
    clear hx0
    go_loopg [] (sql.size - (i + 3)) (fun g wr => ∃ k : Nat, k ≤ sql.size ∧ g = sql.size - k ∧ i + 3 ≤ k ∧ LexAt w wr b sql k ∧ ∀ j, i + 3 ≤ j → j < k → Dig sql j)
    case atStart => exact ⟨i + 3, hi, rfl, Nat.le_refl _, HX0.out, fun j h1 h2 => by omega⟩
    case round =>
      obtain ⟨k, hk1, rfl, hk2, hx, hall⟩ := hrel
      have HA : Hid (∀ j, i + 3 ≤ j → j < k → Dig sql j) := hall
      have HX : Hid (LexAt w wr b sql k) := hx
      have k0 := hx.c0
      have k1 := hx.c1
      have k2 := hx.f1
      clear hall hx HX0 c0 c1 c2 f1
      by_cases hlt : k < sql.size
      · have hlt' : (k : Int) < (sql.size : Int) := by omega
        have hz : (0 : Int) ≤ (k : Int) := by omega
        have HB : Hid (bt sql k = ((sql[k]'hlt).toNat : Int)) := bt_at sql k hlt
        by_cases h48 : (48 : Int) ≤ ((sql[k]'hlt).toNat : Int)
        · by_cases h57 : ((sql[k]'hlt).toNat : Int) ≤ 57
          · have HD : Hid (Dig sql k) := ⟨by rw [HB.out]; exact h48, by rw [HB.out]; exact h57⟩
            go_wp2_with fail
            go_quiet (fail)
            go_wp2_with fail
            go_roundg (sql.size - (k + 1))
            case measure => omega
            case rel => exact ⟨k + 1, by omega, rfl, by omega, (HX.out.drewN _).set (k + 1) _ (by omega), all_snoc HA.out HD.out⟩
          · have h57d : decide (((sql[k]'hlt).toNat : Int) ≤ 57) = false := decide_eq_false h57
            have HD : Hid (¬ Dig sql k) := fun h => h57 (by have := h.2; rw [HB.out] at this; exact this)
            clear h57
            go_wp2_with fail
            go_quiet (fail)
            go_wp2_with fail
            refine bodyPost_ret (results_none Try.results11 _ _ _) rfl ?_
            exact ⟨rfl, k, HX.out.drewN _, hk2, HA.out, HD.out⟩
        · have h48d : decide ((48 : Int) ≤ ((sql[k]'hlt).toNat : Int)) = false := decide_eq_false h48
          have HD : Hid (¬ Dig sql k) := fun h => h48 (by have := h.1; rw [HB.out] at this; exact this)
          clear h48
          go_wp2_with fail
          go_quiet (fail)
          go_wp2_with fail
          refine bodyPost_ret (results_none Try.results11 _ _ _) rfl ?_
          exact ⟨rfl, k, HX.out.drewN _, hk2, HA.out, HD.out⟩
      · have hd : decide ((k : Int) < (sql.size : Int)) = false := decide_eq_false (by omega)
        have HD : Hid (¬ Dig sql k) := fun h => absurd (dig_size h) hlt
        go_wp2_with fail
        go_quiet (fail)
        go_wp2_with fail
        refine bodyPost_ret (results_none Try.results11 _ _ _) rfl ?_
        exact ⟨rfl, k, HX.out.drewN _, hk2, HA.out, HD.out⟩

set_option maxRecDepth 100000 in
set_option maxHeartbeats 2000000 in
/-- blockComment on MariaDB at the opener slash, star, M, bang. -/
theorem block_bang4 (b : Nat) (sql : ByteArray) (i : Nat) (w : World) (hs : sql.size ≤ 1048576) (hi : i + 4 ≤ sql.size) (hp : Lib.hasPrefix (sql.data.toList.drop i) [47, 42, 77, 33] = true) (hn : Lib.hasPrefix (sql.data.toList.drop i) [47, 42, 33] = false)
    (c0 : w.cell? ⟨b, 0, none⟩ = some (.string sql)) (c1 : w.cell? ⟨b, 1, none⟩ = some (.int .i64 (i : Int))) (c2 : w.cell? ⟨b, 2, none⟩ = some (.int .i32 3)) (f1 : w.frozen? ⟨b, 1, none⟩ = false) :
    Calls Try.prog 11 #[.pointer (some ⟨b, 0, none⟩)] w fun e w' => e = .returned (.tuple #[]) ∧ ∃ r, LexAt w w' b sql r ∧ DigEnd sql (i + 4) r := by
  have HP : Hid (Lib.hasPrefix (sql.data.toList.drop i) [47, 42, 77, 33] = true) := hp
  have HN : Hid (Lib.hasPrefix (sql.data.toList.drop i) [47, 42, 33] = false) := hn
  have i0 := idx0
  have i1 := idx1
  clear hp hn
  go_enter Try.func11, Try.ntmps11
  go_wp2_with fail
  go_loopg [12] 2 (fun g c wr => g = 2 ∧ c = .int .i64 0 ∧ w = wr ∨ g = 1 ∧ c = .int .i64 1 ∧ ∃ nq, wr = w.drewN nq)
  case atStart => exact Or.inl ⟨rfl, rfl, rfl⟩
  case round =>
    rcases hrel with ⟨rfl, rfl, rfl⟩ | ⟨rfl, rfl, nq, rfl⟩
    · go_wp2_with fail
      refine (at_no b sql ⟨#[47, 42, 33]⟩ i _ hs (by omega) (by exact c0) (by exact c1) HN.out).mono ?_
      rintro e w' ⟨rfl, n1, rfl⟩
      go_wp2_with fail
      go_roundg 1
      case measure => omega
      case rel => exact Or.inr ⟨rfl, rfl, _, rfl⟩
    go_wp2_with fail
    refine (at_yes b sql ⟨#[47, 42, 77, 33]⟩ i _ hs (by omega) (by exact c0) (by exact c1) HP.out).mono ?_
    rintro e w' ⟨rfl, n1, rfl⟩
    go_wp2_with fail
    have hx0 : LexAt w ((w.drewN (nq + n1)).setCell ⟨b, 1, none⟩ (.int .i64 ((i : Int) + 4))) b sql (i + 4) := by
      have h0 : LexAt w w b sql i := ⟨c0, c1, f1, fun _ _ => rfl, Below.refl _ _⟩
      exact (h0.drewN (nq + n1)).set (i + 4) _ (by omega)
    have HX0 : Hid (LexAt w ((w.drewN (nq + n1)).setCell ⟨b, 1, none⟩ (.int .i64 ((i : Int) + 4))) b sql (i + 4)) := hx0
    clear hx0
    go_loopg [] (sql.size - (i + 4)) (fun g wr => ∃ k : Nat, k ≤ sql.size ∧ g = sql.size - k ∧ i + 4 ≤ k ∧ LexAt w wr b sql k ∧ ∀ j, i + 4 ≤ j → j < k → Dig sql j)
    case atStart => exact ⟨i + 4, hi, rfl, Nat.le_refl _, HX0.out, fun j h1 h2 => by omega⟩
    case round =>
      obtain ⟨k, hk1, rfl, hk2, hx, hall⟩ := hrel
      have HA : Hid (∀ j, i + 4 ≤ j → j < k → Dig sql j) := hall
      have HX : Hid (LexAt w wr b sql k) := hx
      have k0 := hx.c0
      have k1 := hx.c1
      have k2 := hx.f1
      clear hall hx HX0 c0 c1 c2 f1
      by_cases hlt : k < sql.size
      · have hlt' : (k : Int) < (sql.size : Int) := by omega
        have hz : (0 : Int) ≤ (k : Int) := by omega
        have HB : Hid (bt sql k = ((sql[k]'hlt).toNat : Int)) := bt_at sql k hlt
        by_cases h48 : (48 : Int) ≤ ((sql[k]'hlt).toNat : Int)
        · by_cases h57 : ((sql[k]'hlt).toNat : Int) ≤ 57
          · have HD : Hid (Dig sql k) := ⟨by rw [HB.out]; exact h48, by rw [HB.out]; exact h57⟩
            go_wp2_with fail
            go_quiet (fail)
            go_wp2_with fail
            go_roundg (sql.size - (k + 1))
            case measure => omega
            case rel => exact ⟨k + 1, by omega, rfl, by omega, (HX.out.drewN _).set (k + 1) _ (by omega), all_snoc HA.out HD.out⟩
          · have h57d : decide (((sql[k]'hlt).toNat : Int) ≤ 57) = false := decide_eq_false h57
            have HD : Hid (¬ Dig sql k) := fun h => h57 (by have := h.2; rw [HB.out] at this; exact this)
            clear h57
            go_wp2_with fail
            go_quiet (fail)
            go_wp2_with fail
            refine bodyPost_ret (results_none Try.results11 _ _ _) rfl ?_
            exact ⟨rfl, k, HX.out.drewN _, hk2, HA.out, HD.out⟩
        · have h48d : decide ((48 : Int) ≤ ((sql[k]'hlt).toNat : Int)) = false := decide_eq_false h48
          have HD : Hid (¬ Dig sql k) := fun h => h48 (by have := h.1; rw [HB.out] at this; exact this)
          clear h48
          go_wp2_with fail
          go_quiet (fail)
          go_wp2_with fail
          refine bodyPost_ret (results_none Try.results11 _ _ _) rfl ?_
          exact ⟨rfl, k, HX.out.drewN _, hk2, HA.out, HD.out⟩
      · have hd : decide ((k : Int) < (sql.size : Int)) = false := decide_eq_false (by omega)
        have HD : Hid (¬ Dig sql k) := fun h => absurd (dig_size h) hlt
        go_wp2_with fail
        go_quiet (fail)
        go_wp2_with fail
        refine bodyPost_ret (results_none Try.results11 _ _ _) rfl ?_
        exact ⟨rfl, k, HX.out.drewN _, hk2, HA.out, HD.out⟩

theorem idx_at (s sub : ByteArray) (m J : Int) (w : World) (hs : s.size < 4294967281) (hm : w.cell? ⟨0, 0, none⟩ = some (.int .i64 m)) (h : Lib.index s.data.toList sub.data.toList = J) :
    Calls Try.prog 14 #[.string s, .string sub] w fun e w' => e = .returned (.int .i64 J) ∧ w' = w :=
  (Try.strings_Index s sub m w hs hm).mono fun e w' hh => by rw [h] at hh; exact hh

theorem cut_lt (s : ByteArray) (a : Nat) (hs : s.size ≤ 1048576) : (s.extract a s.size).size < 4294967281 := by
  rw [ByteArray.size_extract]; omega

set_option maxRecDepth 100000 in
set_option maxHeartbeats 2000000 in
/-- blockComment on MariaDB at another comment: to the first closing mark. -/
theorem block_some (b : Nat) (sql : ByteArray) (i q : Nat) (m : Int) (w : World) (hs : sql.size ≤ 1048576) (hi : i + 2 ≤ sql.size) (hn : Lib.hasPrefix (sql.data.toList.drop i) [47, 42, 33] = false) (hn4 : Lib.hasPrefix (sql.data.toList.drop i) [47, 42, 77, 33] = false)
    (hq : i + 2 ≤ q) (hq2 : q + 2 ≤ sql.size) (hx : Lib.index (sql.extract (i + 2) sql.size).data.toList [42, 47] = ((q - (i + 2) : Nat) : Int)) (hm : w.cell? ⟨0, 0, none⟩ = some (.int .i64 m))
    (c0 : w.cell? ⟨b, 0, none⟩ = some (.string sql)) (c1 : w.cell? ⟨b, 1, none⟩ = some (.int .i64 (i : Int))) (c2 : w.cell? ⟨b, 2, none⟩ = some (.int .i32 3)) (f1 : w.frozen? ⟨b, 1, none⟩ = false) :
    Calls Try.prog 11 #[.pointer (some ⟨b, 0, none⟩)] w fun e w' => e = .returned (.tuple #[]) ∧ LexAt w w' b sql (q + 2) := by
  have HN : Hid (Lib.hasPrefix (sql.data.toList.drop i) [47, 42, 33] = false) := hn
  have HN4 : Hid (Lib.hasPrefix (sql.data.toList.drop i) [47, 42, 77, 33] = false) := hn4
  have HI : Hid (Lib.index (sql.extract (i + 2) sql.size).data.toList [42, 47] = ((q - (i + 2) : Nat) : Int)) := hx
  have HL : Hid (LexAt w w b sql i) := ⟨c0, c1, f1, fun _ _ => rfl, Below.refl _ _⟩
  have i0 := idx0
  have i1 := idx1
  clear hn hn4 hx
  go_enter Try.func11, Try.ntmps11
  go_wp2_with fail
  go_loopg [12] 2 (fun g c wr => g = 2 ∧ c = .int .i64 0 ∧ w = wr ∨ g = 1 ∧ c = .int .i64 1 ∧ (∃ nq, wr = w.drewN nq) ∨ g = 0 ∧ c = .int .i64 2 ∧ LexAt w wr b sql i ∧ wr.cell? ⟨0, 0, none⟩ = some (.int .i64 m))
  case atStart => exact Or.inl ⟨rfl, rfl, rfl⟩
  case round =>
    rcases hrel with ⟨rfl, rfl, rfl⟩ | ⟨rfl, rfl, nq, rfl⟩ | ⟨rfl, rfl, hx, hm'⟩
    · go_wp2_with fail
      refine (at_no b sql ⟨#[47, 42, 33]⟩ i _ hs (by omega) (by exact c0) (by exact c1) HN.out).mono ?_
      rintro e w' ⟨rfl, n1, rfl⟩
      go_wp2_with fail
      go_roundg 1
      case measure => omega
      case rel => exact Or.inr (Or.inl ⟨rfl, rfl, _, rfl⟩)
    · go_wp2_with fail
      refine (at_no b sql ⟨#[47, 42, 77, 33]⟩ i _ hs (by omega) (by exact c0) (by exact c1) HN4.out).mono ?_
      rintro e w' ⟨rfl, n1, rfl⟩
      go_wp2_with fail
      go_roundg 0
      case measure => omega
      case rel => exact Or.inr (Or.inr ⟨rfl, rfl, HL.out.drewN _, hm⟩)
    · have hw2 : IntKind.i64.wrap ((i : Int) + 2) = (i : Int) + 2 := IntWalk.i64_in _ (by omega)
      have hz2 : (0 : Int) ≤ (i : Int) + 2 := by omega
      have hl2 : (i : Int) + 2 ≤ (sql.size : Int) := by omega
      have HX : Hid (LexAt w wr b sql i) := hx
      have k0 := hx.c0
      have k1 := hx.c1
      have k2 := hx.f1
      clear hx hm c0 c1 c2 f1
      go_wp2_with fail
      go_quiet ((go_at_call 14; exact Calls.quiet_of_same (idx_at _ _ m _ _ (cut_lt sql _ hs) (by exact hm') HI.out)))
      go_wp2_with fail
      refine bodyPost_ret (results_none Try.results11 _ _ _) rfl ?_
      exact ⟨rfl, (HX.out.drewN _).set (q + 2) _ (by omega)⟩

set_option maxRecDepth 100000 in
set_option maxHeartbeats 2000000 in
/-- blockComment on MariaDB at another comment: which is never closed. -/
theorem block_none (b : Nat) (sql : ByteArray) (i : Nat) (m : Int) (w : World) (hs : sql.size ≤ 1048576) (hi : i + 2 ≤ sql.size) (hn : Lib.hasPrefix (sql.data.toList.drop i) [47, 42, 33] = false) (hn4 : Lib.hasPrefix (sql.data.toList.drop i) [47, 42, 77, 33] = false)
    (hx : Lib.index (sql.extract (i + 2) sql.size).data.toList [42, 47] = -1) (hm : w.cell? ⟨0, 0, none⟩ = some (.int .i64 m))
    (c0 : w.cell? ⟨b, 0, none⟩ = some (.string sql)) (c1 : w.cell? ⟨b, 1, none⟩ = some (.int .i64 (i : Int))) (c2 : w.cell? ⟨b, 2, none⟩ = some (.int .i32 3)) (f1 : w.frozen? ⟨b, 1, none⟩ = false) :
    Calls Try.prog 11 #[.pointer (some ⟨b, 0, none⟩)] w fun e w' => e = .returned (.tuple #[]) ∧ LexAt w w' b sql sql.size := by
  have HN : Hid (Lib.hasPrefix (sql.data.toList.drop i) [47, 42, 33] = false) := hn
  have HN4 : Hid (Lib.hasPrefix (sql.data.toList.drop i) [47, 42, 77, 33] = false) := hn4
  have HI : Hid (Lib.index (sql.extract (i + 2) sql.size).data.toList [42, 47] = -1) := hx
  have HL : Hid (LexAt w w b sql i) := ⟨c0, c1, f1, fun _ _ => rfl, Below.refl _ _⟩
  have i0 := idx0
  have i1 := idx1
  clear hn hn4 hx
  go_enter Try.func11, Try.ntmps11
  go_wp2_with fail
  go_loopg [12] 2 (fun g c wr => g = 2 ∧ c = .int .i64 0 ∧ w = wr ∨ g = 1 ∧ c = .int .i64 1 ∧ (∃ nq, wr = w.drewN nq) ∨ g = 0 ∧ c = .int .i64 2 ∧ LexAt w wr b sql i ∧ wr.cell? ⟨0, 0, none⟩ = some (.int .i64 m))
  case atStart => exact Or.inl ⟨rfl, rfl, rfl⟩
  case round =>
    rcases hrel with ⟨rfl, rfl, rfl⟩ | ⟨rfl, rfl, nq, rfl⟩ | ⟨rfl, rfl, hx, hm'⟩
    · go_wp2_with fail
      refine (at_no b sql ⟨#[47, 42, 33]⟩ i _ hs (by omega) (by exact c0) (by exact c1) HN.out).mono ?_
      rintro e w' ⟨rfl, n1, rfl⟩
      go_wp2_with fail
      go_roundg 1
      case measure => omega
      case rel => exact Or.inr (Or.inl ⟨rfl, rfl, _, rfl⟩)
    · go_wp2_with fail
      refine (at_no b sql ⟨#[47, 42, 77, 33]⟩ i _ hs (by omega) (by exact c0) (by exact c1) HN4.out).mono ?_
      rintro e w' ⟨rfl, n1, rfl⟩
      go_wp2_with fail
      go_roundg 0
      case measure => omega
      case rel => exact Or.inr (Or.inr ⟨rfl, rfl, HL.out.drewN _, hm⟩)
    · have hw2 : IntKind.i64.wrap ((i : Int) + 2) = (i : Int) + 2 := IntWalk.i64_in _ (by omega)
      have hz2 : (0 : Int) ≤ (i : Int) + 2 := by omega
      have hl2 : (i : Int) + 2 ≤ (sql.size : Int) := by omega
      have HX : Hid (LexAt w wr b sql i) := hx
      have k0 := hx.c0
      have k1 := hx.c1
      have k2 := hx.f1
      clear hx hm c0 c1 c2 f1
      go_wp2_with fail
      go_quiet ((go_at_call 14; exact Calls.quiet_of_same (idx_at _ _ m _ _ (cut_lt sql _ hs) (by exact hm') HI.out)))
      go_wp2_with fail
      refine bodyPost_ret (results_none Try.results11 _ _ _) rfl ?_
      exact ⟨rfl, (HX.out.drewN _).set sql.size _ (by omega)⟩
end Go.Proofs.Qxb6603871a
