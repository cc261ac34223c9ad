/-
  THE WALKS OF SEAT b6603871a: (*lexer).at, (*lexer).blockComment where the comments nest.
-/
import Derived.Test.Qxb6603871aShelf
import Derived.Test.Qxb6603871aScan
import Derived.WalkKit
import Derived.Outline
import Derived.Below
import Derived.WalkSmall
import Derived.Deep.LoopGhost
import Derived.Deep.QuietTactic
import Derived.BigQuiet
namespace Go.Proofs.Qxb6603871a
open Go.RowKit

/-- What is known of the reader's block b in the world wr: its text, its place k; all else of it as it was in w, and all below it. -/
structure LexAt (w wr : World) (b : Nat) (sql : ByteArray) (k : Nat) : Prop where
  c0 : wr.cell? ⟨b, 0, none⟩ = some (.string sql)
  c1 : wr.cell? ⟨b, 1, none⟩ = some (.int .i64 (k : Int))
  f1 : wr.frozen? ⟨b, 1, none⟩ = false
  rest : ∀ o, 2 ≤ o → wr.cell? ⟨b, o, none⟩ = w.cell? ⟨b, o, none⟩
  below : Below b w wr

theorem LexAt.drewN {w wr : World} {b : Nat} {sql : ByteArray} {k : Nat} (h : LexAt w wr b sql k) (n : Nat) : LexAt w (wr.drewN n) b sql k :=
  ⟨h.c0, h.c1, h.f1, h.rest, below_drewN h.below n⟩
theorem LexAt.set {w wr : World} {b : Nat} {sql : ByteArray} {k : Nat} (h : LexAt w wr b sql k) (j : Nat) (J : Int) (hJ : J = (j : Int)) : LexAt w (wr.setCell ⟨b, 1, none⟩ (.int .i64 J)) b sql j := by
  subst hJ
  refine ⟨?_, World.cell?_setCell_same _ _ _ h.c1, ?_, fun o ho => ?_, h.below.setCell (Nat.le_refl _) _⟩
  · rw [World.cell?_setCell_other _ _ _ _ (by simp)]; exact h.c0
  · have := h.f1; simpa using this
  · rw [World.cell?_setCell_other _ _ _ _ (fun e => by have := congrArg Addr.off e; simp at this; omega)]; exact h.rest o ho

set_option maxHeartbeats 400000 in
/-- (*lexer).at -/
theorem at_any (b : Nat) (sql pre : ByteArray) (i : Nat) (w : World) (_hs : sql.size ≤ 1048576) (hi : i ≤ sql.size)
    (c0 : w.cell? ⟨b, 0, none⟩ = some (.string sql)) (c1 : w.cell? ⟨b, 1, none⟩ = some (.int .i64 (i : Int))) :
    Calls Try.prog 13 #[.pointer (some ⟨b, 0, none⟩), .string pre] w fun e w' => e = .returned (.bool (Lib.hasPrefix (sql.data.toList.drop i) pre.data.toList)) ∧ ∃ n, w' = w.drewN n := by
  have h1 : (0 : Int) ≤ (i : Int) := by omega
  have h2 : (i : Int) ≤ (sql.size : Int) := by omega
  go_enter Try.func13, Try.ntmps13
  go_wp2
  go_quiet ((go_at_call 15; exact Calls.quiet_of_same (Try.strings_HasPrefix _ _ _)))
  go_wp2
  go_ret
  exact ⟨ret_bool (by rw [Lib.extract_to_end]), _, rfl⟩

theorem at_yes (b : Nat) (sql pre : ByteArray) (i : Nat) (w : World) (hs : sql.size ≤ 1048576) (hi : i ≤ sql.size)
    (c0 : w.cell? ⟨b, 0, none⟩ = some (.string sql)) (c1 : w.cell? ⟨b, 1, none⟩ = some (.int .i64 (i : Int))) (h : Lib.hasPrefix (sql.data.toList.drop i) pre.data.toList = true) :
    Calls Try.prog 13 #[.pointer (some ⟨b, 0, none⟩), .string pre] w fun e w' => e = .returned (.bool true) ∧ ∃ n, w' = w.drewN n :=
  (at_any b sql pre i w hs hi c0 c1).mono fun e w' hh => by rw [h] at hh; exact hh
theorem at_no (b : Nat) (sql pre : ByteArray) (i : Nat) (w : World) (hs : sql.size ≤ 1048576) (hi : i ≤ sql.size)
    (c0 : w.cell? ⟨b, 0, none⟩ = some (.string sql)) (c1 : w.cell? ⟨b, 1, none⟩ = some (.int .i64 (i : Int))) (h : Lib.hasPrefix (sql.data.toList.drop i) pre.data.toList = false) :
    Calls Try.prog 13 #[.pointer (some ⟨b, 0, none⟩), .string pre] w fun e w' => e = .returned (.bool false) ∧ ∃ n, w' = w.drewN n :=
  (at_any b sql pre i w hs hi c0 c1).mono fun e w' hh => by rw [h] at hh; exact hh
theorem not_true {b : Bool} {P : Prop} (h : b = true ↔ P) (n : ¬ P) : b = false := by
  cases b
  · rfl
  · exact absurd (h.1 rfl) n

set_option maxRecDepth 100000 in
set_option maxHeartbeats 2000000 in
/-- blockComment where the kind is not MariaDB: the comments nest. -/
theorem block_nest (b : Nat) (sql : ByteArray) (i : Nat) (kind : Int) (w : World) (hs : sql.size ≤ 1048576) (hi : Open sql i) (hk : (kind == 3) = false)
    (c0 : w.cell? ⟨b, 0, none⟩ = some (.string sql)) (c1 : w.cell? ⟨b, 1, none⟩ = some (.int .i64 (i : Int))) (c2 : w.cell? ⟨b, 2, none⟩ = some (.int .i32 kind)) (f1 : w.frozen? ⟨b, 1, none⟩ = false) :
    Calls Try.prog 11 #[.pointer (some ⟨b, 0, none⟩)] w fun e w' => e = .returned (.tuple #[]) ∧ LexAt w w' b sql (ends sql 1 (i + 2)) := by
  have HO : Hid (Open sql i) := hi
  have hz := open_size hi
  clear hi
  go_enter Try.func11, Try.ntmps11
  go_wp2_with fail
  go_loopg [5] (sql.size - i) (fun g d wr => ∃ k dn : Nat, k ≤ sql.size ∧ g = sql.size - k ∧ d = .int .i64 dn ∧ dn ≤ k ∧ LexAt w wr b sql k ∧ (dn = 0 ∧ k = i ∨ 1 ≤ dn ∧ ends sql dn k = ends sql 1 (i + 2)))
  case atStart => exact ⟨i, 0, by omega, by omega, rfl, by omega, ⟨c0, c1, f1, fun _ _ => rfl, Below.refl _ _⟩, Or.inl ⟨rfl, rfl⟩⟩
  case round =>
    obtain ⟨k, dn, hk1, rfl, rfl, hd1, hx, hd2⟩ := hrel
    have HD : Hid (dn = 0 ∧ k = i ∨ 1 ≤ dn ∧ ends sql dn k = ends sql 1 (i + 2)) := hd2
    have HX : Hid (LexAt w wr b sql k) := hx
    have k0 := hx.c0
    have k1 := hx.c1
    have k2 := hx.f1
    clear hd2 hx
    by_cases hlt : k < sql.size
    · have hlt' : (k : Int) < (sql.size : Int) := by omega
      by_cases ho : Open sql k
      · have hso := open_size ho
        have HE : Hid (dn = 0 ∧ k = i ∨ 1 ≤ dn ∧ ends sql (dn + 1) (k + 2) = ends sql 1 (i + 2)) := by
          rcases HD.out with h | ⟨h1, h2⟩
          · exact Or.inl h
          · exact Or.inr ⟨h1, by rw [← h2, ends_open sql dn k ho]⟩
        have HOK : Hid (Open sql k) := ho
        clear ho
        go_wp2_with fail
        go_quiet (fail)
        go_wp2_with fail
        refine (at_yes b sql ⟨#[47, 42]⟩ k _ hs hk1 (by exact k0) (by exact k1) ((pre_open sql k).2 HOK.out)).mono ?_
        rintro e w' ⟨rfl, n1, rfl⟩
        go_wp2_with fail
        go_roundg (sql.size - (k + 2))
        case measure => omega
        case rel => exact ⟨k + 2, dn + 1, by omega, by omega, by go_num, by omega, (by exact ((HX.out.drewN _).set (k + 2) _ (by omega))), by
          rcases HE.out with ⟨h1, h2⟩ | ⟨h1, h2⟩
          · subst h1; subst h2; exact Or.inr ⟨by omega, rfl⟩
          · exact Or.inr ⟨by omega, h2⟩⟩
      · have HNO : Hid (¬ Open sql k) := ho
        clear ho
        have hdn : 1 ≤ dn := by
          rcases HD.out with ⟨h1, h2⟩ | ⟨h1, h2⟩
          · subst h2; exact absurd HO.out HNO.out
          · exact h1
        have HE : Hid (ends sql dn k = ends sql 1 (i + 2)) := by
          rcases HD.out with ⟨h1, h2⟩ | ⟨h1, h2⟩
          · omega
          · exact h2
        by_cases hsh : Shut sql k
        · have HSO : Hid (k + 1 < sql.size) := shut_size hsh
          have HSH : Hid (Shut sql k) := hsh
          clear hsh
          by_cases hone : dn = 1
          · have HD0 : Hid (dn ≤ 1) := by show dn ≤ 1; omega
            have HONE : Hid (dn = 1) := hone
            clear hone
            go_wp2_with fail
            go_quiet (fail)
            go_wp2_with fail
            refine (at_no b sql ⟨#[47, 42]⟩ k _ hs hk1 (by exact k0) (by exact k1) (not_true (pre_open sql k) HNO.out)).mono ?_
            rintro e w' ⟨rfl, n1, rfl⟩
            go_wp2_with fail
            refine (at_yes b sql ⟨#[42, 47]⟩ k _ hs hk1 (by exact k0) (by exact k1) ((pre_shut sql k).2 HSH.out)).mono ?_
            rintro e w' ⟨rfl, n2, rfl⟩
            have hd0 := HD0.out
            go_wp2_with fail
            refine bodyPost_ret (results_none Try.results11 _ _ _) rfl ?_
            have he : k + 2 = ends sql 1 (i + 2) := by
              rw [← HE.out, HONE.out, ends_shut_one sql k HSH.out]
            exact ⟨rfl, he ▸ ((HX.out.drewN _).set (k + 2) _ (by omega))⟩
          · have HD2 : Hid (2 ≤ dn) := by show 2 ≤ dn; omega
            clear hone
            go_wp2_with fail
            go_quiet (fail)
            go_wp2_with fail
            refine (at_no b sql ⟨#[47, 42]⟩ k _ hs hk1 (by exact k0) (by exact k1) (not_true (pre_open sql k) HNO.out)).mono ?_
            rintro e w' ⟨rfl, n1, rfl⟩
            go_wp2_with fail
            refine (at_yes b sql ⟨#[42, 47]⟩ k _ hs hk1 (by exact k0) (by exact k1) ((pre_shut sql k).2 HSH.out)).mono ?_
            rintro e w' ⟨rfl, n2, rfl⟩
            have hdn2 := HD2.out
            go_wp2_with fail
            have hso := HSO.out
            go_roundg (sql.size - (k + 2))
            case measure => omega
            case rel => exact ⟨k + 2, dn - 1, by omega, by omega, by go_num, by omega, (by exact ((HX.out.drewN _).set (k + 2) _ (by omega))), Or.inr ⟨by omega, by rw [← HE.out, ends_shut_more sql dn k hdn2 HSH.out]⟩⟩
        · have HNS : Hid (¬ Shut sql k) := hsh
          clear hsh
          go_wp2_with fail
          go_quiet (fail)
          go_wp2_with fail
          refine (at_no b sql ⟨#[47, 42]⟩ k _ hs hk1 (by exact k0) (by exact k1) (not_true (pre_open sql k) HNO.out)).mono ?_
          rintro e w' ⟨rfl, n1, rfl⟩
          go_wp2_with fail
          refine (at_no b sql ⟨#[42, 47]⟩ k _ hs hk1 (by exact k0) (by exact k1) (not_true (pre_shut sql k) HNS.out)).mono ?_
          rintro e w' ⟨rfl, n2, rfl⟩
          go_wp2_with fail
          go_roundg (sql.size - (k + 1))
          case measure => omega
          case rel => exact ⟨k + 1, dn, by omega, by omega, by go_num, by omega, (by exact ((HX.out.drewN _).set (k + 1) _ (by omega))), Or.inr ⟨hdn, by rw [← HE.out, ends_step sql dn k hlt HNO.out HNS.out]⟩⟩
    · go_wp2_with fail
      go_quiet (fail)
      go_wp2_with fail
      go_end0
      have he : k = ends sql 1 (i + 2) := by
        rcases HD.out with ⟨h1, h2⟩ | ⟨h1, h2⟩
        · omega
        · rw [ends_out sql dn k (by omega)] at h2; omega
      exact ⟨rfl, he ▸ (HX.out.drewN _)⟩
end Go.Proofs.Qxb6603871a
