/-
  THE WALKS OF SEAT b6603871a: zzLexer, zzState.
-/
import Derived.Test.Qxb6603871aProg
import Derived.WalkKit
import Derived.Outline
import Derived.RegionTactic
import Derived.ChangeAlike
import Derived.BigRegion
import Derived.Below
import Derived.Deep.RegionHeld3
import Derived.Deep.DrawnRows
namespace Go.Proofs.Qxb6603871a
open Go.RowKit

set_option maxHeartbeats 400000 in
/-- zzLexer: a new block of ten cells. -/
theorem lexer_any (sql : ByteArray) (i kind n : Int) (prev : ByteArray) (cr be : Bool) (dp : Int) (bo en : Bool) (w : World) :
    Calls Try.prog 10 #[.string sql, .int .i64 i, .int .i32 kind, .int .i64 n, .string prev, .bool cr, .bool be, .int .i64 dp, .bool bo, .bool en] w fun e w' =>
      e = .returned (.pointer (some ⟨w.heap.size, 0, none⟩)) ∧ w' = w.alloc (.cells #[.string sql, .int .i64 i, .int .i32 kind, .int .i64 n, .string prev, .bool cr, .bool be, .int .i64 dp, .bool bo, .bool en] 33) := by
  go_enter Try.func10, Try.ntmps10
  go_wp2
  go_ret
  exact ⟨rfl, rfl⟩

set_option maxHeartbeats 1000000 in
theorem state_any (b : Nat) (sql : ByteArray) (i kind n : Int) (prev : ByteArray) (cr be : Bool) (dp : Int) (bo en : Bool) (w : World) (hb : b < w.heap.size)
    (c0 : w.cell? ⟨b, 0, none⟩ = some (.string sql)) (c1 : w.cell? ⟨b, 1, none⟩ = some (.int .i64 i)) (c2 : w.cell? ⟨b, 2, none⟩ = some (.int .i32 kind)) (c3 : w.cell? ⟨b, 3, none⟩ = some (.int .i64 n)) (c4 : w.cell? ⟨b, 4, none⟩ = some (.string prev))
    (c5 : w.cell? ⟨b, 5, none⟩ = some (.bool cr)) (c6 : w.cell? ⟨b, 6, none⟩ = some (.bool be)) (c7 : w.cell? ⟨b, 7, none⟩ = some (.int .i64 dp)) (c8 : w.cell? ⟨b, 8, none⟩ = some (.bool bo)) (c9 : w.cell? ⟨b, 9, none⟩ = some (.bool en)) :
    Calls Try.prog 12 #[.pointer (some ⟨b, 0, none⟩)] w fun e w' =>
      e = .returned (.agg #[.string sql, .int .i64 i, .int .i32 kind, .int .i64 n, .string prev, .bool cr, .bool be, .int .i64 dp, .bool bo, .bool en]) ∧ w' = (w.alloc (.cells #[.string sql, .int .i64 i, .int .i32 kind, .int .i64 n, .string prev, .bool cr, .bool be, .int .i64 dp, .bool bo, .bool en] 26)).drew := by
  have hne : w.heap.size ≠ b := Nat.ne_of_gt hb
  go_enter Try.func12, Try.ntmps12
  go_wp2
  go_region_held3 (fun w' => w'.cell? ⟨b, 0, none⟩ = some (.string sql) ∧ w'.cell? ⟨b, 1, none⟩ = some (.int .i64 i) ∧ w'.cell? ⟨b, 2, none⟩ = some (.int .i32 kind) ∧ w'.cell? ⟨b, 3, none⟩ = some (.int .i64 n) ∧ w'.cell? ⟨b, 4, none⟩ = some (.string prev) ∧ w'.cell? ⟨b, 5, none⟩ = some (.bool cr) ∧ w'.cell? ⟨b, 6, none⟩ = some (.bool be) ∧ w'.cell? ⟨b, 7, none⟩ = some (.int .i64 dp) ∧ w'.cell? ⟨b, 8, none⟩ = some (.bool bo) ∧ w'.cell? ⟨b, 9, none⟩ = some (.bool en)) (go_keep) (fail)
  go_wp2
  exact bodyPost_ret (v := .agg #[.string sql, .int .i64 i, .int .i32 kind, .int .i64 n, .string prev, .bool cr, .bool be, .int .i64 dp, .bool bo, .bool en]) (by simp [results, Try.results12, go_sem]) rfl ⟨rfl, rfl⟩
end Go.Proofs.Qxb6603871a
