/-
  THE WALK OF THE LAW OF SEAT b6603871a: the ways on which it answers true at once.
-/
import Derived.Test.Qxb6603871aScan
import Derived.Below
namespace Go.Proofs.Qxb6603871a
open Go.RowKit

set_option maxRecDepth 100000 in
set_option maxHeartbeats 2000000 in
theorem law_great (sql : ByteArray) (i kind n : Int) (prev : ByteArray) (cr be : Bool) (dp : Int) (bo en : Bool) (w : World) (h1 : sql.size ≤ maxLen) (h2 : prev.size ≤ maxLen) (hsz : 1048576 < sql.size + prev.size) :
    Calls Try.prog 3 #[.string sql, .int .i64 i, .int .i32 kind, .int .i64 n, .string prev, .bool cr, .bool be, .int .i64 dp, .bool bo, .bool en] w fun e w' => e = .returned (.bool true) ∧ Below w.heap.size w w' := by
  go_enter Try.func3, Try.ntmps3
  go_wp2_with fail
  refine (bytes_no sql _ kind n prev cr be dp bo en hsz h1 h2 _).mono ?_
  rintro e w1 ⟨rfl, rfl⟩
  go_wp2_with fail
  go_ret
  exact ⟨rfl, Below.refl _ _⟩

set_option maxRecDepth 100000 in
set_option maxHeartbeats 2000000 in
theorem law_neg (sql : ByteArray) (i kind n : Int) (prev : ByteArray) (cr be : Bool) (dp : Int) (bo en : Bool) (w : World) (hsz : sql.size + prev.size ≤ 1048576) (hi : i < 0) :
    Calls Try.prog 3 #[.string sql, .int .i64 i, .int .i32 kind, .int .i64 n, .string prev, .bool cr, .bool be, .int .i64 dp, .bool bo, .bool en] w fun e w' => e = .returned (.bool true) ∧ Below w.heap.size w w' := by
  go_enter Try.func3, Try.ntmps3
  go_wp2_with fail
  refine (bytes_yes sql _ kind n prev cr be dp bo en hsz _).mono ?_
  rintro e w1 ⟨rfl, rfl⟩
  go_wp2_with fail
  go_ret
  exact ⟨rfl, Below.refl _ _⟩

set_option maxRecDepth 100000 in
set_option maxHeartbeats 2000000 in
theorem law_past (sql : ByteArray) (i kind n : Int) (prev : ByteArray) (cr be : Bool) (dp : Int) (bo en : Bool) (w : World) (hsz : sql.size + prev.size ≤ 1048576) (hi0 : 0 ≤ i) (hi : (sql.size : Int) - 2 < i) :
    Calls Try.prog 3 #[.string sql, .int .i64 i, .int .i32 kind, .int .i64 n, .string prev, .bool cr, .bool be, .int .i64 dp, .bool bo, .bool en] w fun e w' => e = .returned (.bool true) ∧ Below w.heap.size w w' := by
  go_enter Try.func3, Try.ntmps3
  go_wp2_with fail
  refine (bytes_yes sql _ kind n prev cr be dp bo en hsz _).mono ?_
  rintro e w1 ⟨rfl, rfl⟩
  go_wp2_with fail
  go_ret
  exact ⟨rfl, Below.refl _ _⟩

set_option maxRecDepth 100000 in
set_option maxHeartbeats 2000000 in
theorem law_other (sql : ByteArray) (i : Nat) (kind n : Int) (prev : ByteArray) (cr be : Bool) (dp : Int) (bo en : Bool) (w : World) (hsz : sql.size + prev.size ≤ 1048576) (hi : i + 1 < sql.size) (hn : ¬ Open sql i) :
    Calls Try.prog 3 #[.string sql, .int .i64 (i : Int), .int .i32 kind, .int .i64 n, .string prev, .bool cr, .bool be, .int .i64 dp, .bool bo, .bool en] w fun e w' => e = .returned (.bool true) ∧ Below w.heap.size w w' := by
  have hlt0 : i < sql.size := by omega
  by_cases c0 : bt sql i = 47
  · have b0 : (((sql[i]'hlt0).toNat : Int) != 47) = false := by rw [bt_at sql i hlt0] at c0; simpa using c0
    have b1 : (((sql[i + 1]'hi).toNat : Int) != 42) = true := by
      have : ¬ bt sql (i + 1) = 42 := fun h => hn ⟨c0, h⟩
      rw [bt_at sql (i + 1) hi] at this; simpa using this
    clear hn c0
    go_enter Try.func3, Try.ntmps3
    go_wp2_with fail
    refine (bytes_yes sql _ kind n prev cr be dp bo en hsz _).mono ?_
    rintro e w1 ⟨rfl, rfl⟩
    go_wp2_with fail
    go_ret
    exact ⟨rfl, Below.refl _ _⟩
  · have b0 : (((sql[i]'hlt0).toNat : Int) != 47) = true := by rw [bt_at sql i hlt0] at c0; simpa using c0
    clear hn c0
    go_enter Try.func3, Try.ntmps3
    go_wp2_with fail
    refine (bytes_yes sql _ kind n prev cr be dp bo en hsz _).mono ?_
    rintro e w1 ⟨rfl, rfl⟩
    go_wp2_with fail
    go_ret
    exact ⟨rfl, Below.refl _ _⟩
end Go.Proofs.Qxb6603871a
