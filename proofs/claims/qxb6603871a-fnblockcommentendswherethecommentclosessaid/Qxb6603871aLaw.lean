/-
  THE WALK OF THE LAW OF SEAT b6603871a.
-/
import Derived.Test.Qxb6603871aDoor
namespace Go.Proofs.Qxb6603871a
open Go.RowKit

theorem hasAt_yes (s pre : ByteArray) (p : Nat) (hs : s.size ≤ 1048576) (hq : pre.size ≤ 1048576) (hp : p ≤ s.size) (w : World) (h : Lib.hasPrefix (s.data.toList.drop p) pre.data.toList = true) :
    Calls Try.prog 5 #[.string s, .int .i64 p, .string pre] w fun e w' => e = .returned (.bool true) ∧ ∃ n, w' = w.drewN n :=
  (hasAt_any s pre p hs hq hp w).mono fun e w' hh => by rw [h] at hh; exact hh
theorem hasAt_no (s pre : ByteArray) (p : Nat) (hs : s.size ≤ 1048576) (hq : pre.size ≤ 1048576) (hp : p ≤ s.size) (w : World) (h : Lib.hasPrefix (s.data.toList.drop p) pre.data.toList = false) :
    Calls Try.prog 5 #[.string s, .int .i64 p, .string pre] w fun e w' => e = .returned (.bool false) ∧ ∃ n, w' = w.drewN n :=
  (hasAt_any s pre p hs hq hp w).mono fun e w' hh => by rw [h] at hh; exact hh

theorem goes_nest (sql : ByteArray) (i : Nat) (kind m : Int) (hs : sql.size ≤ 1048576) (hi : Open sql i) (hk : (kind == 3) = false) : Goes sql i (ends sql 1 (i + 2)) kind m :=
  fun W b _ c0 c1 c2 f1 => block_nest b sql i kind W hs hi hk c0 c1 c2 f1
theorem goes_bang3 (sql : ByteArray) (i r : Nat) (m : Int) (hs : sql.size ≤ 1048576) (hi : i + 3 ≤ sql.size) (hp : Lib.hasPrefix (sql.data.toList.drop i) [47, 42, 33] = true) (hd : DigEnd sql (i + 3) r) : Goes sql i r 3 m :=
  fun W b _ c0 c1 c2 f1 => (block_bang3 b sql i W hs hi hp c0 c1 c2 f1).mono fun _ _ ⟨he, _, hx, hd'⟩ => ⟨he, digEnd_one hd' hd ▸ hx⟩
theorem goes_bang4 (sql : ByteArray) (i r : Nat) (m : Int) (hs : sql.size ≤ 1048576) (hi : i + 4 ≤ sql.size) (hp : Lib.hasPrefix (sql.data.toList.drop i) [47, 42, 77, 33] = true) (hn : Lib.hasPrefix (sql.data.toList.drop i) [47, 42, 33] = false) (hd : DigEnd sql (i + 4) r) : Goes sql i r 3 m :=
  fun W b _ c0 c1 c2 f1 => (block_bang4 b sql i W hs hi hp hn c0 c1 c2 f1).mono fun _ _ ⟨he, _, hx, hd'⟩ => ⟨he, digEnd_one hd' hd ▸ hx⟩
theorem goes_first (sql : ByteArray) (i r : Nat) (m : Int) (hs : sql.size ≤ 1048576) (hi : i + 2 ≤ sql.size) (hn : Lib.hasPrefix (sql.data.toList.drop i) [47, 42, 33] = false) (hn4 : Lib.hasPrefix (sql.data.toList.drop i) [47, 42, 77, 33] = false) (hf : FirstShut sql (i + 2) r) : Goes sql i r 3 m := by
  intro W b hm c0 c1 c2 f1
  rcases hf with ⟨q, hq, hsh, hall, rfl⟩ | ⟨hall, rfl⟩
  · have := shut_size hsh
    exact block_some b sql i q m W hs hi hn hn4 hq (by omega) (index_some sql (i + 2) q hq hsh hall) hm c0 c1 c2 f1
  · exact block_none b sql i m W hs hi hn hn4 (index_no sql (i + 2) hall) hm c0 c1 c2 f1
/-- A mark of three or four bytes has room. -/
theorem room (s pre : ByteArray) (p : Nat) (hp : p ≤ s.size) (h : Lib.hasPrefix (s.data.toList.drop p) pre.data.toList = true) : p + pre.size ≤ s.size := by
  by_cases hl : s.size < p + pre.size
  · rw [pre_long s pre p hl hp] at h; cases h
  · omega

set_option maxRecDepth 100000 in
set_option maxHeartbeats 2000000 in
theorem law_nest (sql : ByteArray) (i : Nat) (kind n m : Int) (prev : ByteArray) (cr be : Bool) (dp : Int) (bo en : Bool) (w : World) (hsz : sql.size + prev.size ≤ 1048576) (ho : Open sql i) (hk : (kind == 3) = false) (hm : w.cell? ⟨0, 0, none⟩ = some (.int .i64 m)) :
    Calls Try.prog 3 #[.string sql, .int .i64 (i : Int), .int .i32 kind, .int .i64 n, .string prev, .bool cr, .bool be, .int .i64 dp, .bool bo, .bool en] w fun e w' => e = .returned (.bool true) ∧ Below w.heap.size w w' := by
  have hz := open_size ho
  have hlt0 : i < sql.size := by omega
  have b0 : (((sql[i]'hlt0).toNat : Int) != 47) = false := by have := ho.1; rw [bt_at sql i hlt0] at this; simpa using this
  have b1 : (((sql[i + 1]'hz).toNat : Int) != 42) = false := by have := ho.2; rw [bt_at sql (i + 1) hz] at this; simpa using this
  have HO : Hid (Open sql i) := ho
  clear ho
  go_enter Try.func3, Try.ntmps3
  go_wp2_with fail
  refine (bytes_yes sql _ kind n prev cr be dp bo en hsz _).mono ?_
  rintro e w1 ⟨rfl, rfl⟩
  go_wp2_with fail
  refine (nest_any (sql.size - (i + 2)) sql (i + 2) _ _ (by omega) (by omega) (by omega) (by omega)).mono ?_
  rintro e w1 ⟨rfl, rfl⟩
  go_wp2_with fail
  refine (zz_any sql i _ kind n m prev cr be dp bo en _ (goes_nest sql i kind m (by omega) HO.out hk) hm).mono ?_
  rintro e w2 ⟨rfl, hb⟩
  go_wp2_with fail
  go_ret
  exact ⟨rfl, hb.alloc hb.size _⟩

set_option maxRecDepth 100000 in
set_option maxHeartbeats 2000000 in
theorem law_bang3 (sql : ByteArray) (i : Nat) (n m : Int) (prev : ByteArray) (cr be : Bool) (dp : Int) (bo en : Bool) (w : World) (hsz : sql.size + prev.size ≤ 1048576) (ho : Open sql i) (h3 : Lib.hasPrefix (sql.data.toList.drop i) [47, 42, 33] = true) (hm : w.cell? ⟨0, 0, none⟩ = some (.int .i64 m)) :
    Calls Try.prog 3 #[.string sql, .int .i64 (i : Int), .int .i32 3, .int .i64 n, .string prev, .bool cr, .bool be, .int .i64 dp, .bool bo, .bool en] w fun e w' => e = .returned (.bool true) ∧ Below w.heap.size w w' := by
  have hz := open_size ho
  have hlt0 : i < sql.size := by omega
  have b0 : (((sql[i]'hlt0).toNat : Int) != 47) = false := by have := ho.1; rw [bt_at sql i hlt0] at this; simpa using this
  have b1 : (((sql[i + 1]'hz).toNat : Int) != 42) = false := by have := ho.2; rw [bt_at sql (i + 1) hz] at this; simpa using this
  have H3 : Hid (Lib.hasPrefix (sql.data.toList.drop i) [47, 42, 33] = true) := h3
  have hr : i + 3 ≤ sql.size := room sql ⟨#[47, 42, 33]⟩ i (by omega) h3
  clear h3
  clear ho
  go_enter Try.func3, Try.ntmps3
  go_wp2_with fail
  refine (bytes_yes sql _ 3 n prev cr be dp bo en hsz _).mono ?_
  rintro e w1 ⟨rfl, rfl⟩
  go_wp2_with fail
  refine (hasAt_yes sql ⟨#[47, 42, 33]⟩ i (by omega) (by decide) (by omega) _ H3.out).mono ?_
  rintro e w1 ⟨rfl, n1, rfl⟩
  go_wp2_with fail
  refine (dig_any sql (i + 3) _ (by omega) (by omega) (by omega) _).mono ?_
  rintro e w1 ⟨r, rfl, hd, rfl⟩
  have HD : Hid (_) := hd
  clear hd
  go_wp2_with fail
  refine (zz_any sql i r 3 n m prev cr be dp bo en _ (goes_bang3 sql i r m (by omega) hr H3.out HD.out) (by exact hm)).mono ?_
  rintro e w2 ⟨rfl, hb⟩
  go_wp2_with fail
  go_ret
  exact ⟨rfl, ((below_drewN (Below.refl _ _) _).trans hb).alloc hb.size _⟩

set_option maxRecDepth 100000 in
set_option maxHeartbeats 2000000 in
theorem law_bang4 (sql : ByteArray) (i : Nat) (n m : Int) (prev : ByteArray) (cr be : Bool) (dp : Int) (bo en : Bool) (w : World) (hsz : sql.size + prev.size ≤ 1048576) (ho : Open sql i) (n3 : Lib.hasPrefix (sql.data.toList.drop i) [47, 42, 33] = false) (h4 : Lib.hasPrefix (sql.data.toList.drop i) [47, 42, 77, 33] = true) (hm : w.cell? ⟨0, 0, none⟩ = some (.int .i64 m)) :
    Calls Try.prog 3 #[.string sql, .int .i64 (i : Int), .int .i32 3, .int .i64 n, .string prev, .bool cr, .bool be, .int .i64 dp, .bool bo, .bool en] w fun e w' => e = .returned (.bool true) ∧ Below w.heap.size w w' := by
  have hz := open_size ho
  have hlt0 : i < sql.size := by omega
  have b0 : (((sql[i]'hlt0).toNat : Int) != 47) = false := by have := ho.1; rw [bt_at sql i hlt0] at this; simpa using this
  have b1 : (((sql[i + 1]'hz).toNat : Int) != 42) = false := by have := ho.2; rw [bt_at sql (i + 1) hz] at this; simpa using this
  have N3 : Hid (Lib.hasPrefix (sql.data.toList.drop i) [47, 42, 33] = false) := n3
  clear n3
  have H4 : Hid (Lib.hasPrefix (sql.data.toList.drop i) [47, 42, 77, 33] = true) := h4
  have hr : i + 4 ≤ sql.size := room sql ⟨#[47, 42, 77, 33]⟩ i (by omega) h4
  clear h4
  clear ho
  go_enter Try.func3, Try.ntmps3
  go_wp2_with fail
  refine (bytes_yes sql _ 3 n prev cr be dp bo en hsz _).mono ?_
  rintro e w1 ⟨rfl, rfl⟩
  go_wp2_with fail
  refine (hasAt_no sql ⟨#[47, 42, 33]⟩ i (by omega) (by decide) (by omega) _ N3.out).mono ?_
  rintro e w1 ⟨rfl, n1, rfl⟩
  go_wp2_with fail
  refine (hasAt_yes sql ⟨#[47, 42, 77, 33]⟩ i (by omega) (by decide) (by omega) _ H4.out).mono ?_
  rintro e w1 ⟨rfl, n2, rfl⟩
  go_wp2_with fail
  refine (dig_any sql (i + 4) _ (by omega) (by omega) (by omega) _).mono ?_
  rintro e w1 ⟨r, rfl, hd, rfl⟩
  have HD : Hid (_) := hd
  clear hd
  go_wp2_with fail
  refine (zz_any sql i r 3 n m prev cr be dp bo en _ (goes_bang4 sql i r m (by omega) hr H4.out N3.out HD.out) (by exact hm)).mono ?_
  rintro e w2 ⟨rfl, hb⟩
  go_wp2_with fail
  go_ret
  exact ⟨rfl, ((below_drewN (Below.refl _ _) _).trans hb).alloc hb.size _⟩

set_option maxRecDepth 100000 in
set_option maxHeartbeats 2000000 in
theorem law_first (sql : ByteArray) (i : Nat) (n m : Int) (prev : ByteArray) (cr be : Bool) (dp : Int) (bo en : Bool) (w : World) (hsz : sql.size + prev.size ≤ 1048576) (ho : Open sql i) (n3 : Lib.hasPrefix (sql.data.toList.drop i) [47, 42, 33] = false) (n4 : Lib.hasPrefix (sql.data.toList.drop i) [47, 42, 77, 33] = false) (hm : w.cell? ⟨0, 0, none⟩ = some (.int .i64 m)) :
    Calls Try.prog 3 #[.string sql, .int .i64 (i : Int), .int .i32 3, .int .i64 n, .string prev, .bool cr, .bool be, .int .i64 dp, .bool bo, .bool en] w fun e w' => e = .returned (.bool true) ∧ Below w.heap.size w w' := by
  have hz := open_size ho
  have hlt0 : i < sql.size := by omega
  have b0 : (((sql[i]'hlt0).toNat : Int) != 47) = false := by have := ho.1; rw [bt_at sql i hlt0] at this; simpa using this
  have b1 : (((sql[i + 1]'hz).toNat : Int) != 42) = false := by have := ho.2; rw [bt_at sql (i + 1) hz] at this; simpa using this
  have N3 : Hid (Lib.hasPrefix (sql.data.toList.drop i) [47, 42, 33] = false) := n3
  clear n3
  have N4 : Hid (Lib.hasPrefix (sql.data.toList.drop i) [47, 42, 77, 33] = false) := n4
  clear n4
  clear ho
  go_enter Try.func3, Try.ntmps3
  go_wp2_with fail
  refine (bytes_yes sql _ 3 n prev cr be dp bo en hsz _).mono ?_
  rintro e w1 ⟨rfl, rfl⟩
  go_wp2_with fail
  refine (hasAt_no sql ⟨#[47, 42, 33]⟩ i (by omega) (by decide) (by omega) _ N3.out).mono ?_
  rintro e w1 ⟨rfl, n1, rfl⟩
  go_wp2_with fail
  refine (hasAt_no sql ⟨#[47, 42, 77, 33]⟩ i (by omega) (by decide) (by omega) _ N4.out).mono ?_
  rintro e w1 ⟨rfl, n2, rfl⟩
  go_wp2_with fail
  refine (first_any sql (i + 2) _ (by omega) (by omega) (by omega) _).mono ?_
  rintro e w1 ⟨r, rfl, hd, rfl⟩
  have HD : Hid (_) := hd
  clear hd
  go_wp2_with fail
  refine (zz_any sql i r 3 n m prev cr be dp bo en _ (goes_first sql i r m (by omega) (by omega) N3.out N4.out HD.out) (by exact hm)).mono ?_
  rintro e w2 ⟨rfl, hb⟩
  go_wp2_with fail
  go_ret
  exact ⟨rfl, ((below_drewN (Below.refl _ _) _).trans hb).alloc hb.size _⟩
end Go.Proofs.Qxb6603871a
