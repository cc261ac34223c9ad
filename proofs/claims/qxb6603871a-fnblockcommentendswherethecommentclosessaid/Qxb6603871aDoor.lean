/-
  THE WALKS OF SEAT b6603871a: ZZBlockComment.
-/
import Derived.Test.Qxb6603871aMaria
import Derived.Test.Qxb6603871aState
namespace Go.Proofs.Qxb6603871a
open Go.RowKit

/-- What blockComment does, wherever the reader lies: its place becomes r. -/
def Goes (sql : ByteArray) (i r : Nat) (kind m : Int) : Prop :=
  ∀ (W : World) (b : Nat), W.cell? ⟨0, 0, none⟩ = some (.int .i64 m) → W.cell? ⟨b, 0, none⟩ = some (.string sql) → W.cell? ⟨b, 1, none⟩ = some (.int .i64 (i : Int)) → W.cell? ⟨b, 2, none⟩ = some (.int .i32 kind) → W.frozen? ⟨b, 1, none⟩ = false →
    Calls Try.prog 11 #[.pointer (some ⟨b, 0, none⟩)] W fun e w' => e = .returned (.tuple #[]) ∧ LexAt W w' b sql r

set_option maxRecDepth 100000 in
set_option maxHeartbeats 2000000 in
theorem zz_any (sql : ByteArray) (i r : Nat) (kind n m : Int) (prev : ByteArray) (cr be : Bool) (dp : Int) (bo en : Bool) (w : World) (hg : Goes sql i r kind m) (hm : w.cell? ⟨0, 0, none⟩ = some (.int .i64 m)) :
    Calls Try.prog 9 #[.string sql, .int .i64 (i : Int), .int .i32 kind, .int .i64 n, .string prev, .bool cr, .bool be, .int .i64 dp, .bool bo, .bool en] w fun e w' =>
      e = .returned (.agg #[.string sql, .int .i64 (r : Int), .int .i32 kind, .int .i64 n, .string prev, .bool cr, .bool be, .int .i64 dp, .bool bo, .bool en]) ∧ Below w.heap.size w w' := by
  have h0 : 0 < w.heap.size := World.block_lt_of_cell? w ⟨0, 0, none⟩ hm
  go_enter Try.func9, Try.ntmps9
  go_wp2_with fail
  refine (lexer_any sql _ kind n prev cr be dp bo en _).mono ?_
  rintro e w1 ⟨rfl, rfl⟩
  go_wp2_with fail
  refine (hg _ (w.heap.size + 1) (by rw [World.cell?_alloc_past _ _ _ (by simp), World.cell?_alloc_past _ _ _ h0]; exact hm) (by rw [World.cell?_alloc_at _ _ _ _ (by simp)]; rfl) (by rw [World.cell?_alloc_at _ _ _ _ (by simp)]; rfl) (by rw [World.cell?_alloc_at _ _ _ _ (by simp)]; rfl) (by simp)).mono ?_
  rintro e w2 ⟨rfl, hx⟩
  have q0 := hx.c0
  have q1 := hx.c1
  have HR := hx.rest
  have q2 : w2.cell? ⟨w.heap.size + 1, 2, none⟩ = some (.int .i32 kind) := (HR 2 (by omega)).trans (by rw [World.cell?_alloc_at _ _ _ _ (by simp)]; rfl)
  have q3 : w2.cell? ⟨w.heap.size + 1, 3, none⟩ = some (.int .i64 n) := (HR 3 (by omega)).trans (by rw [World.cell?_alloc_at _ _ _ _ (by simp)]; rfl)
  have q4 : w2.cell? ⟨w.heap.size + 1, 4, none⟩ = some (.string prev) := (HR 4 (by omega)).trans (by rw [World.cell?_alloc_at _ _ _ _ (by simp)]; rfl)
  have q5 : w2.cell? ⟨w.heap.size + 1, 5, none⟩ = some (.bool cr) := (HR 5 (by omega)).trans (by rw [World.cell?_alloc_at _ _ _ _ (by simp)]; rfl)
  have q6 : w2.cell? ⟨w.heap.size + 1, 6, none⟩ = some (.bool be) := (HR 6 (by omega)).trans (by rw [World.cell?_alloc_at _ _ _ _ (by simp)]; rfl)
  have q7 : w2.cell? ⟨w.heap.size + 1, 7, none⟩ = some (.int .i64 dp) := (HR 7 (by omega)).trans (by rw [World.cell?_alloc_at _ _ _ _ (by simp)]; rfl)
  have q8 : w2.cell? ⟨w.heap.size + 1, 8, none⟩ = some (.bool bo) := (HR 8 (by omega)).trans (by rw [World.cell?_alloc_at _ _ _ _ (by simp)]; rfl)
  have q9 : w2.cell? ⟨w.heap.size + 1, 9, none⟩ = some (.bool en) := (HR 9 (by omega)).trans (by rw [World.cell?_alloc_at _ _ _ _ (by simp)]; rfl)
  have hz : w.heap.size + 1 < w2.heap.size := by have := hx.below.size; simp at this; omega
  have hc : ∀ o, w2.cell? ⟨w.heap.size, o, none⟩ = (#[.string ⟨#[]⟩, .int .i64 0, .int .i32 0, .int .i64 0, .string ⟨#[]⟩, .bool false, .bool false, .int .i64 0, .bool false, .bool false] : Array Value)[o]? := fun o =>
    (hx.below.cell (p := ⟨w.heap.size, o, none⟩) (by simp)).trans (by rw [World.cell?_alloc_past _ _ _ (by simp), World.cell?_alloc_at _ _ _ _ rfl])
  have hf : ∀ o, w2.frozen? ⟨w.heap.size, o, none⟩ = false := fun o => (hx.below.frozen (p := ⟨w.heap.size, o, none⟩) (by simp)).trans (by simp)
  have HB : Hid (Below w.heap.size w w2) := (((Below.refl w.heap.size w).alloc (Nat.le_refl _) _).alloc (by simp) _).trans (hx.below.mono (by simp))
  clear hx HR
  go_wp2_with fail
  refine (state_any (w.heap.size + 1) sql r kind n prev cr be dp bo en _ hz q0 q1 q2 q3 q4 q5 q6 q7 q8 q9).mono ?_
  rintro e w3 ⟨rfl, rfl⟩
  have hz' : w.heap.size < w2.heap.size := by omega
  go_wp2_with fail
  refine bodyPost_ret (v := .agg #[.string sql, .int .i64 (r : Int), .int .i32 kind, .int .i64 n, .string prev, .bool cr, .bool be, .int .i64 dp, .bool bo, .bool en]) ?_ rfl ⟨rfl, ?_⟩
  · simp [results, Try.results9, go_sem, hc, hz']
  · exact ((((((((((((HB.out.setCell (Nat.le_refl _) _).setCell (Nat.le_refl _) _).setCell (Nat.le_refl _) _).setCell (Nat.le_refl _) _).setCell (Nat.le_refl _) _).setCell (Nat.le_refl _) _).setCell (Nat.le_refl _) _).setCell (Nat.le_refl _) _).setCell (Nat.le_refl _) _).setCell (Nat.le_refl _) _).alloc (by simp [World.setCell]; omega) _).drew)
end Go.Proofs.Qxb6603871a
