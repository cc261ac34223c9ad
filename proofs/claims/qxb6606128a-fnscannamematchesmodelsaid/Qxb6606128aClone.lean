/-
  SEAT b6606128a: the helper cloneBytes: a fresh copy of a row of bytes.
-/
import Derived.Test.Qxb6606128aProg
import Derived.WalkKit
import Derived.WalkSpells
import Derived.Outline
import Derived.Below
import Derived.WalkSmall
import Derived.Lib.SliceRun
namespace Go.Proofs.Qxb6606128a
open Go.RowKit

theorem ret_int {k : IntKind} {a b : Int} (h : a = b) : Ending.returned (.int k a) = .returned (.int k b) := by rw [h]
theorem ret_bool {a b : Bool} (h : a = b) : Ending.returned (.bool a) = .returned (.bool b) := by rw [h]

/-- A row of len numbers of which the first k are zs's, the others nought. -/
def part (kd : IntKind) (zs : List Int) (len k : Nat) : List Value := (List.range len).map fun j => .int kd (if j < k then zs.getD j 0 else 0)
theorem part_zero (kd : IntKind) (zs : List Int) (len : Nat) : part kd zs len 0 = List.replicate len (.int kd 0) := by
  refine List.ext_getElem? fun j => ?_
  by_cases h : j < len
  · simp [part, h]
  · simp [part, h]
theorem part_at (kd : IntKind) (zs : List Int) (len k j : Nat) (h : j < len) : (part kd zs len k)[j]? = some (.int kd (if j < k then zs.getD j 0 else 0)) := by
  simp [part, h]
theorem part_set (kd : IntKind) (zs : List Int) (len k : Nat) : (part kd zs len k).set k (.int kd (zs.getD k 0)) = part kd zs len (k + 1) := by
  refine List.ext_getElem? fun j => ?_
  rw [List.getElem?_set]
  by_cases e : k = j
  · subst e
    by_cases h : k < len
    · simp [part, h]
    · simp [part, h]
  · rw [if_neg e]
    by_cases h : j < len
    · simp only [part, List.getElem?_map, List.getElem?_range h, Option.map_some]
      by_cases h2 : j < k
      · rw [if_pos h2, if_pos (by omega)]
      · rw [if_neg h2, if_neg (by omega)]
    · simp [part, h]

theorem Try.info5 : (Try.prog.info? 5).map (fun i => (i.zero, i.size, i.bytes)) = some (some (.int .u8 0), 1, 1) := by kernel_rfl

set_option maxRecDepth 100000 in
set_option maxHeartbeats 1000000 in
theorem clone_nil (w : World) : Calls Try.prog 7 #[.slice none 0 0] w fun e w' => e = .returned (.slice none 0 0) ∧ w' = w := by
  have hq := fun (wx : World) (a : Option Addr) (n c : Nat) => Lib.run_eql_slice_nil (P := Try.prog) wx 22 5 a n c 0 0 Try.underlying22
  go_enter Try.func7, Try.ntmps7
  go_wp2
  go_ret
  exact ⟨rfl, rfl⟩

/-- What a clone is: a row of its own at block B of the world wr, whose cells are zs's. -/
structure Cloned (w wr : World) (B len : Nat) (zs : List Int) : Prop where
  below : Below B w wr
  lt : B < wr.heap.size
  own : wr.ownsRow B 5 1 (.slice (some ⟨B, 0, none⟩) len len) len (part .u8 zs len len)
theorem Cloned.cell {w wr : World} {B len : Nat} {zs : List Int} (h : Cloned w wr B len zs) (k : Nat) (hk : k < len) : wr.cell? ⟨B, k, none⟩ = some (.int .u8 (zs.getD k 0)) := by
  rw [h.own.cellAt k (by omega), part_at .u8 zs len len k hk, if_pos hk]

set_option maxRecDepth 100000 in
set_option maxHeartbeats 1000000 in
theorem clone_empty (x : Addr) (cap : Nat) (zs : List Int) (w : World) :
    Calls Try.prog 7 #[.slice (some x) 0 cap] w fun e w' => e = .returned (.slice (some ⟨w.heap.size, 0, none⟩) 0 0) ∧ Cloned w w' w.heap.size 0 zs := by
  have hq := fun (wx : World) (a : Option Addr) (n c : Nat) => Lib.run_eql_slice_nil (P := Try.prog) wx 22 5 a n c 0 0 Try.underlying22
  have hmk : ∀ w : World, (Instr.makeSlice 22 (.int .i64 0) (.int .i64 0)).run Try.prog w = .ok (.slice (some ⟨w.heap.size, 0, none⟩) 0 0) (w.alloc (.cells #[] 5)) := fun _ => by kernel_rfl
  go_enter Try.func7, Try.ntmps7
  go_wp2
  go_loop [4] (fun i => i = .int .i64 0) (fun _ => 0)
  case atStart => rfl
  case round =>
    subst hrel
    go_wp2
    go_ret
    exact ⟨rfl, (Below.refl _ _).alloc (Nat.le_refl _) _, by simp, rfl, Or.inr ⟨w.heap.size, 0, #[], rfl, Nat.le_refl _, by show (w.heap.push _)[w.heap.size]? = _; exact Array.getElem?_push_size, Nat.le_refl _, Nat.zero_le _, rfl, rfl⟩⟩

set_option maxRecDepth 100000 in
set_option maxHeartbeats 1000000 in
theorem clone_row (b off len cap : Nat) (zs : List Int) (w : World) (hl : len ≤ 1048576) (hb : b < w.heap.size)
    (hc : ∀ k, k < len → w.cell? ⟨b, off + k, none⟩ = some (.int .u8 (zs.getD k 0))) :
    Calls Try.prog 7 #[.slice (some ⟨b, off, none⟩) len cap] w fun e w' => e = .returned (.slice (some ⟨w.heap.size, 0, none⟩) len len) ∧ Cloned w w' w.heap.size len zs := by
  have hq := fun (wx : World) (a : Option Addr) (n c : Nat) => Lib.run_eql_slice_nil (P := Try.prog) wx 22 5 a n c 0 0 Try.underlying22
  have HC : Hid (∀ k, k < len → w.cell? ⟨b, off + k, none⟩ = some (.int .u8 (zs.getD k 0))) := hc
  clear hc
  obtain ⟨i0, hi, hz0, hz1, hz2⟩ := info_parts Try.info5
  go_enter Try.func7, Try.ntmps7
  go_wp2_with (at_make; refine wpList_make_full _ rfl _ _ 22 rfl w.heap.size 5 i0 (.int .u8 0) 1 Try.underlying22 hi hz0 hz1 _ _ _ _ len rfl rfl rfl rfl ?c1 ?c2 ?c3 ?_)
  case c1 => rw [hz2]; omega
  case c2 => unfold maxLen; omega
  case c3 => exact Nat.le_refl _
  intro w1 hown hgrow
  have hown1 : w1.ownsRow w.heap.size 5 1 (.slice (some ⟨w.heap.size, 0, none⟩) len len) len (part .u8 zs len 0) := by
    rw [part_zero]; rw [toList_madeCells_one] at hown; exact hown
  have HO : Hid (w1.ownsRow w.heap.size 5 1 (.slice (some ⟨w.heap.size, 0, none⟩) len len) len (part .u8 zs len 0)) := hown1
  have HB : Hid (Below w.heap.size w w1) := (Below.refl _ _).grown hgrow (Nat.le_refl _) (fun k hk => by cases hk)
  clear hown hown1 hgrow hi hz0 hz1 hz2 hq
  go_wp2
  go_loopw [4] (fun i wr => ∃ k : Nat, k ≤ len ∧ i = .int .i64 k ∧ wr.ownsRow w.heap.size 5 1 (.slice (some ⟨w.heap.size, 0, none⟩) len len) len (part .u8 zs len k) ∧ Below w.heap.size w wr) (fun i _ => len - (intOf i).toNat)
  case atStart => exact ⟨0, Nat.zero_le _, rfl, HO.out, HB.out⟩
  case round =>
    obtain ⟨k, hk, rfl, hown, hnx⟩ := hrel
    have HO' : Hid (wr.ownsRow w.heap.size 5 1 (.slice (some ⟨w.heap.size, 0, none⟩) len len) len (part .u8 zs len k)) := hown
    have HB' : Hid (Below w.heap.size w wr) := hnx
    clear HO HB
    by_cases hlt : k < len
    · have hcx : wr.cell? ⟨b, off + k, none⟩ = some (.int .u8 (zs.getD k 0)) := (hnx.cell (p := ⟨b, off + k, none⟩) hb).trans (HC.out k hlt)
      have hcy : wr.cell? ⟨w.heap.size, k, none⟩ = some (.int .u8 0) := by
        rw [hown.cellAt k (by omega), part_at .u8 zs len k k hlt, if_neg (by omega)]
      have hfy : wr.frozen? ⟨w.heap.size, k, none⟩ = false := hown.frozenAt k
      clear hown hnx
      go_wp2
      go_roundw
      case rel => exact ⟨k + 1, by omega, by go_num, by have := (HO'.out.stored k (.int .u8 (zs.getD k 0))).1; rw [part_set] at this; simpa using this, HB'.out.setCell (Nat.le_refl _) _⟩
      case measure => simp [intOf]; omega
    · clear hown hnx
      go_wp2
      go_ret
      have hk' : k = len := by omega
      subst hk'
      refine ⟨rfl, HB'.out, ?_, HO'.out⟩
      rcases HO'.out.2 with ⟨h, _⟩ | ⟨g, cp, cur, hv, _, hh, _⟩
      · cases h
      · simp only [Value.slice.injEq, Option.some.injEq, Addr.mk.injEq, and_true, true_and] at hv
        obtain ⟨rfl, _⟩ := hv
        exact (Array.getElem?_eq_some_iff.1 hh).1

/-- WHAT THE WALK IS TOLD OF A SLICE OF INTEGERS THAT CAME IN: it is nil; or it leads to a row of 'cap' cells, the numbers 'zs' (the first 'len' are its elements, the rest its spare room), each fitting its kind. -/
def IsRow (k : IntKind) (w : World) (a : Option Addr) (len cap : Nat) (zs : List Int) : Prop :=
  (a = none ∧ len = 0 ∧ cap = 0 ∧ zs = []) ∨
  ∃ x, a = some x ∧ len ≤ cap ∧ cap ≤ maxLen ∧ zs.length = cap ∧ (∀ i, i < zs.length → w.cell? (x.add i) = some (.int k (zs.getD i 0))) ∧ ∀ n ∈ zs, (Lit.int k n).wf = true

theorem addr_add (b off k : Nat) : (⟨b, off, none⟩ : Addr).add k = ⟨b, off + k, none⟩ := by
  by_cases h : k = 0 <;> simp [Addr.add, h]

theorem clone_any (a : Option Addr) (len cap : Nat) (zs : List Int) (w : World) (h : IsRow .u8 w a len cap zs) (hl : len ≤ 1048576) :
    Calls Try.prog 7 #[.slice a len cap] w fun e w' => ∃ q, e = .returned (.slice q len len) ∧ Below w.heap.size w w' ∧ (q = none → len = 0) ∧ ∀ ad, q = some ad → ad = ⟨w.heap.size, 0, none⟩ ∧ Cloned w w' w.heap.size len zs := by
  rcases h with ⟨rfl, rfl, rfl, rfl⟩ | ⟨x, rfl, h1, h2, h3, h4, _⟩
  · refine (clone_nil w).mono ?_
    rintro e w' ⟨rfl, rfl⟩
    exact ⟨none, rfl, Below.refl _ _, fun _ => rfl, fun ad h => by cases h⟩
  · by_cases h0 : len = 0
    · subst h0
      refine (clone_empty x cap zs w).mono ?_
      rintro e w' ⟨rfl, hcl⟩
      exact ⟨_, rfl, hcl.below, (fun h => by cases h), fun ad h => ⟨(Option.some.inj h).symm, hcl⟩⟩
    · obtain ⟨b, off, spot⟩ := x
      have hc := h4 0 (by omega)
      have hspot : spot = none := by simpa [Addr.add] using World.cell?_spot hc
      subst hspot
      have hb : b < w.heap.size := World.block_lt_of_cell? w _ hc
      refine (clone_row b off len cap zs w hl hb (fun k hk => by rw [← addr_add b off k]; exact h4 k (by omega))).mono ?_
      rintro e w' ⟨rfl, hcl⟩
      exact ⟨_, rfl, hcl.below, (fun h => by cases h), fun ad h => ⟨(Option.some.inj h).symm, hcl⟩⟩
end Go.Proofs.Qxb6606128a
