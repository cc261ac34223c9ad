/-
  SEAT b6604071a: FnMoreStopsAtTheOnlyPlaceItCan: white space, skipSpace, more.
-/
import Derived.Test.Qxb6604071aClone
import Derived.Test.Qxb6604071aShelf
import Derived.Deep.LoopGhost
import Derived.Deep.QuietTactic
import Derived.BigQuiet
namespace Go.Proofs.Qxb6604071a
open Go.RowKit

/-- One of JSON's four white bytes. -/
def sp (c : Int) : Bool := c == 32 || c == 9 || c == 10 || c == 13
def z (zs : List Int) (k : Nat) : Int := zs.getD k 0

set_option maxRecDepth 100000 in
set_option maxHeartbeats 1000000 in
theorem space_any (c : Int) (w : World) : Calls Try.prog 22 #[.int .u8 c] w fun e w' => e = .returned (.bool (sp c)) ∧ w' = w := by
  by_cases h1 : (c == 32) = true
  · have HS : Hid (sp c = true) := by show sp c = true; simp [sp, h1]
    go_enter Try.func22, Try.ntmps22
    go_wp2
    all_goals (go_ret; exact ⟨ret_bool HS.out.symm, rfl⟩)
  · have h1' : (c == 32) = false := by simpa using h1
    by_cases h2 : (c == 9) = true
    · have HS : Hid (sp c = true) := by show sp c = true; simp [sp, h2]
      clear h1
      go_enter Try.func22, Try.ntmps22
      go_wp2
      all_goals (go_ret; exact ⟨ret_bool HS.out.symm, rfl⟩)
    · have h2' : (c == 9) = false := by simpa using h2
      by_cases h3 : (c == 10) = true
      · have HS : Hid (sp c = true) := by show sp c = true; simp [sp, h3]
        clear h1 h2
        go_enter Try.func22, Try.ntmps22
        go_wp2
        all_goals (go_ret; exact ⟨ret_bool HS.out.symm, rfl⟩)
      · have h3' : (c == 10) = false := by simpa using h3
        have HS : Hid (sp c = (c == 13)) := by show sp c = (c == 13); simp [sp, h1', h2', h3']
        clear h1 h2 h3
        go_enter Try.func22, Try.ntmps22
        go_wp2
        all_goals (go_ret; exact ⟨ret_bool HS.out.symm, rfl⟩)
theorem space_yes (c : Int) (w : World) (h : sp c = true) : Calls Try.prog 22 #[.int .u8 c] w fun e w' => e = .returned (.bool true) ∧ w' = w :=
  (space_any c w).mono fun e w' hh => by rw [h] at hh; exact hh
theorem space_no (c : Int) (w : World) (h : sp c = false) : Calls Try.prog 22 #[.int .u8 c] w fun e w' => e = .returned (.bool false) ∧ w' = w :=
  (space_any c w).mono fun e w' hh => by rw [h] at hh; exact hh

/-- What strings.IndexByte says of the four. -/
theorem four (c : Int) (h0 : 0 ≤ c) (h1 : c ≤ 255) : (sp c = true → ∃ J : Nat, J ≤ 3 ∧ Lib.indexByte [32, 9, 10, 13] c.toNat.toUInt8 = (J : Int)) ∧ (sp c = false → Lib.indexByte [32, 9, 10, 13] c.toNat.toUInt8 = -1) := by
  have key : ∀ d : Fin 256, (sp (d.val : Int) = true → ∃ J : Fin 4, Lib.indexByte [32, 9, 10, 13] ((d.val : Int)).toNat.toUInt8 = ((J.val : Nat) : Int)) ∧ (sp (d.val : Int) = false → Lib.indexByte [32, 9, 10, 13] ((d.val : Int)).toNat.toUInt8 = -1) := by decide +kernel
  obtain ⟨d, rfl⟩ := Int.eq_ofNat_of_zero_le h0
  obtain ⟨a, b⟩ := key ⟨d, by omega⟩
  exact ⟨fun h => let ⟨J, hJ⟩ := a h; ⟨J.val, by omega, hJ⟩, b⟩

/-- What is known of the reader's block b in the world wr: its text at block g, its place k; all below b as it was in w. -/
structure NameAt (w wr : World) (b g n : Nat) (zs : List Int) (k : Nat) : Prop where
  c0 : wr.cell? ⟨b, 0, none⟩ = some (.slice (some ⟨g, 0, none⟩) n n)
  c1 : wr.cell? ⟨b, 1, none⟩ = some (.int .i64 (k : Int))
  f1 : wr.frozen? ⟨b, 1, none⟩ = false
  cells : ∀ j, j < n → wr.cell? ⟨g, j, none⟩ = some (.int .u8 (z zs j))
  ne : g < b
  below : Below b w wr
theorem NameAt.drewN {w wr : World} {b g n : Nat} {zs : List Int} {k : Nat} (h : NameAt w wr b g n zs k) (m : Nat) : NameAt w (wr.drewN m) b g n zs k :=
  ⟨h.c0, h.c1, h.f1, h.cells, h.ne, below_drewN h.below m⟩
theorem NameAt.set {w wr : World} {b g n : Nat} {zs : List Int} {k : Nat} (h : NameAt w wr b g n zs k) (j : Nat) (J : Int) (hJ : J = (j : Int)) : NameAt w (wr.setCell ⟨b, 1, none⟩ (.int .i64 J)) b g n zs j := by
  subst hJ
  have hn := h.ne
  refine ⟨?_, World.cell?_setCell_same _ _ _ h.c1, ?_, fun o ho => ?_, h.ne, h.below.setCell (Nat.le_refl _) _⟩
  · rw [World.cell?_setCell_other _ _ _ _ (by simp)]; exact h.c0
  · have := h.f1; simpa using this
  · rw [World.cell?_setCell_other _ _ _ _ (fun e => by have := congrArg Addr.block e; simp at this; omega)]; exact h.cells o ho
theorem NameAt.trans {w w1 w2 : World} {b g n : Nat} {zs : List Int} {k j : Nat} (h : NameAt w w1 b g n zs k) (h2 : NameAt w1 w2 b g n zs j) : NameAt w w2 b g n zs j :=
  ⟨h2.c0, h2.c1, h2.f1, h2.cells, h2.ne, h.below.trans h2.below⟩

/-- The run of white bytes from k on ends at r. -/
def Runs (zs : List Int) (n k r : Nat) : Prop := k ≤ r ∧ r ≤ n ∧ (∀ j, k ≤ j → j < r → sp (z zs j) = true) ∧ (r < n → sp (z zs r) = false)

theorem all_snoc {Q : Nat → Prop} {p k : Nat} (h : ∀ j, p ≤ j → j < k → Q j) (hk : Q k) : ∀ j, p ≤ j → j < k + 1 → Q j := fun j h1 h2 => by
  by_cases e : j = k
  · subst e; exact hk
  · exact h j h1 (by omega)

theorem idx_at (s : ByteArray) (c J : Int) (w : World) (h : Lib.indexByte s.data.toList c.toNat.toUInt8 = J) :
    Calls Try.prog 28 #[.string s, .int .u8 c] w fun e w' => e = .returned (.int .i64 J) ∧ w' = w :=
  (Try.strings_IndexByte s c w).mono fun e w' hh => by rw [h] at hh; exact hh

set_option maxRecDepth 100000 in
set_option maxHeartbeats 2000000 in
theorem skip_any (b g n : Nat) (zs : List Int) (k0 : Nat) (w : World) (hn : n ≤ 1048576) (hk0 : k0 ≤ n) (hz : ∀ j, 0 ≤ z zs j ∧ z zs j ≤ 255) (hx : NameAt w w b g n zs k0) :
    Calls Try.prog 30 #[.pointer (some ⟨b, 0, none⟩)] w fun e w' => e = .returned (.tuple #[]) ∧ ∃ r, NameAt w w' b g n zs r ∧ Runs zs n k0 r := by
  have HZ : Hid (∀ j, 0 ≤ z zs j ∧ z zs j ≤ 255) := hz
  have HX0 : Hid (NameAt w w b g n zs k0) := hx
  clear hz hx
  go_enter Try.func30, Try.ntmps30
  go_wp2_with fail
  go_loopg [] (n - k0) (fun gh wr => ∃ k : Nat, k ≤ n ∧ gh = n - k ∧ k0 ≤ k ∧ NameAt w wr b g n zs k ∧ ∀ j, k0 ≤ j → j < k → sp (z zs j) = true)
  case atStart => exact ⟨k0, hk0, rfl, Nat.le_refl _, HX0.out, fun j h1 h2 => by omega⟩
  case round =>
    obtain ⟨k, hk1, rfl, hk2, hx, hall⟩ := hrel
    have HA : Hid (∀ j, k0 ≤ j → j < k → sp (z zs j) = true) := hall
    have HX : Hid (NameAt w wr b g n zs k) := hx
    have q0 := hx.c0
    have q1 := hx.c1
    have q2 := hx.f1
    clear hall hx HX0
    by_cases hlt : k < n
    · have hlt' : (k : Int) < (n : Int) := by omega
      have hz0 : (0 : Int) ≤ (k : Int) := by omega
      have qc : wr.cell? ⟨g, k, none⟩ = some (.int .u8 (z zs k)) := HX.out.cells k hlt
      have hzk := HZ.out k
      have h4 := four (z zs k) hzk.1 hzk.2
      by_cases hs : sp (z zs k) = true
      · obtain ⟨J, hJ3, hJ⟩ := h4.1 hs
        have HS : Hid (sp (z zs k) = true) := hs
        have HJ : Hid (Lib.indexByte [32, 9, 10, 13] (z zs k).toNat.toUInt8 = (J : Int)) := hJ
        clear h4 hs hJ
        go_wp2_with fail
        go_quiet ((go_at_call 28; exact Calls.quiet_of_same (idx_at _ _ _ _ HJ.out)))
        go_wp2_with fail
        go_roundg (n - (k + 1))
        case measure => omega
        case rel => exact ⟨k + 1, by omega, rfl, by omega, (HX.out.drewN _).set (k + 1) _ (by omega), all_snoc HA.out HS.out⟩
      · have hs' : sp (z zs k) = false := by simpa using hs
        have HJ : Hid (Lib.indexByte [32, 9, 10, 13] (z zs k).toNat.toUInt8 = -1) := h4.2 hs'
        have HS : Hid (sp (z zs k) = false) := hs'
        clear h4 hs hs'
        go_wp2_with fail
        go_quiet ((go_at_call 28; exact Calls.quiet_of_same (idx_at _ _ _ _ HJ.out)))
        go_wp2_with fail
        go_end0
        exact ⟨rfl, k, HX.out.drewN _, hk2, hk1, HA.out, fun _ => HS.out⟩
    · have hd : decide ((k : Int) < (n : Int)) = false := decide_eq_false (by omega)
      go_wp2_with fail
      go_quiet (fail)
      go_wp2_with fail
      go_end0
      exact ⟨rfl, k, HX.out.drewN _, hk2, hk1, HA.out, fun h => absurd h hlt⟩
end Go.Proofs.Qxb6604071a
