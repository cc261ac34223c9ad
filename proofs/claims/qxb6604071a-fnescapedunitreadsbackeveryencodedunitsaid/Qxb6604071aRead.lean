/-
  SEAT b6604071a: escapedUnit.
-/
import Derived.Test.Qxb6604071aUnit
namespace Go.Proofs.Qxb6604071a
open Go.RowKit

def hexs : ByteArray := ⟨#[48, 49, 50, 51, 52, 53, 54, 55, 56, 57, 97, 98, 99, 100, 101, 102, 65, 66, 67, 68, 69, 70]⟩
/-- The byte c is a way to write the digit d: J is its place among the twenty-two. -/
def HexOf (c d : Int) (J : Nat) : Prop := Lib.indexByte hexs.data.toList c.toNat.toUInt8 = (J : Int) ∧ J ≤ 21 ∧ (J < 16 ∧ d = (J : Int) ∨ 16 ≤ J ∧ d = (J : Int) - 6)
theorem hexOf (d : Nat) (up : Bool) (h : d ≤ 15) : ∃ J, HexOf (hx d up) d J := by
  have key : ∀ d : Fin 16, ∀ up : Bool, ∃ J : Fin 22, Lib.indexByte hexs.data.toList (hx (d.val : Int) up).toNat.toUInt8 = ((J.val : Nat) : Int) ∧ (J.val < 16 ∧ (d.val : Int) = (J.val : Int) ∨ 16 ≤ J.val ∧ (d.val : Int) = (J.val : Int) - 6) := by decide +kernel
  obtain ⟨J, h1, h2⟩ := key ⟨d, by omega⟩ up
  exact ⟨J.val, h1, by omega, h2⟩

theorem find_any (c d : Int) (J : Nat) (w : World) (h : HexOf c d J) :
    Calls Try.prog 28 #[.string hexs, .int .u8 c] w fun e w' => e = .returned (.int .i64 (J : Int)) ∧ w' = w :=
  (Try.strings_IndexByte hexs c w).mono fun e w' hh => by rw [h.1] at hh; exact hh

theorem or4 (x y : Int) (hx0 : 0 ≤ x) (hx : x ≤ 4095) (hy0 : 0 ≤ y) (hy : y < 16) : bits .or .i32 (x * 16) y = 16 * x + y := by
  obtain ⟨a, rfl⟩ := Int.eq_ofNat_of_zero_le hx0
  obtain ⟨b, rfl⟩ := Int.eq_ofNat_of_zero_le hy0
  rw [show ((a : Int) * 16) = ((a * 16 : Nat) : Int) by omega]
  show IntKind.i32.wrap ((BitVec.ofInt 32 ((a * 16 : Nat) : Int) ||| BitVec.ofInt 32 (b : Int)).toNat : Int) = _
  rw [BitVec.toNat_or, BitVec.ofInt_natCast, BitVec.ofInt_natCast, BitVec.toNat_ofNat, BitVec.toNat_ofNat, Nat.mod_eq_of_lt (by omega), Nat.mod_eq_of_lt (by omega)]
  have h := Nat.shiftLeft_add_eq_or_of_lt (i := 4) (b := b) (by omega) a
  rw [Nat.shiftLeft_eq, show (2 : Nat) ^ 4 = 16 by decide] at h
  rw [← h, IntWalk.i32_in _ (by omega)]
  omega

/-- What the first k digits say. -/
def said (d : Nat → Int) : Nat → Int
  | 0 => 0
  | k + 1 => 16 * said d k + d k
theorem said_le (d : Nat → Int) (h : ∀ k, k < 4 → 0 ≤ d k ∧ d k ≤ 15) : ∀ k, k ≤ 4 → 0 ≤ said d k ∧ said d k ≤ 65535 := by
  have h0 := h 0 (by omega)
  have h1 := h 1 (by omega)
  have h2 := h 2 (by omega)
  have h3 := h 3 (by omega)
  intro k hk
  have : k = 0 ∨ k = 1 ∨ k = 2 ∨ k = 3 ∨ k = 4 := by omega
  rcases this with rfl | rfl | rfl | rfl | rfl <;> simp only [said] <;> omega
theorem said_lt (d : Nat → Int) (h : ∀ k, k < 4 → 0 ≤ d k ∧ d k ≤ 15) (k : Nat) (hk : k < 4) : 0 ≤ said d k ∧ said d k ≤ 4095 := by
  have h0 := h 0 (by omega)
  have h1 := h 1 (by omega)
  have h2 := h 2 (by omega)
  have : k = 0 ∨ k = 1 ∨ k = 2 ∨ k = 3 := by omega
  rcases this with rfl | rfl | rfl | rfl <;> simp only [said] <;> omega

set_option maxRecDepth 100000 in
set_option maxHeartbeats 2000000 in
theorem unit_any (g n cap : Nat) (c d : Nat → Int) (w : World) (hn : 6 ≤ n) (hn2 : n ≤ 2000000) (hcap : n ≤ cap) (hcap2 : cap ≤ 2000000) (h0 : w.cell? ⟨g, 0, none⟩ = some (.int .u8 92)) (h1 : w.cell? ⟨g, 1, none⟩ = some (.int .u8 117))
    (hc : ∀ k, k < 4 → w.cell? ⟨g, 2 + k, none⟩ = some (.int .u8 (c k))) (hd : ∀ k, k < 4 → ∃ J, HexOf (c k) (d k) J) (hdb : ∀ k, k < 4 → 0 ≤ d k ∧ d k ≤ 15) :
    Calls Try.prog 24 #[.slice (some ⟨g, 0, none⟩) n cap] w fun e w' => e = .returned (.tuple #[.int .i32 (said d 4), .bool true]) ∧ w' = w := by
  have HC : Hid (∀ k, k < 4 → w.cell? ⟨g, 2 + k, none⟩ = some (.int .u8 (c k))) := hc
  have HD : Hid (∀ k, k < 4 → ∃ J, HexOf (c k) (d k) J) := hd
  have HL : Hid (∀ k, k < 4 → 0 ≤ said d k ∧ said d k ≤ 4095) := fun k hk => said_lt d hdb k hk
  have HDB : Hid (∀ k, k < 4 → 0 ≤ d k ∧ d k ≤ 15) := hdb
  have hdn : decide ((n : Int) < 6) = false := decide_eq_false (by omega)
  clear hc hd hdb
  go_enter Try.func24, Try.ntmps24
  go_wp2_with fail
  go_loop [4, 26] (fun u i => ∃ k : Nat, k ≤ 4 ∧ i = .int .i64 k ∧ u = .int .i32 (said d k)) (fun _ i => 4 - (intOf i).toNat)
  case atStart => exact ⟨0, Nat.zero_le _, rfl, rfl⟩
  case round =>
    obtain ⟨k, hk, rfl, rfl⟩ := hrel
    by_cases hlt : k < 4
    · have hcx := HC.out k hlt
      obtain ⟨J, hJ⟩ := HD.out k hlt
      have HJ : Hid (HexOf (c k) (d k) J) := hJ
      have hJ2 := hJ.2.1
      have hlo := HL.out k hlt
      have hdk := HDB.out k hlt
      clear hJ
      by_cases h16 : J < 16
      · go_wp2_with fail
        refine (find_any (c k) (d k) J _ HJ.out).mono ?_
        rintro e w' ⟨rfl, rfl⟩
        go_wp2_with fail
        have he : bits .or .i32 (said d k * 16) (J : Int) = said d (k + 1) := by
          rw [or4 _ _ hlo.1 hlo.2 (by omega) (by omega)]
          have := HJ.out.2.2
          simp only [said]
          omega
        go_round
        case rel => exact ⟨k + 1, by omega, by go_num, by rw [he]⟩
        case measure => simp [intOf]; omega
      · go_wp2_with fail
        refine (find_any (c k) (d k) J _ HJ.out).mono ?_
        rintro e w' ⟨rfl, rfl⟩
        go_wp2_with fail
        have he : bits .or .i32 (said d k * 16) ((J : Int) - 6) = said d (k + 1) := by
          rw [or4 _ _ hlo.1 hlo.2 (by omega) (by omega)]
          have := HJ.out.2.2
          simp only [said]
          omega
        go_round
        case rel => exact ⟨k + 1, by omega, by go_num, by rw [he]⟩
        case measure => simp [intOf]; omega
    · go_wp2_with fail
      go_ret2
      have hk' : k = 4 := by omega
      subst hk'
      exact ⟨rfl, rfl⟩

set_option maxRecDepth 100000 in
set_option maxHeartbeats 2000000 in
theorem zzunit_any (g n cap : Nat) (c d : Nat → Int) (w : World) (hn : 6 ≤ n) (hn2 : n ≤ 2000000) (hcap : n ≤ cap) (hcap2 : cap ≤ 2000000) (h0 : w.cell? ⟨g, 0, none⟩ = some (.int .u8 92)) (h1 : w.cell? ⟨g, 1, none⟩ = some (.int .u8 117))
    (hc : ∀ k, k < 4 → w.cell? ⟨g, 2 + k, none⟩ = some (.int .u8 (c k))) (hd : ∀ k, k < 4 → ∃ J, HexOf (c k) (d k) J) (hdb : ∀ k, k < 4 → 0 ≤ d k ∧ d k ≤ 15) :
    Calls Try.prog 11 #[.slice (some ⟨g, 0, none⟩) n cap] w fun e w' => e = .returned (.tuple #[.int .i32 (said d 4), .bool true]) ∧ w' = w := by
  have HU : Hid (Calls Try.prog 24 #[.slice (some ⟨g, 0, none⟩) n cap] w fun e w' => e = .returned (.tuple #[.int .i32 (said d 4), .bool true]) ∧ w' = w) := unit_any g n cap c d w hn hn2 hcap hcap2 h0 h1 hc hd hdb
  clear hc hd hdb h0 h1
  go_enter Try.func11, Try.ntmps11
  go_wp2_with fail
  refine HU.out.mono ?_
  rintro e w' ⟨rfl, rfl⟩
  go_wp2_with fail
  go_ret2
  exact ⟨rfl, rfl⟩
end Go.Proofs.Qxb6604071a
