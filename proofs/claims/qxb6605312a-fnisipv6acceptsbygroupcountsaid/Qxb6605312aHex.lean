/-
  SEAT b6605312a: zzHexChar, zzAppendHex, isHexDigit.
-/
import Derived.Test.Qxb6605312aClone
import Derived.Test.Qxb6605312aPlain
import Derived.Maps.AppendAt
import Derived.Deep.LoopGhost
namespace Go.Proofs.Qxb6605312a
open Go.RowKit

theorem Try.info5 : (Try.prog.info? 5).map (fun i => (i.zero, i.size, i.bytes)) = some (some (.int .u8 0), 1, 1) := by kernel_rfl

set_option maxRecDepth 100000 in
set_option maxHeartbeats 1000000 in
theorem char_any (d : Int) (up : Bool) (h0 : 0 ≤ d) (h1 : d ≤ 15) (w : World) : Calls Try.prog 24 #[.int .u8 d, .bool up] w fun e w' => e = .returned (.int .u8 (hc d up)) ∧ w' = w := by
  by_cases h : d < 10
  · have HX : Hid (hc d up = 48 + d) := by show hc d up = _; unfold hc; rw [if_pos h]
    go_enter Try.func24, Try.ntmps24
    go_wp2
    go_ret
    exact ⟨ret_int (by rw [HX.out]), rfl⟩
  · cases up with
    | true =>
      have HX : Hid (hc d true = 55 + d) := by show hc d true = _; unfold hc; rw [if_neg h, if_pos rfl]
      go_enter Try.func24, Try.ntmps24
      go_wp2
      go_ret
      exact ⟨ret_int (by rw [HX.out]; omega), rfl⟩
    | false =>
      have HX : Hid (hc d false = 87 + d) := by show hc d false = _; unfold hc; rw [if_neg h, if_neg (by decide)]
      go_enter Try.func24, Try.ntmps24
      go_wp2
      go_ret
      exact ⟨ret_int (by rw [HX.out]; omega), rfl⟩

/-- The row of bytes l. -/
def ints (l : List Int) : List Value := l.map (Value.int .u8)
theorem ints_app (a b : List Int) : ints (a ++ b) = ints a ++ ints b := by simp [ints]
theorem ints_len (a : List Int) : (ints a).length = a.length := by simp [ints]
/-- The slice v is the call's own (at block B or later) and holds the bytes l. -/
def Owns (w : World) (B : Nat) (v : Value) (l : List Int) : Prop := w.ownsRow B 5 1 v l.length (ints l)
theorem Owns.blk {w : World} {B : Nat} {v : Value} {l : List Int} (h : Owns w B v l) : ∀ k, v.ownBlock = some k → B ≤ k := by
  intro k hk
  rcases h.2 with ⟨rfl, _⟩ | ⟨g, cap, cur, rfl, hb, _⟩
  · cases hk
  · cases hk; exact hb

theorem Owns.app {w : World} {B : Nat} {v : Value} {l : List Int} {c : Int} {n : Nat} {xs : List Value} (h : w.ownsRow B 5 1 v n xs) (hn : n = l.length + 1) (hx : xs = ints l ++ [.int .u8 c]) : Owns w B v (l ++ [c]) := by
  subst hn; subst hx
  unfold Owns
  rw [ints_app, List.length_append]
  exact h
theorem started_put (u : Int) (up : Bool) (k : Nat) (h : ¬ (dgt u k = 0 ∧ out u up k = [] ∧ k < 3)) : (!(out u up (k + 1)).isEmpty) = true := by
  rw [out_put u up k h]; simp

set_option maxRecDepth 100000 in
set_option maxHeartbeats 2000000 in
theorem hex_any (B : Nat) (v : Value) (X : List Int) (u : Int) (up : Bool) (w : World) (hB : B ≤ w.heap.size) (hown : Owns w B v X) (hX : X.length ≤ 100000) (_hu0 : 0 ≤ u) (_hu1 : u ≤ 65535) :
    Calls Try.prog 13 #[v, .int .u16 u, .bool up] w fun e w' => ∃ v', e = .returned v' ∧ Owns w' B v' (X ++ hexG up u) ∧ Below B w w' := by
  have HO0 : Hid (Owns w B v X) := hown
  obtain ⟨i0, hi, hz0, hz1, hz2⟩ := info_parts Try.info5
  clear hown
  go_enter Try.func13, Try.ntmps13
  go_wp2_with fail
  go_loopg [0, 7, 8] 4 (fun gh t s c wr => ∃ k : Nat, k ≤ 4 ∧ gh = 4 - k ∧ c = .int .i64 (12 - 4 * (k : Int)) ∧ s = .bool (!(out u up k).isEmpty) ∧ Owns wr B t (X ++ out u up k) ∧ Below B w wr)
  case atStart => exact ⟨0, by omega, rfl, by simp, rfl, by simpa [out] using HO0.out, Below.refl _ _⟩
  case round =>
    obtain ⟨k, hk, rfl, rfl, rfl, hown, hbel⟩ := hrel
    have HO : Hid (Owns wr B u0 (X ++ out u up k)) := hown
    have HB : Hid (Below B w wr) := hbel
    have hsz := hbel.size
    clear hown hbel HO0
    by_cases hlt : k < 4
    · have HDG : Hid (dgt u k = u / 2 ^ (12 - 4 * k) % 16) := rfl
      go_wp2_with fail
      · have h1 : u / 2 ^ (12 - 4 * k) % 16 = 0 := by assumption
        have h2 : out u up k = [] := by assumption
        have h3 : 4 * (k : Int) < 12 := by assumption
        have HE : Hid (out u up (k + 1) = out u up k) := out_skip u up k h1 h2 (by omega)
        have HE2 : Hid (out u up k = []) := h2
        clear h1 h2 h3
        go_roundg (4 - (k + 1))
        case measure => omega
        case rel => exact ⟨k + 1, by omega, rfl, by congr 1; omega, by rw [HE.out, HE2.out]; rfl, by rw [HE.out]; exact HO.out, HB.out⟩
      · have h1 : u / 2 ^ (12 - 4 * k) % 16 = 0 := by assumption
        have h3 : 12 ≤ 4 * (k : Int) := by assumption
        have hp : ¬ (dgt u k = 0 ∧ out u up k = [] ∧ k < 3) := by omega
        have HD : Hid (dgt u k = 0) := h1
        clear h1
        refine (char_any 0 up (by omega) (by omega) _).mono ?_
        rintro e w9 ⟨rfl, hw9⟩
        obtain rfl := hw9.symm
        go_wp2_with (first | (at_builtin; refine wpList_append_own _ rfl _ _ 22 rfl B 5 i0 (.int .u8 0) 1 1 Try.underlying22 hi hz0 hz1 hz2 rfl (by decide) _ _ _ rfl (HO.out.alloc _) ⟨wr.heap.size, 0, none⟩ 1 1 [.int .u8 (hc 0 up)] rfl rfl ?c1 ?c2 ?c3 ?c4 ?c5 ?_))
        case c1 => exact cell_one_new _ _ _
        case c2 => intro v hv; simp at hv; subst hv; rfl
        case c3 => have := out_le u up k; unfold maxLen; simp only [List.length_append]; omega
        case c4 => have := out_le u up k; simp only [List.length_append]; omega
        case c5 => simp; omega
        intro v1 w1 hown1 hgrow1 _
        have HO1 : Hid (Owns w1 B v1 (X ++ out u up (k + 1))) := by
          show Owns w1 B v1 (X ++ out u up (k + 1))
          rw [out_put u up k hp, ← List.append_assoc]
          have h2 : out u up k = [] := by assumption
          exact Owns.app hown1 (by rw [h2]; simp) (by rw [HD.out, h2]; simp)
        have HB1 : Hid (Below B w w1) := (HB.out.alloc (by omega) _).grown hgrow1 (by simp; omega) HO.out.blk
        have HS1 : Hid ((!(out u up (k + 1)).isEmpty) = true) := started_put u up k hp
        clear hown1 hgrow1 HO HB
        go_wp2_with fail
        go_roundg (4 - (k + 1))
        case measure => omega
        case rel => exact ⟨k + 1, by omega, rfl, by congr 1; omega, by rw [HS1.out], HO1.out, HB1.out⟩
      · have h1 : u / 2 ^ (12 - 4 * k) % 16 = 0 := by assumption
        have h3 : ¬ out u up k = [] := by assumption
        have hp : ¬ (dgt u k = 0 ∧ out u up k = [] ∧ k < 3) := fun h => h3 h.2.1
        have HD : Hid (dgt u k = 0) := h1
        clear h1 h3
        refine (char_any 0 up (by omega) (by omega) _).mono ?_
        rintro e w9 ⟨rfl, hw9⟩
        obtain rfl := hw9.symm
        go_wp2_with (first | (at_builtin; refine wpList_append_own _ rfl _ _ 22 rfl B 5 i0 (.int .u8 0) 1 1 Try.underlying22 hi hz0 hz1 hz2 rfl (by decide) _ _ _ rfl (HO.out.alloc _) ⟨wr.heap.size, 0, none⟩ 1 1 [.int .u8 (hc 0 up)] rfl rfl ?c1 ?c2 ?c3 ?c4 ?c5 ?_))
        case c1 => exact cell_one_new _ _ _
        case c2 => intro v hv; simp at hv; subst hv; rfl
        case c3 => have := out_le u up k; unfold maxLen; simp only [List.length_append]; omega
        case c4 => have := out_le u up k; simp only [List.length_append]; omega
        case c5 => simp; omega
        intro v1 w1 hown1 hgrow1 _
        have HO1 : Hid (Owns w1 B v1 (X ++ out u up (k + 1))) := by
          show Owns w1 B v1 (X ++ out u up (k + 1))
          rw [out_put u up k hp, ← List.append_assoc]
          exact Owns.app hown1 (by simp) (by rw [HD.out])
        have HB1 : Hid (Below B w w1) := (HB.out.alloc (by omega) _).grown hgrow1 (by simp; omega) HO.out.blk
        have HS1 : Hid ((!(out u up (k + 1)).isEmpty) = true) := started_put u up k hp
        clear hown1 hgrow1 HO HB
        go_wp2_with fail
        go_roundg (4 - (k + 1))
        case measure => omega
        case rel => exact ⟨k + 1, by omega, rfl, by congr 1; omega, by rw [HS1.out], HO1.out, HB1.out⟩
      · have h1 : ¬ u / 2 ^ (12 - 4 * k) % 16 = 0 := by assumption
        have hp : ¬ (dgt u k = 0 ∧ out u up k = [] ∧ k < 3) := fun h => h1 h.1
        have HD : Hid (dgt u k = u / 2 ^ (12 - 4 * k) % 16) := rfl
        clear h1
        refine (char_any (u / 2 ^ (12 - 4 * k) % 16) up (by omega) (by omega) _).mono ?_
        rintro e w9 ⟨rfl, hw9⟩
        obtain rfl := hw9.symm
        go_wp2_with (first | (at_builtin; refine wpList_append_own _ rfl _ _ 22 rfl B 5 i0 (.int .u8 0) 1 1 Try.underlying22 hi hz0 hz1 hz2 rfl (by decide) _ _ _ rfl (HO.out.alloc _) ⟨wr.heap.size, 0, none⟩ 1 1 [.int .u8 (hc (u / 2 ^ (12 - 4 * k) % 16) up)] rfl rfl ?c1 ?c2 ?c3 ?c4 ?c5 ?_))
        case c1 => exact cell_one_new _ _ _
        case c2 => intro v hv; simp at hv; subst hv; rfl
        case c3 => have := out_le u up k; unfold maxLen; simp only [List.length_append]; omega
        case c4 => have := out_le u up k; simp only [List.length_append]; omega
        case c5 => simp; omega
        intro v1 w1 hown1 hgrow1 _
        have HO1 : Hid (Owns w1 B v1 (X ++ out u up (k + 1))) := by
          show Owns w1 B v1 (X ++ out u up (k + 1))
          rw [out_put u up k hp, ← List.append_assoc]
          exact Owns.app hown1 (by simp) (by rw [HD.out])
        have HB1 : Hid (Below B w w1) := (HB.out.alloc (by omega) _).grown hgrow1 (by simp; omega) HO.out.blk
        have HS1 : Hid ((!(out u up (k + 1)).isEmpty) = true) := started_put u up k hp
        clear hown1 hgrow1 HO HB
        go_wp2_with fail
        go_roundg (4 - (k + 1))
        case measure => omega
        case rel => exact ⟨k + 1, by omega, rfl, by congr 1; omega, by rw [HS1.out], HO1.out, HB1.out⟩
    · have hk4 : k = 4 := by omega
      subst hk4
      go_wp2_with fail
      go_ret
      exact ⟨u0, rfl, HO.out, HB.out⟩

/-! ### isHexDigit -/
theorem or32 : ∀ c : Fin 256, (65 ≤ c.val → c.val ≤ 70 → bits .or .u8 (c.val : Int) 32 = (c.val : Int) + 32) ∧ (97 ≤ c.val → c.val ≤ 102 → bits .or .u8 (c.val : Int) 32 = (c.val : Int)) := by decide +kernel
set_option maxRecDepth 100000 in
set_option maxHeartbeats 2000000 in
theorem digit_yes (c : Int) (h : HexC c) (w : World) : Calls Try.prog 28 #[.int .u8 c] w fun e w' => e = .returned (.bool true) ∧ w' = w := by
  unfold HexC at h
  rcases h with ⟨h1, h2⟩ | ⟨h1, h2⟩ | ⟨h1, h2⟩
  · go_enter Try.func28, Try.ntmps28
    go_wp2
    go_ret
    exact ⟨rfl, rfl⟩
  · obtain ⟨n, rfl⟩ := Int.eq_ofNat_of_zero_le (show 0 ≤ c by omega)
    have hb := (or32 ⟨n, by omega⟩).1 (by show 65 ≤ n; omega) (by show n ≤ 70; omega)
    have hb' : bits .or .u8 (n : Int) 32 = (n : Int) + 32 := hb
    have hd : decide ((n : Int) + 32 ≤ 102) = true := decide_eq_true (by omega)
    clear hb
    go_enter Try.func28, Try.ntmps28
    go_wp2
    go_ret
    exact ⟨ret_bool (by simp), rfl⟩
  · obtain ⟨n, rfl⟩ := Int.eq_ofNat_of_zero_le (show 0 ≤ c by omega)
    have hb := (or32 ⟨n, by omega⟩).2 (by show 97 ≤ n; omega) (by show n ≤ 102; omega)
    have hb' : bits .or .u8 (n : Int) 32 = (n : Int) := hb
    clear hb
    go_enter Try.func28, Try.ntmps28
    go_wp2
    go_ret
    exact ⟨rfl, rfl⟩
set_option maxRecDepth 100000 in
set_option maxHeartbeats 2000000 in
theorem digit_no (w : World) : Calls Try.prog 28 #[.int .u8 58] w fun e w' => e = .returned (.bool false) ∧ w' = w := by
  have hb : bits .or .u8 58 32 = 58 := by decide
  go_enter Try.func28, Try.ntmps28
  go_wp2
  go_ret
  exact ⟨rfl, rfl⟩
end Go.Proofs.Qxb6605312a
