/-
  SEAT b6604071a: the walk of FnEscapedUnitReadsBackEveryEncodedUnit.
-/
import Derived.Test.Qxb6604071aRead
import Derived.Maps.AppendAt
namespace Go.Proofs.Qxb6604071a
open Go.RowKit

set_option maxRecDepth 100000 in
set_option maxHeartbeats 2000000 in
theorem unit_great (u up : Int) (p : Option Addr) (len cap : Nat) (w : World) (hl : len ≤ maxLen) (hg : 1048576 < len) :
    Calls Try.prog 4 #[.int .u16 u, .int .u8 up, .slice p len cap] w fun e w' => e = .returned (.bool true) ∧ Below w.heap.size w w' := by
  have HD : Hid (decide (len ≤ 1048576) = false) := decide_eq_false (by omega)
  go_enter Try.func4, Try.ntmps4
  go_wp2_with fail
  refine (ubytes_any _ _ _ _ _ hl _).mono ?_
  rintro e w' ⟨he, rfl⟩
  rw [HD.out] at he
  subst he
  go_wp2_with fail
  go_ret
  exact ⟨rfl, Below.refl _ _⟩

/-- The text as it is written: backslash, u, k digits. -/
def dg (u : Int) (k : Nat) : Int := bits .and .u16 (u / 2 ^ (12 - 4 * k)) 15
def ub (up : Int) (k : Nat) : Bool := bits .and .u8 (up / 2 ^ k) 1 == 1
def txt (u up : Int) (k : Nat) : List Value := [.int .u8 92, .int .u8 117] ++ (List.range k).map fun j => .int .u8 (hx (dg u j) (ub up j))
theorem and15 (x : Int) (h0 : 0 ≤ x) (h1 : x < 65536) : bits .and .u16 x 15 = x % 16 := by
  obtain ⟨a, rfl⟩ := Int.eq_ofNat_of_zero_le h0
  show IntKind.u16.wrap ((BitVec.ofInt 16 ((a : Nat) : Int) &&& BitVec.ofInt 16 ((15 : Nat) : Int)).toNat : Int) = _
  rw [BitVec.toNat_and, BitVec.ofInt_natCast, BitVec.ofInt_natCast, BitVec.toNat_ofNat, BitVec.toNat_ofNat, Nat.mod_eq_of_lt (by omega), Nat.mod_eq_of_lt (by omega), show (15 : Nat) = 2 ^ 4 - 1 by decide, Nat.and_two_pow_sub_one_eq_mod, IntWalk.u16_in _ (by omega)]
  omega
theorem dg_in (u : Int) (h0 : 0 ≤ u) (h1 : u ≤ 65535) (k : Nat) : 0 ≤ dg u k ∧ dg u k ≤ 15 := by
  have a := Int.ediv_le_self (2 ^ (12 - 4 * k)) h0
  have b : 0 ≤ u / 2 ^ (12 - 4 * k) := Int.ediv_nonneg h0 (Int.le_of_lt (Int.pow_pos (by omega)))
  unfold dg
  rw [and15 _ b (by omega)]
  omega
theorem said_dg (u : Int) (h0 : 0 ≤ u) (h1 : u ≤ 65535) : said (dg u) 4 = u := by
  simp only [said, dg]
  rw [and15 _ (by omega) (by omega), and15 _ (by omega) (by omega), and15 _ (by omega) (by omega), and15 _ (by omega) (by omega)]
  omega
theorem txt_succ (u up : Int) (k : Nat) : txt u up (k + 1) = txt u up k ++ [.int .u8 (hx (dg u k) (ub up k))] := by
  simp [txt, List.range_succ]
theorem txt_tail (u up : Int) (ts : List Value) (k : Nat) (hk : k < 4) : (txt u up 4 ++ ts)[2 + k]? = some (.int .u8 (hx (dg u k) (ub up k))) := by
  have : k = 0 ∨ k = 1 ∨ k = 2 ∨ k = 3 := by omega
  rcases this with rfl | rfl | rfl | rfl <;> rfl

set_option maxRecDepth 100000 in
set_option maxHeartbeats 2000000 in
theorem unit_law (u up : Int) (p : Option Addr) (len cap : Nat) (zs : List Int) (w : World) (hl : len ≤ 1048576) (hr : IsRow .u8 w p len cap zs) (hu0 : 0 ≤ u) (hu1 : u ≤ 65535) :
    Calls Try.prog 4 #[.int .u16 u, .int .u8 up, .slice p len cap] w fun e w' => e = .returned (.bool true) ∧ Below w.heap.size w w' := by
  have HD : Hid (decide (len ≤ 1048576) = true) := decide_eq_true (by omega)
  have HR : Hid (IsRow .u8 w p len cap zs) := hr
  obtain ⟨i0, hi, hz0, hz1, hz2⟩ := info_parts Try.info5
  clear hr
  go_enter Try.func4, Try.ntmps4
  go_wp2_with fail
  refine (ubytes_any _ _ _ _ _ (by unfold maxLen; omega) _).mono ?_
  rintro e w' ⟨he, rfl⟩
  rw [HD.out] at he
  subst he
  go_wp2_with fail
  refine (clone_any _ _ _ zs _ HR.out hl).mono ?_
  rintro e w1 ⟨q, rfl, hb1, hq0, hq1⟩
  have HB1 : Hid (Below w'.heap.size w' w1) := hb1
  have HQ0 : Hid (q = none → len = 0) := hq0
  have HQ1 : Hid (∀ ad, q = some ad → ad = ⟨w'.heap.size, 0, none⟩ ∧ Cloned w' w1 w'.heap.size len zs) := hq1
  clear hb1 hq0 hq1 HR
  go_wp2_with (first | (at_make; refine wpList_make_own _ rfl _ _ 22 rfl w1.heap.size 5 i0 (.int .u8 0) 1 Try.underlying22 hi hz0 hz1 _ _ _ (6 + len) rfl rfl (by omega) ?c1 ?c2 ?c3 ?_))
  case c1 => rw [hz2]; omega
  case c2 => unfold maxLen; omega
  case c3 => exact Nat.le_refl _
  intro w2 hown2 hgrow2
  have HB2 : Hid (Below w1.heap.size w1 w2) := (Below.refl _ _).grown hgrow2 (Nat.le_refl _) (fun k hk => by cases hk)
  have hsz2 : w1.heap.size ≤ w2.heap.size := HB2.out.size
  clear hgrow2
  go_wp2_with (first | (at_builtin; refine wpList_append_fits _ rfl _ _ 22 rfl w1.heap.size 5 i0 1 Try.underlying22 hi hz1 w1.heap.size 0 (6 + len) [] rfl (hown2.alloc _) ⟨w2.heap.size, 0, none⟩ 2 2 [.int .u8 92, .int .u8 117] rfl rfl ?c1 ?c2 ?c3 ?_))
  case c1 => exact cell_two_new _ _ _ _
  case c2 => intro u hu; simp at hu; rcases hu with rfl | rfl <;> rfl
  case c3 => omega
  intro w3 hown3 hgrow3
  have HB3 : Hid (Below w1.heap.size w1 w3) := (HB2.out.alloc hsz2 _).grown hgrow3 (by simp; omega) (fun k hk => by cases hk; exact Nat.le_refl _)
  clear hgrow3 hown2 HB2 hsz2
  have HO3 : Hid (w3.ownsRow w1.heap.size 5 1 (.slice (some ⟨w1.heap.size, 0, none⟩) 2 (6 + len)) 2 (txt u up 0)) := hown3
  clear hown3
  go_wp2_with fail
  go_loopw [7, 8] (fun v i wr => ∃ k : Nat, k ≤ 4 ∧ i = .int .i64 k ∧ v = .slice (some ⟨w1.heap.size, 0, none⟩) (2 + k) (6 + len) ∧ wr.ownsRow w1.heap.size 5 1 (.slice (some ⟨w1.heap.size, 0, none⟩) (2 + k) (6 + len)) (2 + k) (txt u up k) ∧ Below w1.heap.size w1 wr) (fun _ i _ => 4 - (intOf i).toNat)
  case atStart => exact ⟨0, by omega, rfl, rfl, HO3.out, HB3.out⟩
  case round =>
    obtain ⟨k, hk, rfl, rfl, hown, hnx⟩ := hrel
    have HO : Hid (wr.ownsRow w1.heap.size 5 1 (.slice (some ⟨w1.heap.size, 0, none⟩) (2 + k) (6 + len)) (2 + k) (txt u up k)) := hown
    have HB : Hid (Below w1.heap.size w1 wr) := hnx
    have hsz := hnx.size
    clear hown hnx HO3 HB3
    by_cases hlt : k < 4
    · have hdd := dg_in u hu0 hu1 k
      go_wp2_with fail
      refine (hex_any (dg u k) (ub up k) hdd.1 hdd.2 _).mono ?_
      rintro e w9 ⟨rfl, rfl⟩
      go_wp2_with (first | (at_builtin; refine wpList_append_fits _ rfl _ _ 22 rfl w1.heap.size 5 i0 1 Try.underlying22 hi hz1 w1.heap.size (2 + k) (6 + len) (txt u up k) rfl (HO.out.alloc _) ⟨w9.heap.size, 0, none⟩ 1 1 [.int .u8 (hx (dg u k) (ub up k))] rfl rfl ?c1 ?c2 ?c3 ?_))
      case c1 => exact cell_one_new _ _ _
      case c2 => intro v hv; simp at hv; subst hv; rfl
      case c3 => omega
      intro w4 hown4 hgrow4
      have HB4 : Hid (Below w1.heap.size w1 w4) := (HB.out.alloc hsz _).grown hgrow4 (by simp; omega) (fun k hk => by cases hk; exact Nat.le_refl _)
      have HO4 : Hid (w4.ownsRow w1.heap.size 5 1 (.slice (some ⟨w1.heap.size, 0, none⟩) (2 + (k + 1)) (6 + len)) (2 + (k + 1)) (txt u up (k + 1))) := by rw [← txt_succ] at hown4; exact hown4
      clear hgrow4 hown4 HO HB
      go_wp2_with fail
      go_roundw
      case rel => exact ⟨k + 1, by omega, by go_num, rfl, HO4.out, HB4.out⟩
      case measure => simp [intOf]; omega
    · have hk4 : k = 4 := by omega
      subst hk4
      have hnews : ∀ ad, q = some ad → ∀ (j : Nat) v, (part .u8 zs len len)[j]? = some v → wr.cell? (ad.add j) = some v := by
        intro ad had j v hv
        obtain ⟨rfl, hcl⟩ := HQ1.out ad had
        have hj : j < len := by
          have := (List.getElem?_eq_some_iff.1 hv).1
          simpa [part] using this
        rw [addr_add, Nat.zero_add, HB.out.cell (p := ⟨w'.heap.size, j, none⟩) hcl.lt, hcl.own.cellAt j (by omega)]
        exact hv
      go_wp2_with (first | (at_builtin; refine wpList_append_fits_any _ rfl _ _ 22 rfl w1.heap.size 5 i0 1 Try.underlying22 hi hz1 w1.heap.size (2 + 4) (6 + len) (txt u up 4) rfl HO.out q len len (part .u8 zs len len) rfl ?c0 ?c1 hnews ?c2 ?c3 ?_))
      case c0 => simp [part]
      case c1 => intro h; exact ⟨HQ0.out h, HQ0.out h⟩
      case c2 => intro v hv; simp only [part, List.mem_map] at hv; obtain ⟨_, _, rfl⟩ := hv; rfl
      case c3 => omega
      intro w5 hown5 hgrow5
      have HB5 : Hid (Below w1.heap.size w1 w5) := HB.out.grown hgrow5 hsz (fun k hk => by cases hk; exact Nat.le_refl _)
      have HO5 : Hid (w5.ownsRow w1.heap.size 5 1 (.slice (some ⟨w1.heap.size, 0, none⟩) (6 + len) (6 + len)) (6 + len) (txt u up 4 ++ part .u8 zs len len)) := hown5
      clear hgrow5 hown5 HO HB hnews
      go_wp2_with fail
      refine (zzunit_any w1.heap.size (6 + len) (6 + len) (fun k => hx (dg u k) (ub up k)) (dg u) _ (by omega) (by omega) (Nat.le_refl _) (by omega) (by rw [HO5.out.cellAt 0 (by omega)]; rfl) (by rw [HO5.out.cellAt 1 (by omega)]; rfl) (fun k hk => by rw [HO5.out.cellAt (2 + k) (by omega)]; exact txt_tail u up _ k hk) (fun k hk => ?_) (fun k _ => dg_in u hu0 hu1 k)).mono ?_
      · obtain ⟨D, hD⟩ := Int.eq_ofNat_of_zero_le (dg_in u hu0 hu1 k).1
        have := (dg_in u hu0 hu1 k).2
        rw [hD]
        exact hexOf D _ (by omega)
      rintro e w6 ⟨rfl, rfl⟩
      have hfin : ((said (dg u) 4) == u) = true := by rw [said_dg u hu0 hu1]; simp
      go_wp2_with fail
      go_ret
      exact ⟨rfl, HB1.out.trans (HB5.out.mono HB1.out.size)⟩
end Go.Proofs.Qxb6604071a
