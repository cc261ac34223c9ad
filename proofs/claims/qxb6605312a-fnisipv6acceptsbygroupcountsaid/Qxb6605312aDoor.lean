/-
  SEAT b6605312a: isIPv6 on the nil text and on a text with an empty zone; ZZIsIPv6.
-/
import Derived.Test.Qxb6605312aParseA
import Derived.Test.Qxb6605312aParseB
import Derived.Test.Qxb6605312aParseC
import Derived.Test.Qxb6605312aParseD
namespace Go.Proofs.Qxb6605312a
open Go.RowKit

set_option maxRecDepth 100000 in
set_option maxHeartbeats 2000000 in
theorem parse_nil (w : World) : Calls Try.prog 22 #[.slice none 0 0] w fun e w' => e = .returned (.bool false) ∧ Below w.heap.size w w' := by
  have kc := fun (w : World) (C : Array Value) (n c : Nat) => Lib.run_convert_bytes_const (P := Try.prog) w 22 5 C n c Try.underlying22 Try.underlying5
  go_enter Try.func22, Try.ntmps22
  go_wp2_with fail
  refine (Try.bytes_IndexByte_nil 37 _).mono ?_
  rintro e w1 ⟨rfl, hw1⟩
  obtain rfl := hw1.symm
  go_wp2_with fail
  refine (Try.bytes_HasPrefix_e1 _ _ _ _ _ (by omega) _).mono ?_
  rintro e w1 ⟨rfl, rfl⟩
  go_wp2_with fail
  go_loop [0, 4, 5] (fun b gr ed => b = .slice none 0 0 ∧ gr = .int .i64 0 ∧ ed = .bool false) (fun _ _ _ => 0)
  case atStart => exact ⟨rfl, rfl, rfl⟩
  case round =>
    obtain ⟨rfl, rfl, rfl⟩ := hrel
    go_wp2_with fail
    go_ret
    exact ⟨rfl, (Below.refl _ _).alloc (Nat.le_refl _) _⟩

set_option maxRecDepth 100000 in
set_option maxHeartbeats 2000000 in
theorem parse_bare (g c : Nat) (T : List Int) (w : World) (hT : ∀ x ∈ T, Plain x) (hn : T.length ≤ 1000000) (ha : At w g 0 (T ++ [37])) :
    Calls Try.prog 22 #[.slice (some ⟨g, 0, none⟩) (T ++ [37]).length c] w fun e w' => e = .returned (.bool false) ∧ Below w.heap.size w w' := by
  obtain ⟨S, hS⟩ : ∃ S, S = T ++ [37] := ⟨_, rfl⟩
  have HIX : Hid (Lib.indexByte (Lib.bytesOf S) 37 = (T.length : Int)) := by rw [hS]; exact idx_hit [] T hT
  have HAS : Hid (At w g 0 S) := by rw [hS]; exact ha
  have hSL : S.length = T.length + 1 := by rw [hS]; simp
  rw [← hS]
  obtain ⟨L, hL⟩ : ∃ L, L = S.length := ⟨_, rfl⟩
  rw [← hL] at hSL ⊢
  have HL : Hid (L = S.length) := hL
  have hbi : ((T.length : Int) == (L : Int) - 1) = true := by rw [beq_iff_eq]; omega
  have hs1 : L ≤ T.length + 1 := by omega
  have hs2 : T.length + 1 ≤ L := by omega
  clear hS hSL hL ha hT
  go_enter Try.func22, Try.ntmps22
  go_wp2_with fail
  refine (Try.bytes_IndexByte g 0 L c S 37 _ HL.out.symm (by rw [HL.out]; exact HAS.out)).mono ?_
  rintro e w1 ⟨he, hw1⟩
  obtain rfl := hw1.symm
  rw [show (37 : Int).toNat.toUInt8 = 37 by decide, HIX.out] at he
  subst he
  clear HAS HIX HL
  go_wp2_with fail
  go_ret
  exact ⟨rfl, Below.refl _ _⟩

/-- What is written behind the groups. -/
def zpart (hz : Bool) (Z : List Int) : List Int := if hz = true then 37 :: Z else []
/-- The answer. -/
def wants (n : Nat) (el hz : Bool) (zl : Nat) : Bool := want n el && (!hz || decide (0 < zl))

theorem ints_at (l : List Int) (j : Nat) (hj : j < l.length) : (ints l)[j]? = some (.int .u8 (l.getD j 0)) := by
  unfold ints
  rw [List.getElem?_map, List.getElem?_eq_getElem hj, List.getD_eq_getElem?_getD, List.getElem?_eq_getElem hj]; rfl

theorem parse_any (v : Value) (B : Nat) (el : Bool) (at_ : Nat) (Gs : List (List Int)) (hz : Bool) (Z : List Int) (w : World) (hG : ∀ G ∈ Gs, Good G) (hn : Gs.length ≤ 4096) (hat : el = true → at_ ≤ Gs.length)
    (hv : Owns w B v (body el at_ 0 Gs ++ zpart hz Z)) : Calls Try.prog 22 #[v] w fun e w' => e = .returned (.bool (wants Gs.length el hz Z.length)) ∧ Below w.heap.size w w' := by
  have hbl := body_le el at_ Gs 0 hG
  have hpl := body_plain el at_ Gs 0 hG
  rcases hv.2 with ⟨rfl, h0⟩ | ⟨g, cap, cur, rfl, hB, hh, hlc, hcm, hcs, htk⟩
  · have hnil : body el at_ 0 Gs = [] ∧ zpart hz Z = [] := by
      have := List.eq_nil_of_length_eq_zero h0
      exact List.append_eq_nil_iff.1 this
    have hzf : hz = false := by
      cases hz with
      | false => rfl
      | true => have := hnil.2; simp [zpart] at this
    subst hzf
    have hgs : Gs = [] := by
      cases Gs with
      | nil => rfl
      | cons G Gs =>
        have h1 := (hG G (List.mem_cons_self ..)).1
        have h2 := congrArg List.length hnil.1
        simp only [body, List.length_append, List.length_nil] at h2
        omega
    subst hgs
    have hel : el = false := by
      cases el with
      | false => rfl
      | true =>
        have h1 := hat rfl
        simp at h1
        have h2 := hnil.1
        rw [body_end true at_ 0 ⟨rfl, h1.symm⟩] at h2
        cases h2
    subst hel
    exact parse_nil w
  · have hg : g < w.heap.size := (Array.getElem?_eq_some_iff.1 hh).1
    have hAt : At w g 0 (body el at_ 0 Gs ++ zpart hz Z) := fun j hj => by
      rw [Nat.zero_add, World.ownsRow.cellAt hv j (by omega), ints_at _ j hj]
    cases hz with
    | false =>
      have e0 : wants Gs.length el false Z.length = want Gs.length el := by simp [wants]
      have e1 : body el at_ 0 Gs ++ zpart false Z = body el at_ 0 Gs := by simp [zpart]
      rw [e1] at hAt hlc ⊢
      rw [e0]
      by_cases hp : el = true ∧ 0 = at_
      · exact parse_head g cap el at_ Gs w hg hG hn hat hp hlc hcm hAt
      · exact parse_plain g cap el at_ Gs w hg hG hn hat hp hlc hcm hAt
    | true =>
      have e1 : zpart true Z = 37 :: Z := by simp [zpart]
      rw [e1] at hAt hlc ⊢
      cases hZ : Z with
      | nil =>
        subst hZ
        have e0 : wants Gs.length el true ([] : List Int).length = false := by simp [wants]
        rw [e0]
        exact parse_bare g cap _ w hpl (by omega) hAt
      | cons z Z' =>
        rw [← hZ]
        have hZl : 1 ≤ Z.length := by rw [hZ]; simp
        have e0 : wants Gs.length el true Z.length = want Gs.length el := by simp [wants]; omega
        rw [e0]
        by_cases hp : el = true ∧ 0 = at_
        · exact parse_head_zone g cap el at_ Gs w hg hG hn hat hp Z hZl hlc hcm hAt
        · exact parse_plain_zone g cap el at_ Gs w hg hG hn hat hp Z hZl hlc hcm hAt

set_option maxRecDepth 100000 in
set_option maxHeartbeats 2000000 in
theorem zz_any (v : Value) (B : Nat) (el : Bool) (at_ : Nat) (Gs : List (List Int)) (hz : Bool) (Z : List Int) (w : World) (hG : ∀ G ∈ Gs, Good G) (hn : Gs.length ≤ 4096) (hat : el = true → at_ ≤ Gs.length)
    (hv : Owns w B v (body el at_ 0 Gs ++ zpart hz Z)) : Calls Try.prog 9 #[v] w fun e w' => e = .returned (.bool (wants Gs.length el hz Z.length)) ∧ Below w.heap.size w w' := by
  have HP : Hid (Calls Try.prog 22 #[v] w fun e w' => e = .returned (.bool (wants Gs.length el hz Z.length)) ∧ Below w.heap.size w w') := parse_any v B el at_ Gs hz Z w hG hn hat hv
  clear hG hat hv
  go_enter Try.func9, Try.ntmps9
  go_wp2_with fail
  refine HP.out.mono ?_
  rintro e w1 ⟨rfl, hb⟩
  have HB : Hid (Below w.heap.size w w1) := hb
  clear hb
  go_wp2_with fail
  go_ret
  exact ⟨rfl, HB.out⟩
end Go.Proofs.Qxb6605312a
