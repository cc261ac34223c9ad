/-
  THE PLAIN MATHEMATICS OF SEAT b6605312a: hexadecimal groups, the text that is written of them, what is left of it behind i groups. No Go in sight.
-/
import Derived.Lib.Bytes
import Derived.Lib.Bytealg
import Derived.RowKit
namespace Go.Proofs.Qxb6605312a

/-! ### a group's digits -/
/-- The digit d as it is written. -/
def hc (d : Int) (up : Bool) : Int := if d < 10 then 48 + d else if up then 55 + d else 87 + d
/-- A hexadecimal digit. -/
def HexC (c : Int) : Prop := 48 ≤ c ∧ c ≤ 57 ∨ 65 ≤ c ∧ c ≤ 70 ∨ 97 ≤ c ∧ c ≤ 102
theorem hexC_hc (d : Int) (up : Bool) (h0 : 0 ≤ d) (h1 : d ≤ 15) : HexC (hc d up) := by
  unfold hc HexC
  by_cases h : d < 10
  · rw [if_pos h]; omega
  · rw [if_neg h]
    cases up
    · rw [if_neg (by decide)]; omega
    · rw [if_pos rfl]; omega
/-- Digit k of v: the k-th of four. -/
def dgt (v : Int) (k : Nat) : Int := v / 2 ^ (12 - 4 * k) % 16
theorem dgt_in (v : Int) (k : Nat) : 0 ≤ dgt v k ∧ dgt v k ≤ 15 := by unfold dgt; omega
/-- What has been written of v behind k of its four digits: noughts ahead of the first other digit are left out. -/
def out (v : Int) (up : Bool) : Nat → List Int
  | 0 => []
  | k + 1 => if dgt v k = 0 ∧ out v up k = [] ∧ k < 3 then [] else out v up k ++ [hc (dgt v k) up]
theorem out_skip (v : Int) (up : Bool) (k : Nat) (h1 : dgt v k = 0) (h2 : out v up k = []) (h3 : k < 3) : out v up (k + 1) = out v up k := by
  rw [h2]; simp only [out]; rw [if_pos ⟨h1, h2, h3⟩]
theorem out_put (v : Int) (up : Bool) (k : Nat) (h : ¬ (dgt v k = 0 ∧ out v up k = [] ∧ k < 3)) : out v up (k + 1) = out v up k ++ [hc (dgt v k) up] := by
  simp only [out]; rw [if_neg h]
theorem out_le (v : Int) (up : Bool) : ∀ k, (out v up k).length ≤ k
  | 0 => Nat.le_refl _
  | k + 1 => by
    have ih := out_le v up k
    by_cases h : dgt v k = 0 ∧ out v up k = [] ∧ k < 3
    · rw [out_skip v up k h.1 h.2.1 h.2.2]; omega
    · rw [out_put v up k h]; simp; omega
theorem out_hex (v : Int) (up : Bool) : ∀ k, ∀ c ∈ out v up k, HexC c
  | 0 => fun c hc => by cases hc
  | k + 1 => fun c hcm => by
    have ih := out_hex v up k
    by_cases h : dgt v k = 0 ∧ out v up k = [] ∧ k < 3
    · rw [out_skip v up k h.1 h.2.1 h.2.2] at hcm; exact ih c hcm
    · rw [out_put v up k h] at hcm
      rcases List.mem_append.1 hcm with h1 | h1
      · exact ih c h1
      · rw [List.mem_singleton.1 h1]; exact hexC_hc _ _ (dgt_in v k).1 (dgt_in v k).2
/-- The group v, as it is written. -/
def hexG (up : Bool) (v : Int) : List Int := out v up 4
/-- What is known of a group. -/
def Good (G : List Int) : Prop := 1 ≤ G.length ∧ G.length ≤ 4 ∧ ∀ c ∈ G, HexC c
theorem good_hexG (up : Bool) (v : Int) : Good (hexG up v) := by
  refine ⟨?_, out_le v up 4, out_hex v up 4⟩
  unfold hexG
  rw [out_put v up 3 (by omega)]
  simp

/-! ### the text -/
/-- The mark ahead of group i: the elision, a colon, or nothing. -/
def sep (el : Bool) (at_ i : Nat) : List Int := if el = true ∧ i = at_ then [58, 58] else if 0 < i then [58] else []
/-- The text from group i on. -/
def body (el : Bool) (at_ : Nat) : Nat → List (List Int) → List Int
  | i, [] => if el = true ∧ i = at_ then [58, 58] else []
  | i, G :: Gs => sep el at_ i ++ (G ++ body el at_ (i + 1) Gs)
theorem sep_le (el : Bool) (at_ i : Nat) : (sep el at_ i).length ≤ 2 := by
  unfold sep
  split
  · simp
  · split <;> simp
theorem body_le (el : Bool) (at_ : Nat) : ∀ (Gs : List (List Int)) (i : Nat), (∀ G ∈ Gs, Good G) → (body el at_ i Gs).length ≤ 6 * Gs.length + 2
  | [], i, _ => by unfold body; split <;> simp
  | G :: Gs, i, h => by
    have ih := body_le el at_ Gs (i + 1) (fun G' hG => h G' (List.mem_cons_of_mem _ hG))
    have hg := (h G (List.mem_cons_self ..)).2.1
    have hs := sep_le el at_ i
    simp only [body, List.length_append, List.length_cons]
    omega
def Plain (c : Int) : Prop := HexC c ∨ c = 58
theorem sep_plain (el : Bool) (at_ i : Nat) : ∀ c ∈ sep el at_ i, Plain c := by
  intro c hc
  unfold sep at hc
  split at hc
  · simp at hc; exact Or.inr hc
  · split at hc
    · simp at hc; exact Or.inr hc
    · cases hc
theorem body_plain (el : Bool) (at_ : Nat) : ∀ (Gs : List (List Int)) (i : Nat), (∀ G ∈ Gs, Good G) → ∀ c ∈ body el at_ i Gs, Plain c
  | [], i, _, c, hc => by
    unfold body at hc
    split at hc
    · simp at hc; exact Or.inr hc
    · cases hc
  | G :: Gs, i, h, c, hc => by
    have ih := body_plain el at_ Gs (i + 1) (fun G' hG => h G' (List.mem_cons_of_mem _ hG))
    simp only [body] at hc
    rcases List.mem_append.1 hc with h1 | h1
    · exact sep_plain el at_ i c h1
    · rcases List.mem_append.1 h1 with h2 | h2
      · exact Or.inl ((h G (List.mem_cons_self ..)).2.2 c h2)
      · exact ih c h2
/-- What is left when the elision at the head is passed. -/
def strip (el : Bool) (at_ : Nat) : List (List Int) → List Int
  | [] => []
  | G :: Gs => G ++ body el at_ 1 Gs
theorem body_zero (el : Bool) (at_ : Nat) (Gs : List (List Int)) : body el at_ 0 Gs = (if el = true ∧ 0 = at_ then [58, 58] else []) ++ strip el at_ Gs := by
  cases Gs with
  | nil => simp [body, strip]
  | cons G Gs =>
    simp only [body, strip, sep]
    by_cases h : el = true ∧ 0 = at_
    · rw [if_pos h, if_pos h]
    · rw [if_neg h, if_neg h, if_neg (by omega)]

/-! ### the search for the zone's mark -/
theorem plain_byte {c : Int} (h : Plain c) : 0 ≤ c ∧ c ≤ 255 ∧ c ≠ 37 := by
  unfold Plain HexC at h; omega
theorem idx_cons (c : Int) (l : List UInt8) (h : Plain c) (k : Int) (hk : Lib.indexByte l 37 = k) (h0 : 0 ≤ k) : Lib.indexByte (UInt8.ofNat c.toNat :: l) 37 = k + 1 := by
  have hc := plain_byte h
  have hne : (UInt8.ofNat c.toNat == (37 : UInt8)) = false := by
    rw [beq_eq_false_iff_ne]
    intro e
    have := congrArg UInt8.toNat e
    simp at this
    omega
  have hk1 : (k == -1) = false := by rw [beq_eq_false_iff_ne]; omega
  simp only [Lib.indexByte, hne, hk, hk1]
  rfl
theorem idx_hit (r : List Int) : ∀ (l : List Int), (∀ c ∈ l, Plain c) → Lib.indexByte (Lib.bytesOf (l ++ 37 :: r)) 37 = (l.length : Int)
  | [], _ => by simp [Lib.bytesOf, Lib.indexByte]
  | c :: l, h => by
    have ih := idx_hit r l (fun d hd => h d (List.mem_cons_of_mem _ hd))
    have := idx_cons c _ (h c (List.mem_cons_self ..)) _ ih (by omega)
    simp only [Lib.bytesOf, List.cons_append, List.map_cons, List.length_cons] at this ⊢
    rw [this]; omega
theorem idx_none : ∀ (l : List Int), (∀ c ∈ l, Plain c) → Lib.indexByte (Lib.bytesOf l) 37 = -1
  | [], _ => rfl
  | c :: l, h => by
    have ih := idx_none l (fun d hd => h d (List.mem_cons_of_mem _ hd))
    have hc := plain_byte (h c (List.mem_cons_self ..))
    have hne : (UInt8.ofNat c.toNat == (37 : UInt8)) = false := by
      rw [beq_eq_false_iff_ne]
      intro e
      have := congrArg UInt8.toNat e
      simp at this
      omega
    unfold Lib.bytesOf at ih
    simp only [Lib.bytesOf, List.map_cons, Lib.indexByte, hne, ih]
    rfl

/-! ### the test for the elision at the head -/
theorem pre_two (l : List Int) (h : ∀ c ∈ l, Plain c) : Lib.hasPrefix (Lib.bytesOf l) (Lib.bytesOf [58, 58]) = true ↔ ∃ r, l = 58 :: 58 :: r := by
  have key : ∀ c : Int, Plain c → (UInt8.ofNat c.toNat = (58 : UInt8) ↔ c = 58) := by
    intro c hc
    have := plain_byte hc
    constructor
    · intro e
      have := congrArg UInt8.toNat e
      simp at this
      omega
    · intro e; subst e; rfl
  match l, h with
  | [], _ => simp [Lib.bytesOf, Lib.hasPrefix]
  | [c], _ => simp [Lib.bytesOf, Lib.hasPrefix]
  | c :: d :: r, h =>
    have k1 := key c (h c (by simp))
    have k2 := key d (h d (by simp))
    simp only [Lib.bytesOf, Lib.hasPrefix, List.map_cons, List.map_nil, List.isPrefixOf_cons_cons, Bool.and_eq_true, beq_iff_eq, List.isPrefixOf_nil_left, and_true]
    constructor
    · rintro ⟨a, b⟩
      have a' : UInt8.ofNat c.toNat = (58 : UInt8) := a.symm
      have b' : UInt8.ofNat d.toNat = (58 : UInt8) := b.symm
      exact ⟨r, by rw [k1.1 a', k2.1 b']⟩
    · rintro ⟨r', e⟩
      simp only [List.cons.injEq] at e
      obtain ⟨rfl, rfl, _⟩ := e
      exact ⟨rfl, rfl⟩
theorem hex_ne {c : Int} (h : HexC c) : c ≠ 58 ∧ c ≠ 46 := by unfold HexC at h; omega
/-- The text opens with the elision just where it is written there. -/
theorem body_two (el : Bool) (at_ : Nat) (Gs : List (List Int)) (hg : ∀ G ∈ Gs, Good G) : (∃ r, body el at_ 0 Gs = 58 :: 58 :: r) ↔ (el = true ∧ 0 = at_) := by
  rw [body_zero]
  by_cases h : el = true ∧ 0 = at_
  · rw [if_pos h]
    exact ⟨fun _ => h, fun _ => ⟨_, rfl⟩⟩
  · rw [if_neg h]
    refine ⟨fun ⟨r, e⟩ => ?_, fun k => absurd k h⟩
    cases Gs with
    | nil => simp [strip] at e
    | cons G Gs =>
      obtain ⟨h1, _, h3⟩ := hg G (List.mem_cons_self ..)
      cases G with
      | nil => simp at h1
      | cons c G =>
        simp only [strip, List.nil_append, List.cons_append, List.cons.injEq] at e
        exact absurd e.1 (hex_ne (h3 c (List.mem_cons_self ..))).1

/-! ### what stands at the head of what is left -/
theorem body_head (el : Bool) (at_ i : Nat) (Gs : List (List Int)) (hi : 1 ≤ i) : body el at_ i Gs = [] ∨ ∃ r, body el at_ i Gs = 58 :: r := by
  cases Gs with
  | nil =>
    simp only [body]
    split
    · exact Or.inr ⟨_, rfl⟩
    · exact Or.inl rfl
  | cons G Gs =>
    simp only [body, sep]
    split
    · exact Or.inr ⟨_, rfl⟩
    · rw [if_pos (by omega)]; exact Or.inr ⟨_, rfl⟩
theorem body_two_at (el : Bool) (at_ i : Nat) (G : List Int) (Gs : List (List Int)) (h : el = true ∧ i = at_) : body el at_ i (G :: Gs) = 58 :: 58 :: (G ++ body el at_ (i + 1) Gs) := by
  simp only [body, sep]; rw [if_pos h]; rfl
theorem body_one_at (el : Bool) (at_ i : Nat) (G : List Int) (Gs : List (List Int)) (hi : 1 ≤ i) (h : ¬ (el = true ∧ i = at_)) : body el at_ i (G :: Gs) = 58 :: (G ++ body el at_ (i + 1) Gs) := by
  simp only [body, sep]; rw [if_neg h, if_pos (by omega)]; rfl
theorem body_end (el : Bool) (at_ i : Nat) (h : el = true ∧ i = at_) : body el at_ i [] = [58, 58] := by simp only [body]; rw [if_pos h]
theorem body_end_no (el : Bool) (at_ i : Nat) (h : ¬ (el = true ∧ i = at_)) : body el at_ i [] = [] := by simp only [body]; rw [if_neg h]
end Go.Proofs.Qxb6605312a
