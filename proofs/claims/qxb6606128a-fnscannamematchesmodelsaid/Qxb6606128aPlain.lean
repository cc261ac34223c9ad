/-
  THE PLAIN MATHEMATICS OF SEAT b6606128a: the bytes of a name, and which name starts at an offset. No Go in sight.
-/
import Derived.Lib.Bytealg
namespace Go.Proofs.Qxb6606128a

/-- A letter or a digit. -/
def al (c : Int) : Bool := (decide (97 ≤ c) && decide (c ≤ 122)) || (decide (65 ≤ c) && decide (c ≤ 90)) || (decide (48 ≤ c) && decide (c ≤ 57))
/-- One of the four marks. -/
def pu (c : Int) : Bool := c == 95 || c == 45 || c == 46 || c == 47
/-- What may stand in a plain name behind its first byte. -/
def pl (c : Int) : Bool := al c || pu c
/-- What a run of a plain name goes over. -/
def rn (c : Int) : Bool := c == 32 || pl c
/-- What a quoted name may hold. -/
def okc (c : Int) : Bool := decide (32 ≤ c) && decide (c ≤ 126) && !(c == 92) && !(c == 34)
theorem al_iff (c : Int) : al c = true ↔ (97 ≤ c ∧ c ≤ 122) ∨ (65 ≤ c ∧ c ≤ 90) ∨ (48 ≤ c ∧ c ≤ 57) := by
  simp [al, or_assoc]
theorem okc_iff (c : Int) : okc c = true ↔ 32 ≤ c ∧ c ≤ 126 ∧ c ≠ 92 ∧ c ≠ 34 := by
  simp [okc, and_assoc]

/-! ### the name that starts at i -/
/-- Inside quotes: the first byte that is no part of the name stands at j. -/
def Quoted (z : Nat → Int) (n i j : Nat) : Prop := i + 1 ≤ j ∧ j ≤ n ∧ (∀ k, i + 1 ≤ k → k < j → okc (z k) = true) ∧ (j < n → okc (z j) = false)
/-- The run ends at q, the name at e. -/
def Plain (z : Nat → Int) (n i q e : Nat) : Prop := i + 1 ≤ e ∧ e ≤ q ∧ q ≤ n ∧ (∀ k, i + 1 ≤ k → k < q → rn (z k) = true) ∧ (q < n → rn (z q) = false) ∧ (∀ k, e ≤ k → k < q → z k = 32) ∧ (i + 1 < e → z (e - 1) ≠ 32)
/-- What the scan answers: none, or the name's end. -/
def Scan (z : Nat → Int) (n i : Nat) (r : Option Nat) : Prop :=
  (i = n ∧ r = none) ∨
  (i < n ∧ z i = 34 ∧ ∃ j, Quoted z n i j ∧ (j < n ∧ z j = 34 ∧ r = some (j + 1) ∨ (j < n → z j ≠ 34) ∧ r = none)) ∨
  (i < n ∧ z i ≠ 34 ∧ al (z i) = false ∧ r = none) ∨
  (i < n ∧ z i ≠ 34 ∧ al (z i) = true ∧ ∃ q e, Plain z n i q e ∧ r = some e)

theorem quoted_one {z : Nat → Int} {n i a b : Nat} (ha : Quoted z n i a) (hb : Quoted z n i b) : a = b := by
  obtain ⟨a1, a2, a3, a4⟩ := ha
  obtain ⟨b1, b2, b3, b4⟩ := hb
  rcases Nat.lt_trichotomy a b with h | h | h
  · have h1 := b3 a a1 h; have h2 := a4 (by omega); rw [h1] at h2; cases h2
  · exact h
  · have h1 := a3 b b1 h; have h2 := b4 (by omega); rw [h1] at h2; cases h2
theorem plain_one {z : Nat → Int} {n i q e q' e' : Nat} (ha : Plain z n i q e) (hb : Plain z n i q' e') : e = e' := by
  obtain ⟨a1, a2, a3, a4, a5, a6, a7⟩ := ha
  obtain ⟨b1, b2, b3, b4, b5, b6, b7⟩ := hb
  have hq : q = q' := by
    rcases Nat.lt_trichotomy q q' with h | h | h
    · have h1 := b4 q (by omega) h; have h2 := a5 (by omega); rw [h1] at h2; cases h2
    · exact h
    · have h1 := a4 q' (by omega) h; have h2 := b5 (by omega); rw [h1] at h2; cases h2
  subst hq
  rcases Nat.lt_trichotomy e e' with h | h | h
  · exact absurd (a6 (e' - 1) (by omega) (by omega)) (b7 (by omega))
  · exact h
  · exact absurd (b6 (e - 1) (by omega) (by omega)) (a7 (by omega))
theorem scan_one {z : Nat → Int} {n i : Nat} {r s : Option Nat} (ha : Scan z n i r) (hb : Scan z n i s) : r = s := by
  rcases ha with ⟨a1, rfl⟩ | ⟨a1, a2, j, a3, a4⟩ | ⟨a1, a2, a3, rfl⟩ | ⟨a1, a2, a3, q, e, a4, rfl⟩
  · rcases hb with ⟨b1, rfl⟩ | ⟨b1, _⟩ | ⟨b1, _⟩ | ⟨b1, _⟩
    · rfl
    all_goals omega
  · rcases hb with ⟨b1, rfl⟩ | ⟨b1, b2, j', b3, b4⟩ | ⟨b1, b2, _⟩ | ⟨b1, b2, _⟩
    · omega
    · have hj := quoted_one a3 b3
      subst hj
      rcases a4 with ⟨c1, c2, rfl⟩ | ⟨c1, rfl⟩
      · rcases b4 with ⟨d1, d2, rfl⟩ | ⟨d1, rfl⟩
        · rfl
        · exact absurd c2 (d1 c1)
      · rcases b4 with ⟨d1, d2, rfl⟩ | ⟨d1, rfl⟩
        · exact absurd d2 (c1 d1)
        · rfl
    · exact absurd a2 b2
    · exact absurd a2 b2
  · rcases hb with ⟨b1, rfl⟩ | ⟨b1, b2, _⟩ | ⟨b1, b2, b3, rfl⟩ | ⟨b1, b2, b3, _⟩
    · rfl
    · exact absurd b2 a2
    · rfl
    · rw [a3] at b3; cases b3
  · rcases hb with ⟨b1, rfl⟩ | ⟨b1, b2, _⟩ | ⟨b1, b2, b3, rfl⟩ | ⟨b1, b2, b3, q', e', b4, rfl⟩
    · omega
    · exact absurd b2 a2
    · rw [a3] at b3; cases b3
    · rw [plain_one a4 b4]

/-! ### reading at i is reading at 0 in what is left -/
theorem scan_shift {z : Nat → Int} {n i : Nat} {r : Option Nat} (hi : i ≤ n) (h : Scan (fun k => z (i + k)) (n - i) 0 r) : Scan z n i (r.map (i + ·)) := by
  have sh : ∀ k, i ≤ k → z k = (fun k => z (i + k)) (k - i) := fun k hk => by show z k = z (i + (k - i)); rw [show i + (k - i) = k by omega]
  rcases h with ⟨a1, rfl⟩ | ⟨a1, a2, j, ⟨q1, q2, q3, q4⟩, a4⟩ | ⟨a1, a2, a3, rfl⟩ | ⟨a1, a2, a3, q, e, ⟨p1, p2, p3, p4, p5, p6, p7⟩, rfl⟩
  · exact Or.inl ⟨by omega, rfl⟩
  · refine Or.inr (Or.inl ⟨by omega, by simpa using a2, i + j, ⟨by omega, by omega, fun k hk1 hk2 => ?_, fun h => ?_⟩, ?_⟩)
    · rw [sh k (by omega)]; exact q3 (k - i) (by omega) (by omega)
    · exact q4 (by omega)
    · rcases a4 with ⟨c1, c2, rfl⟩ | ⟨c1, rfl⟩
      · exact Or.inl ⟨by omega, c2, by simp; omega⟩
      · exact Or.inr ⟨fun h => c1 (by omega), rfl⟩
  · exact Or.inr (Or.inr (Or.inl ⟨by omega, by simpa using a2, by simpa using a3, rfl⟩))
  · refine Or.inr (Or.inr (Or.inr ⟨by omega, by simpa using a2, by simpa using a3, i + q, i + e, ⟨by omega, by omega, by omega, fun k hk1 hk2 => ?_, fun h => p5 (by omega), fun k hk1 hk2 => ?_, fun h => ?_⟩, rfl⟩))
    · rw [sh k (by omega)]; exact p4 (k - i) (by omega) (by omega)
    · rw [sh k (by omega)]; exact p6 (k - i) (by omega) (by omega)
    · have := p7 (by omega)
      rw [show i + e - 1 = i + (e - 1) by omega]; exact this

/-! ### the line cut just behind the name -/
theorem scan_cut {z : Nat → Int} {n i e : Nat} (h : Scan z n i (some e)) : Scan z e i (some e) ∧ i < e ∧ e ≤ n ∧ z (e - 1) ≠ 32 := by
  rcases h with ⟨_, h⟩ | ⟨a1, a2, j, ⟨q1, q2, q3, q4⟩, a4⟩ | ⟨_, _, _, h⟩ | ⟨a1, a2, a3, q, e', ⟨p1, p2, p3, p4, p5, p6, p7⟩, h⟩
  · cases h
  · rcases a4 with ⟨c1, c2, h⟩ | ⟨_, h⟩
    · cases h
      refine ⟨Or.inr (Or.inl ⟨by omega, a2, j, ⟨q1, by omega, q3, fun _ => q4 c1⟩, Or.inl ⟨by omega, c2, rfl⟩⟩), by omega, by omega, ?_⟩
      rw [show j + 1 - 1 = j by omega, c2]; decide
    · cases h
  · cases h
  · cases h
    refine ⟨Or.inr (Or.inr (Or.inr ⟨by omega, a2, a3, e, e, ⟨p1, Nat.le_refl _, Nat.le_refl _, fun k h1 h2 => p4 k h1 (by omega), fun h => by omega, fun k h1 h2 => by omega, p7⟩, rfl⟩)), by omega, by omega, ?_⟩
    by_cases h1 : i + 1 < e
    · exact p7 h1
    · have : e - 1 = i := by omega
      rw [this]
      intro h
      rw [h] at a3
      exact absurd a3 (by decide)
end Go.Proofs.Qxb6606128a
