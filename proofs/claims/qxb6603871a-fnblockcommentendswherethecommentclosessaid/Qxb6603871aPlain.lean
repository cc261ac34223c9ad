/-
  THE PLAIN MATHEMATICS OF SEAT b6603871a: bytes of a text, the end of a run of digits, the first closing mark, the end of a nested comment. No Go in sight.
-/
import Derived.Lib.IndexBytes
namespace Go.Proofs.Qxb6603871a
/-- Byte number k of s, as a number; -1 behind its end. -/
def bt (s : ByteArray) (k : Nat) : Int := if h : k < s.size then ((s[k]'h).toNat : Int) else -1
theorem bt_at (s : ByteArray) (k : Nat) (h : k < s.size) : bt s k = ((s[k]'h).toNat : Int) := by unfold bt; rw [dif_pos h]
theorem bt_out (s : ByteArray) (k : Nat) (h : ¬ k < s.size) : bt s k = -1 := by unfold bt; rw [dif_neg h]
theorem bt_size {s : ByteArray} {k : Nat} (h : 0 ≤ bt s k) : k < s.size := by
  by_cases hk : k < s.size
  · exact hk
  · rw [bt_out s k hk] at h; omega

/-! ### the end of a run of digits -/
def Dig (s : ByteArray) (k : Nat) : Prop := 48 ≤ bt s k ∧ bt s k ≤ 57
def DigEnd (s : ByteArray) (p r : Nat) : Prop := p ≤ r ∧ (∀ k, p ≤ k → k < r → Dig s k) ∧ ¬ Dig s r
theorem digEnd_one {s : ByteArray} {p a b : Nat} (ha : DigEnd s p a) (hb : DigEnd s p b) : a = b := by
  obtain ⟨a1, a2, a3⟩ := ha
  obtain ⟨b1, b2, b3⟩ := hb
  rcases Nat.lt_trichotomy a b with h | h | h
  · exact absurd (b2 a a1 h) a3
  · exact h
  · exact absurd (a2 b b1 h) b3
theorem dig_size {s : ByteArray} {k : Nat} (h : Dig s k) : k < s.size := bt_size (by have := h.1; omega)

/-! ### the first closing mark -/
def Shut (s : ByteArray) (k : Nat) : Prop := bt s k = 42 ∧ bt s (k + 1) = 47
def Open (s : ByteArray) (k : Nat) : Prop := bt s k = 47 ∧ bt s (k + 1) = 42
theorem shut_size {s : ByteArray} {k : Nat} (h : Shut s k) : k + 1 < s.size := bt_size (by have := h.2; omega)
theorem open_size {s : ByteArray} {k : Nat} (h : Open s k) : k + 1 < s.size := bt_size (by have := h.2; omega)
def FirstShut (s : ByteArray) (p r : Nat) : Prop :=
  (∃ q, p ≤ q ∧ Shut s q ∧ (∀ j, p ≤ j → j < q → ¬ Shut s j) ∧ r = q + 2) ∨ ((∀ j, p ≤ j → ¬ Shut s j) ∧ r = s.size)

/-! ### the end of a nested comment: d marks are open, the reader stands at p -/
def openB (s : ByteArray) (k : Nat) : Bool := bt s k == 47 && bt s (k + 1) == 42
def shutB (s : ByteArray) (k : Nat) : Bool := bt s k == 42 && bt s (k + 1) == 47
theorem openB_iff (s : ByteArray) (k : Nat) : openB s k = true ↔ Open s k := by simp [openB, Open]
theorem shutB_iff (s : ByteArray) (k : Nat) : shutB s k = true ↔ Shut s k := by simp [shutB, Shut]
def scan (s : ByteArray) : Nat → Nat → Nat → Nat
  | 0, _, _ => s.size
  | f + 1, d, p =>
    if p < s.size then
      (if openB s p then scan s f (d + 1) (p + 2) else if shutB s p then (if d ≤ 1 then p + 2 else scan s f (d - 1) (p + 2)) else scan s f d (p + 1))
    else s.size
theorem scan_fuel (s : ByteArray) : ∀ (f g d p : Nat), s.size ≤ p + f → s.size ≤ p + g → scan s f d p = scan s g d p := by
  intro f
  induction f with
  | zero =>
    intro g d p hf hg
    cases g with
    | zero => rfl
    | succ g => simp only [scan]; rw [if_neg (by omega)]
  | succ f ih =>
    intro g d p hf hg
    cases g with
    | zero => simp only [scan]; rw [if_neg (by omega)]
    | succ g =>
      simp only [scan]
      by_cases hp : p < s.size
      · rw [if_pos hp, if_pos hp, ih g (d + 1) (p + 2) (by omega) (by omega), ih g (d - 1) (p + 2) (by omega) (by omega), ih g d (p + 1) (by omega) (by omega)]
      · rw [if_neg hp, if_neg hp]
/-- Where d open marks end, from p on. -/
def ends (s : ByteArray) (d p : Nat) : Nat := scan s (s.size - p) d p
theorem ends_out (s : ByteArray) (d p : Nat) (h : s.size ≤ p) : ends s d p = s.size := by
  unfold ends; rw [show s.size - p = 0 by omega]; rfl
theorem ends_in (s : ByteArray) (d p : Nat) (h : p < s.size) :
    ends s d p = if openB s p then ends s (d + 1) (p + 2) else if shutB s p then (if d ≤ 1 then p + 2 else ends s (d - 1) (p + 2)) else ends s d (p + 1) := by
  unfold ends
  rw [scan_fuel s (s.size - p) (s.size - (p + 1) + 1) d p (by omega) (by omega)]
  simp only [scan]
  rw [if_pos h, scan_fuel s (s.size - (p + 1)) (s.size - (p + 2)) (d + 1) (p + 2) (by omega) (by omega), scan_fuel s (s.size - (p + 1)) (s.size - (p + 2)) (d - 1) (p + 2) (by omega) (by omega)]
theorem ends_open (s : ByteArray) (d p : Nat) (h : Open s p) : ends s d p = ends s (d + 1) (p + 2) := by
  have := open_size h
  rw [ends_in s d p (by omega), if_pos ((openB_iff s p).2 h)]
theorem not_open_of_shut {s : ByteArray} {p : Nat} (h : Shut s p) : ¬ Open s p := fun k => by have := h.1; have := k.1; omega
theorem ends_shut_one (s : ByteArray) (p : Nat) (h : Shut s p) : ends s 1 p = p + 2 := by
  have := shut_size h
  rw [ends_in s 1 p (by omega), if_neg (fun k => not_open_of_shut h ((openB_iff s p).1 k)), if_pos ((shutB_iff s p).2 h), if_pos (by omega)]
theorem ends_shut_more (s : ByteArray) (d p : Nat) (hd : 2 ≤ d) (h : Shut s p) : ends s d p = ends s (d - 1) (p + 2) := by
  have := shut_size h
  rw [ends_in s d p (by omega), if_neg (fun k => not_open_of_shut h ((openB_iff s p).1 k)), if_pos ((shutB_iff s p).2 h), if_neg (by omega)]
theorem ends_step (s : ByteArray) (d p : Nat) (hp : p < s.size) (h1 : ¬ Open s p) (h2 : ¬ Shut s p) : ends s d p = ends s d (p + 1) := by
  rw [ends_in s d p hp, if_neg (fun k => h1 ((openB_iff s p).1 k)), if_neg (fun k => h2 ((shutB_iff s p).1 k))]
theorem ends_le (s : ByteArray) : ∀ (f d p : Nat), s.size ≤ p + f → p ≤ s.size → p ≤ ends s d p ∧ ends s d p ≤ s.size := by
  intro f
  induction f with
  | zero => intro d p hf hp; rw [ends_out s d p (by omega)]; omega
  | succ f ih =>
    intro d p hf hp
    by_cases hlt : p < s.size
    · by_cases h1 : Open s p
      · have := open_size h1
        rw [ends_open s d p h1]
        have := ih (d + 1) (p + 2) (by omega) (by omega)
        omega
      · by_cases h2 : Shut s p
        · have hz := shut_size h2
          by_cases hd : d ≤ 1
          · rw [ends_in s d p hlt, if_neg (fun k => h1 ((openB_iff s p).1 k)), if_pos ((shutB_iff s p).2 h2), if_pos hd]; omega
          · rw [ends_shut_more s d p (by omega) h2]
            have := ih (d - 1) (p + 2) (by omega) (by omega)
            omega
        · rw [ends_step s d p hlt h1 h2]
          have := ih d (p + 1) (by omega) (by omega)
          omega
    · rw [ends_out s d p (by omega)]; omega
theorem ends_ge (s : ByteArray) (d p : Nat) (hp : p ≤ s.size) : p ≤ ends s d p ∧ ends s d p ≤ s.size := ends_le s (s.size - p) d p (by omega) hp
/-- d + e open marks end where d end behind the end of e. -/
theorem ends_join (s : ByteArray) : ∀ (f d e p : Nat), s.size ≤ p + f → p ≤ s.size → 1 ≤ d → 1 ≤ e → ends s (d + e) p = ends s d (ends s e p) := by
  intro f
  induction f with
  | zero => intro d e p hf hp hd he; rw [ends_out s (d + e) p (by omega), ends_out s e p (by omega), ends_out s d s.size (by omega)]
  | succ f ih =>
    intro d e p hf hp hd he
    by_cases hlt : p < s.size
    · by_cases h1 : Open s p
      · have := open_size h1
        rw [ends_open s (d + e) p h1, ends_open s e p h1, show d + e + 1 = d + (e + 1) by omega, ih d (e + 1) (p + 2) (by omega) (by omega) hd (by omega)]
      · by_cases h2 : Shut s p
        · have := shut_size h2
          rw [ends_shut_more s (d + e) p (by omega) h2]
          by_cases h3 : e = 1
          · subst h3
            rw [ends_shut_one s p h2, show d + 1 - 1 = d by omega]
          · rw [ends_shut_more s e p (by omega) h2, show d + e - 1 = d + (e - 1) by omega, ih d (e - 1) (p + 2) (by omega) (by omega) hd (by omega)]
        · rw [ends_step s (d + e) p hlt h1 h2, ends_step s e p hlt h1 h2, ih d e (p + 1) (by omega) (by omega) hd he]
    · rw [ends_out s (d + e) p (by omega), ends_out s e p (by omega), ends_out s d s.size (by omega)]
theorem ends_nest (s : ByteArray) (p : Nat) (h : Open s p) : ends s 1 p = ends s 1 (ends s 1 (p + 2)) := by
  have := open_size h
  rw [ends_open s 1 p h, ends_join s (s.size - (p + 2)) 1 1 (p + 2) (by omega) (by omega) (by omega) (by omega)]

/-! ### marks at a place, as 'HasPrefix' of the rest tells them -/
theorem data_bt (s : ByteArray) (k : Nat) (c : UInt8) : s.data.toList[k]? = some c ↔ bt s k = (c.toNat : Int) := by
  by_cases h : k < s.size
  · rw [Lib.data_getElem? s k h, bt_at s k h]
    constructor
    · intro e; rw [Option.some.inj e]
    · intro e; rw [Lib.byte_eq_of_toNat e]
  · rw [bt_out s k h]
    have : s.data.toList[k]? = none := by
      rw [List.getElem?_eq_none_iff]
      have := Lib.size_eq s
      omega
    rw [this]
    constructor
    · intro e; cases e
    · intro e; omega
/-- Does the list of bytes p stand in s at place i? -/
def Stands (s : ByteArray) (i : Nat) : List UInt8 → Prop
  | [] => True
  | c :: r => bt s i = (c.toNat : Int) ∧ Stands s (i + 1) r
theorem stands_prefix (s : ByteArray) : ∀ (p : List UInt8) (i : Nat), Lib.hasPrefix (s.data.toList.drop i) p = true ↔ Stands s i p
  | [], i => by simp [Lib.hasPrefix, Stands]
  | c :: r, i => by
    have ih := stands_prefix s r (i + 1)
    unfold Lib.hasPrefix at ih ⊢
    unfold Stands
    rw [← ih, ← data_bt]
    cases hd : s.data.toList.drop i with
    | nil =>
      have h0 : s.data.toList[i]? = none := by
        rw [List.getElem?_eq_none_iff]
        have := congrArg List.length hd
        simp only [List.length_drop, List.length_nil] at this
        omega
      simp [h0]
    | cons x t =>
      have h0 : s.data.toList[i]? = some x := by
        have := congrArg List.head? hd
        simpa [List.head?_drop] using this
      have h1 : s.data.toList.drop (i + 1) = t := by
        have := congrArg List.tail hd
        simpa [List.tail_drop] using this
      rw [h0, h1, List.isPrefixOf_cons_cons]
      simp only [Bool.and_eq_true, beq_iff_eq, Option.some.injEq]
      constructor
      · rintro ⟨a, b⟩; exact ⟨a.symm, b⟩
      · rintro ⟨a, b⟩; exact ⟨a.symm, b⟩
theorem stands_iff (s : ByteArray) : ∀ (l : List UInt8) (i : Nat), Stands s i l ↔ ∀ (j : Nat) c, l[j]? = some c → bt s (i + j) = (c.toNat : Int)
  | [], i => by simp [Stands]
  | c :: r, i => by
    unfold Stands
    rw [stands_iff s r (i + 1)]
    constructor
    · rintro ⟨a, b⟩ j d hj
      cases j with
      | zero => simp at hj; subst hj; simpa using a
      | succ j => rw [show i + (j + 1) = i + 1 + j by omega]; exact b j d (by simpa using hj)
    · intro h
      refine ⟨by simpa using h 0 c (by simp), fun j d hj => ?_⟩
      rw [show i + 1 + j = i + (j + 1) by omega]
      exact h (j + 1) d (by simpa using hj)
theorem pre_iff (s pre : ByteArray) (p : Nat) : Lib.hasPrefix (s.data.toList.drop p) pre.data.toList = true ↔ ∀ j, j < pre.size → bt s (p + j) = bt pre j := by
  rw [stands_prefix, stands_iff]
  constructor
  · intro h j hj
    rw [bt_at pre j hj]
    exact h j _ (Lib.data_getElem? pre j hj)
  · intro h j c hc
    have e := (data_bt pre j c).1 hc
    have hj : j < pre.size := bt_size (by omega)
    rw [h j hj, e]
theorem pre_long (s pre : ByteArray) (p : Nat) (h : s.size < p + pre.size) (hp : p ≤ s.size) : Lib.hasPrefix (s.data.toList.drop p) pre.data.toList = false := by
  rw [Bool.eq_false_iff]
  intro e
  have h1 := (pre_iff s pre p).1 e (s.size - p) (by omega)
  rw [bt_out s _ (by omega), bt_at pre _ (by omega)] at h1
  omega
theorem pre_miss (s pre : ByteArray) (p k : Nat) (hk : k < pre.size) (h : ¬ bt s (p + k) = bt pre k) : Lib.hasPrefix (s.data.toList.drop p) pre.data.toList = false := by
  rw [Bool.eq_false_iff]
  intro e
  exact h ((pre_iff s pre p).1 e k hk)
theorem occ_shut (s : ByteArray) (p j : Nat) : Lib.occAt (s.data.toList.drop p) [42, 47] j = true ↔ Shut s (p + j) := by
  unfold Lib.occAt
  rw [List.drop_drop]
  have h := stands_prefix s [42, 47] (p + j)
  unfold Lib.hasPrefix at h
  rw [h]; simp [Stands, Shut]
theorem index_some (s : ByteArray) (p q : Nat) (hp : p ≤ q) (hq : Shut s q) (hf : ∀ j, p ≤ j → j < q → ¬ Shut s j) : Lib.index (s.extract p s.size).data.toList [42, 47] = ((q - p : Nat) : Int) := by
  rw [Lib.extract_to_end]
  have hz := shut_size hq
  refine Lib.index_first ?_ ?_ ?_
  · rw [List.length_drop, ← Lib.size_eq]; omega
  · rw [occ_shut, show p + (q - p) = q by omega]; exact hq
  · intro j hj
    rw [Bool.eq_false_iff]
    intro e
    exact hf (p + j) (by omega) (by omega) ((occ_shut s p j).1 e)
theorem index_no (s : ByteArray) (p : Nat) (hf : ∀ j, p ≤ j → ¬ Shut s j) : Lib.index (s.extract p s.size).data.toList [42, 47] = -1 := by
  rw [Lib.extract_to_end]
  refine Lib.index_none fun j _ => ?_
  rw [Bool.eq_false_iff]
  intro e
  exact hf (p + j) (by omega) ((occ_shut s p j).1 e)
theorem pre_open (s : ByteArray) (i : Nat) : Lib.hasPrefix (s.data.toList.drop i) [47, 42] = true ↔ Open s i := by
  rw [stands_prefix]; simp [Stands, Open]
theorem pre_shut (s : ByteArray) (i : Nat) : Lib.hasPrefix (s.data.toList.drop i) [42, 47] = true ↔ Shut s i := by
  rw [stands_prefix]; simp [Stands, Shut]
end Go.Proofs.Qxb6603871a
