/-
  SEAT b6605312a: what the law writes, in plain words.
-/
import Derived.Test.Qxb6605312aEarly
namespace Go.Proofs.Qxb6605312a
open Go.RowKit

/-- The groups of the law's first argument, as they are written. -/
def groups (up : Bool) (zs : List Int) (n : Nat) : List (List Int) := (List.range n).map fun i => hexG up (zs.getD i 0)
theorem groups_len (up : Bool) (zs : List Int) (n : Nat) : (groups up zs n).length = n := by simp [groups]
theorem groups_good (up : Bool) (zs : List Int) (n : Nat) : ∀ G ∈ groups up zs n, Good G := by
  intro G hG
  simp only [groups, List.mem_map] at hG
  obtain ⟨i, _, rfl⟩ := hG
  exact good_hexG up _
theorem groups_drop (up : Bool) (zs : List Int) (n i : Nat) (h : i < n) : (groups up zs n).drop i = hexG up (zs.getD i 0) :: (groups up zs n).drop (i + 1) := by
  have hl := groups_len up zs n
  rw [List.drop_eq_getElem_cons (by omega)]
  congr 1
  simp [groups]
theorem groups_end (up : Bool) (zs : List Int) (n : Nat) : (groups up zs n).drop n = [] := by
  rw [List.drop_eq_nil_of_le]; rw [groups_len]; exact Nat.le_refl _
/-- The text so far, X, and what is still to be written make up the whole. -/
def Writes (el : Bool) (at_ : Nat) (up : Bool) (zs : List Int) (n i : Nat) (X : List Int) : Prop := X ++ body el at_ i ((groups up zs n).drop i) = body el at_ 0 (groups up zs n)
theorem Writes.start (el : Bool) (at_ : Nat) (up : Bool) (zs : List Int) (n : Nat) : Writes el at_ up zs n 0 [] := rfl
theorem Writes.next {el : Bool} {at_ : Nat} {up : Bool} {zs : List Int} {n i : Nat} {X : List Int} (h : Writes el at_ up zs n i X) (hi : i < n) : Writes el at_ up zs n (i + 1) (X ++ sep el at_ i ++ hexG up (zs.getD i 0)) := by
  unfold Writes at h ⊢
  rw [← h, groups_drop up zs n i hi]
  simp [body]
theorem Writes.len {el : Bool} {at_ : Nat} {up : Bool} {zs : List Int} {n i : Nat} {X : List Int} (h : Writes el at_ up zs n i X) : X.length ≤ 6 * n + 2 := by
  have h1 := congrArg List.length h
  have h2 := body_le el at_ (groups up zs n) 0 (groups_good up zs n)
  rw [groups_len] at h2
  simp only [List.length_append] at h1
  omega
theorem Writes.whole {el : Bool} {at_ : Nat} {up : Bool} {zs : List Int} {n : Nat} {X : List Int} (h : Writes el at_ up zs n n X) : X ++ (if el = true ∧ n = at_ then [58, 58] else []) = body el at_ 0 (groups up zs n) := by
  unfold Writes at h
  rw [groups_end] at h
  exact h
theorem sep_two (el : Bool) (at_ i : Nat) (h : el = true ∧ i = at_) : sep el at_ i = [58, 58] := by unfold sep; rw [if_pos h]
theorem sep_one (el : Bool) (at_ i : Nat) (h : ¬ (el = true ∧ i = at_)) (hi : 0 < i) : sep el at_ i = [58] := by unfold sep; rw [if_neg h, if_pos hi]
theorem sep_no (el : Bool) (at_ i : Nat) (h : ¬ (el = true ∧ i = at_)) (hi : i = 0) : sep el at_ i = [] := by unfold sep; rw [if_neg h, if_neg (by omega)]
theorem Owns.of {w : World} {B : Nat} {v : Value} {l : List Int} {n : Nat} {xs : List Value} (h : w.ownsRow B 5 1 v n xs) (hn : n = l.length) (hx : xs = ints l) : Owns w B v l := by
  subst hn; subst hx; exact h
/-- A string's bytes as numbers. -/
def nums (s : ByteArray) : List Int := s.data.toList.map fun b => (b.toNat : Int)
theorem nums_len (s : ByteArray) : (nums s).length = s.size := by
  unfold nums; rw [List.length_map]; exact (Lib.size_eq s).symm
theorem nums_cells (s : ByteArray) : Lib.strCells s = ints (nums s) := by simp [Lib.strCells, ints, nums]
end Go.Proofs.Qxb6605312a
