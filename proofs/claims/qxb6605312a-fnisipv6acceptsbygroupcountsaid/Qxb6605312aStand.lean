/-
  SEAT b6605312a: isIPv6 on a text of groups: where the reader stands.
-/
import Derived.Test.Qxb6605312aHex
import Derived.Test.Qxb6605312aShelf
import Derived.Lib.SlBytesConst
namespace Go.Proofs.Qxb6605312a
open Go.RowKit

/-- n bytes from place o of block g on are the list r. -/
def At (w : World) (g o : Nat) (r : List Int) : Prop := ∀ j, j < r.length → w.cell? ⟨g, o + j, none⟩ = some (.int .u8 (r.getD j 0))
theorem At.bytes {w : World} {g o : Nat} {r : List Int} (h : At w g o r) (p : Option Addr) (hp : 0 < r.length → p = some ⟨g, o, none⟩) : Lib.BytesIn w p r.length r := fun hn => ⟨g, o, hp hn, h⟩

theorem At.head {w : World} {g o : Nat} {c : Int} {r : List Int} (h : At w g o (c :: r)) : w.cell? ⟨g, o, none⟩ = some (.int .u8 c) := by
  have := h 0 (by simp); simpa using this
theorem At.tail {w : World} {g o : Nat} {c : Int} {r : List Int} (h : At w g o (c :: r)) : At w g (o + 1) r := fun j hj => by
  have := h (j + 1) (by simp; omega)
  rw [show o + 1 + j = o + (j + 1) by omega, this]; simp
theorem At.right {w : World} {g o : Nat} {a b : List Int} (h : At w g o (a ++ b)) : At w g (o + a.length) b := fun j hj => by
  have := h (a.length + j) (by simp; omega)
  rw [show o + a.length + j = o + (a.length + j) by omega, this, List.getD_eq_getElem?_getD, List.getD_eq_getElem?_getD, List.getElem?_append_right (by omega), Nat.add_sub_cancel_left]
theorem At.left {w : World} {g o : Nat} {a b : List Int} (h : At w g o (a ++ b)) : At w g o a := fun j hj => by
  have := h j (by simp; omega)
  rw [this]; simp [List.getD_eq_getElem?_getD, List.getElem?_append, hj]
theorem At.below {w w' : World} {g o : Nat} {r : List Int} (h : At w g o r) {B : Nat} (hb : Below B w w') (hg : g < B) : At w' g o r := fun j hj => (hb.cell (p := ⟨g, o + j, none⟩) hg).trans (h j hj)

theorem slice_len {p : Option Addr} {n m c : Nat} (h : n = m) : Value.slice p n c = Value.slice p m c := by rw [h]
/-- The answer, by the number of groups and the elision. -/
def want (n : Nat) (el : Bool) : Bool := decide (n = 8) && !el || decide (n < 8) && el

/-- Where the reader stands behind i groups: what is left (r), where it lies, whether the elision has been passed. -/
def Stands (el : Bool) (at_ n g : Nat) (w : World) (i : Nat) (rest : List (List Int)) (b : Value) (e : Bool) : Prop :=
  i + rest.length = n ∧ (∀ G ∈ rest, Good G) ∧ ∃ (r : List Int) (off c : Nat) (p : Option Addr), b = .slice p r.length c ∧ r.length ≤ c ∧ c ≤ 9223372036854775807 ∧ (0 < r.length → p = some ⟨g, off, none⟩) ∧ At w g off r ∧
    (i = 0 ∧ r = strip el at_ rest ∧ e = decide (el = true ∧ 0 = at_) ∨ 1 ≤ i ∧ r = body el at_ i rest ∧ e = decide (el = true ∧ at_ < i))

end Go.Proofs.Qxb6605312a
