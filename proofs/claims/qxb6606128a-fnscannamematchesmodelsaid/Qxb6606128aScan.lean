/-
  SEAT b6606128a: scanName.
-/
import Derived.Test.Qxb6606128aBytes
import Derived.Deep.LoopGhost
import Derived.Deep.QuietTactic
import Derived.BigQuiet
namespace Go.Proofs.Qxb6606128a
open Go.RowKit

/-- scanName's answer. -/
def ans (i : Nat) : Option Nat → Value
  | none => .tuple #[.agg #[.int .i64 0, .int .i64 0], .int .i64 (i : Int), .bool false]
  | some e => .tuple #[.agg #[.int .i64 (i : Int), .int .i64 (e : Int)], .int .i64 (e : Int), .bool true]
def Answers (z : Nat → Int) (n i : Nat) (w : World) (e : Ending) (w' : World) : Prop := ∃ r, Scan z n i r ∧ e = .returned (ans i r) ∧ Below w.heap.size w w'

theorem all_snoc {Q : Nat → Prop} {p k : Nat} (h : ∀ j, p ≤ j → j < k → Q j) (hk : Q k) : ∀ j, p ≤ j → j < k + 1 → Q j := fun j h1 h2 => by
  by_cases e : j = k
  · subst e; exact hk
  · exact h j h1 (by omega)

set_option maxRecDepth 100000 in
set_option maxHeartbeats 2000000 in
theorem scan_end (p : Option Addr) (n c : Nat) (z : Nat → Int) (w : World) : Calls Try.prog 12 #[.slice p n c, .int .i64 (n : Int)] w fun e w' => Answers z n n w e w' := by
  go_enter Try.func12, Try.ntmps12
  go_wp2_with fail
  exact bodyPost_ret (v := .tuple #[.agg #[.int .i64 0, .int .i64 0], .int .i64 (n : Int), .bool false]) (by simp [results, Try.results12, go_sem]) rfl ⟨none, Or.inl ⟨rfl, rfl⟩, rfl, (Below.refl _ _).alloc (Nat.le_refl _) _⟩

set_option maxRecDepth 100000 in
set_option maxHeartbeats 4000000 in
theorem scan_quoted (g o n c i : Nat) (z : Nat → Int) (w : World) (hn : n ≤ 1048576) (hi : i < n) (hg : g < w.heap.size) (hc : ∀ k, k < n → w.cell? ⟨g, o + k, none⟩ = some (.int .u8 (z k))) (hq : z i = 34) :
    Calls Try.prog 12 #[.slice (some ⟨g, o, none⟩) n c, .int .i64 (i : Int)] w fun e w' => Answers z n i w e w' := by
  have HC : Hid (∀ k, k < n → w.cell? ⟨g, o + k, none⟩ = some (.int .u8 (z k))) := hc
  have HQ : Hid (z i = 34) := hq
  have c0 : w.cell? ⟨g, o + i, none⟩ = some (.int .u8 34) := by rw [hc i hi, hq]
  have hin : ((i : Int) == (n : Int)) = false := by rw [beq_eq_false_iff_ne]; omega
  clear hc hq
  go_enter Try.func12, Try.ntmps12
  go_wp2_with fail
  go_loopg [7] (n - (i + 1)) (fun gh j wr => w.alloc (.cells #[.int .i64 0, .int .i64 0] 28) = wr ∧ ∃ k : Nat, gh = n - k ∧ i + 1 ≤ k ∧ k ≤ n ∧ j = .int .i64 (k : Int) ∧ ∀ m, i + 1 ≤ m → m < k → okc (z m) = true)
  case atStart => exact ⟨rfl, i + 1, rfl, Nat.le_refl _, by omega, by go_num, fun m h1 h2 => by omega⟩
  case round =>
    obtain ⟨rfl, k, rfl, hk1, hk2, rfl, hall⟩ := hrel
    have HA : Hid (∀ m, i + 1 ≤ m → m < k → okc (z m) = true) := hall
    clear hall
    by_cases hlt : k < n
    · have qc := HC.out k hlt
      by_cases h34 : z k = 34
      · have HK : Hid (z k = 34) := h34
        rw [h34] at qc
        clear h34
        go_wp2_with fail
        refine bodyPost_ret (v := .tuple #[.agg #[.int .i64 (i : Int), .int .i64 (k + 1 : Nat)], .int .i64 (k + 1 : Nat), .bool true]) (by simp [results, Try.results12, go_sem]) rfl ⟨some (k + 1), ?_, rfl, (Below.refl _ _).alloc (Nat.le_refl _) _⟩
        exact Or.inr (Or.inl ⟨hi, HQ.out, k, ⟨hk1, by omega, HA.out, fun _ => by rw [HK.out]; decide⟩, Or.inl ⟨hlt, HK.out, rfl⟩⟩)
      · have HK : Hid (¬ z k = 34) := h34
        have hb34 : (z k == 34) = false := by simpa using h34
        cases hok : okc (z k) with
        | true =>
          have HOK : Hid (okc (z k) = true) := hok
          obtain ⟨o1, o2, o3, _⟩ := (okc_iff _).1 hok
          have hb92 : (z k == 92) = false := by simpa using o3
          clear hok h34 o3
          go_wp2_with fail
          go_roundg (n - (k + 1))
          case measure => omega
          case rel => exact ⟨rfl, k + 1, rfl, by omega, by omega, by go_num, all_snoc HA.out HOK.out⟩
        | false =>
          have HOK : Hid (okc (z k) = false) := hok
          have hbad : z k = 92 ∨ z k < 32 ∨ 126 < z k := by
            have h1 := okc_iff (z k)
            rw [hok] at h1
            simp only [Bool.false_eq_true, false_iff] at h1
            omega
          clear hok h34
          cases h92 : (z k == 92) with
          | true =>
            clear hbad
            go_wp2_with fail
            refine bodyPost_ret (v := .tuple #[.agg #[.int .i64 0, .int .i64 0], .int .i64 (i : Int), .bool false]) (by simp [results, Try.results12, go_sem]) rfl ⟨none, ?_, rfl, (Below.refl _ _).alloc (Nat.le_refl _) _⟩
            exact Or.inr (Or.inl ⟨hi, HQ.out, k, ⟨hk1, hk2, HA.out, fun _ => HOK.out⟩, Or.inr ⟨fun _ => HK.out, rfl⟩⟩)
          | false =>
            have h92' : ¬ z k = 92 := by simpa using h92
            by_cases h32 : z k < 32
            · clear hbad h92'
              go_wp2_with fail
              refine bodyPost_ret (v := .tuple #[.agg #[.int .i64 0, .int .i64 0], .int .i64 (i : Int), .bool false]) (by simp [results, Try.results12, go_sem]) rfl ⟨none, ?_, rfl, (Below.refl _ _).alloc (Nat.le_refl _) _⟩
              exact Or.inr (Or.inl ⟨hi, HQ.out, k, ⟨hk1, hk2, HA.out, fun _ => HOK.out⟩, Or.inr ⟨fun _ => HK.out, rfl⟩⟩)
            · have h126 : 126 < z k := by omega
              clear hbad h92'
              go_wp2_with fail
              refine bodyPost_ret (v := .tuple #[.agg #[.int .i64 0, .int .i64 0], .int .i64 (i : Int), .bool false]) (by simp [results, Try.results12, go_sem]) rfl ⟨none, ?_, rfl, (Below.refl _ _).alloc (Nat.le_refl _) _⟩
              exact Or.inr (Or.inl ⟨hi, HQ.out, k, ⟨hk1, hk2, HA.out, fun _ => HOK.out⟩, Or.inr ⟨fun _ => HK.out, rfl⟩⟩)
    · go_wp2_with fail
      refine bodyPost_ret (v := .tuple #[.agg #[.int .i64 0, .int .i64 0], .int .i64 (i : Int), .bool false]) (by simp [results, Try.results12, go_sem]) rfl ⟨none, ?_, rfl, (Below.refl _ _).alloc (Nat.le_refl _) _⟩
      exact Or.inr (Or.inl ⟨hi, HQ.out, k, ⟨hk1, hk2, HA.out, fun h => by omega⟩, Or.inr ⟨fun h => by omega, rfl⟩⟩)

set_option maxRecDepth 100000 in
set_option maxHeartbeats 4000000 in
theorem scan_other (g o n c i : Nat) (z : Nat → Int) (w : World) (hi : i < n) (hg : g < w.heap.size) (hc : ∀ k, k < n → w.cell? ⟨g, o + k, none⟩ = some (.int .u8 (z k))) (hq : z i ≠ 34) (ha : al (z i) = false) :
    Calls Try.prog 12 #[.slice (some ⟨g, o, none⟩) n c, .int .i64 (i : Int)] w fun e w' => Answers z n i w e w' := by
  have c0 := hc i hi
  have HQ : Hid (z i ≠ 34) := hq
  have HA : Hid (al (z i) = false) := ha
  have hb : (z i == 34) = false := by simpa using hq
  have hin : ((i : Int) == (n : Int)) = false := by rw [beq_eq_false_iff_ne]; omega
  clear hc hq ha
  go_enter Try.func12, Try.ntmps12
  go_wp2_with fail
  refine (first_no (z i) _ HA.out).mono ?_
  rintro e w1 ⟨rfl, hw1⟩
  subst hw1
  go_wp2_with fail
  exact bodyPost_ret (v := .tuple #[.agg #[.int .i64 0, .int .i64 0], .int .i64 (i : Int), .bool false]) (by simp [results, Try.results12, go_sem]) rfl ⟨none, Or.inr (Or.inr (Or.inl ⟨hi, HQ.out, HA.out, rfl⟩)), rfl, (Below.refl _ _).alloc (Nat.le_refl _) _⟩

theorem rn_no {c : Int} (h1 : (c == 32) = false) (h2 : pl c = false) : rn c = false := by simp only [rn, h1, h2]; rfl
theorem rn_sp {c : Int} (h : c = 32) : rn c = true := by rw [h]; decide
theorem rn_pl {c : Int} (h : pl c = true) : rn c = true := by simp [rn, h]

set_option maxRecDepth 100000 in
set_option maxHeartbeats 4000000 in
theorem scan_plain (g o n c i : Nat) (z : Nat → Int) (w : World) (hn : n ≤ 1048576) (hi : i < n) (hg : g < w.heap.size) (hc : ∀ k, k < n → w.cell? ⟨g, o + k, none⟩ = some (.int .u8 (z k))) (hz : ∀ k, k < n → 0 ≤ z k ∧ z k ≤ 255) (hq : z i ≠ 34) (ha : al (z i) = true) :
    Calls Try.prog 12 #[.slice (some ⟨g, o, none⟩) n c, .int .i64 (i : Int)] w fun e w' => Answers z n i w e w' := by
  have HC : Hid (∀ k, k < n → w.cell? ⟨g, o + k, none⟩ = some (.int .u8 (z k))) := hc
  have HZ : Hid (∀ k, k < n → 0 ≤ z k ∧ z k ≤ 255) := hz
  have c0 := hc i hi
  have HQ : Hid (z i ≠ 34) := hq
  have HA : Hid (al (z i) = true) := ha
  have hb : (z i == 34) = false := by simpa using hq
  have hin : ((i : Int) == (n : Int)) = false := by rw [beq_eq_false_iff_ne]; omega
  clear hc hq ha hz
  go_enter Try.func12, Try.ntmps12
  go_wp2_with fail
  refine (first_yes (z i) _ _ HA.out).mono ?_
  rintro e w1 ⟨rfl, hw1⟩
  subst hw1
  go_wp2_with fail
  go_loopg [5, 9] (n - (i + 1)) (fun gh en j wr => w.alloc (.cells #[.int .i64 0, .int .i64 0] 28) = wr ∧ ∃ k e : Nat, gh = n - k ∧ i + 1 ≤ e ∧ e ≤ k ∧ k ≤ n ∧ en = .int .i64 (e : Int) ∧ j = .int .i64 (k : Int) ∧ (∀ m, i + 1 ≤ m → m < k → rn (z m) = true) ∧ (∀ m, e ≤ m → m < k → z m = 32) ∧ (i + 1 < e → z (e - 1) ≠ 32))
  case atStart => exact ⟨rfl, i + 1, i + 1, rfl, Nat.le_refl _, Nat.le_refl _, by omega, by go_num, by go_num, fun m h1 h2 => by omega, fun m h1 h2 => by omega, fun h => by omega⟩
  case round =>
    obtain ⟨rfl, k, e, rfl, he1, he2, hk2, rfl, rfl, hall, hsp, hne⟩ := hrel
    have HALL : Hid (∀ m, i + 1 ≤ m → m < k → rn (z m) = true) := hall
    have HSP : Hid (∀ m, e ≤ m → m < k → z m = 32) := hsp
    have HNE : Hid (i + 1 < e → z (e - 1) ≠ 32) := hne
    clear hall hsp hne
    by_cases hlt : k < n
    · have qc := HC.out k hlt
      have hzk := HZ.out k hlt
      cases h32 : (z k == 32) with
      | true =>
        have HK : Hid (z k = 32) := by show z k = 32; simpa using h32
        have h32n : (z k != 32) = false := by simp only [bne, h32]; rfl
        go_wp2_with fail
        go_roundg (n - (k + 1))
        case measure => omega
        case rel => exact ⟨rfl, k + 1, e, rfl, he1, by omega, by omega, rfl, by go_num, all_snoc HALL.out (rn_sp HK.out), all_snoc HSP.out HK.out, HNE.out⟩
      | false =>
        have HK : Hid (z k ≠ 32) := by show z k ≠ 32; simpa using h32
        have h32n : (z k != 32) = true := by simp only [bne, h32]; rfl
        cases hpl : pl (z k) with
        | true =>
          have HPL : Hid (pl (z k) = true) := hpl
          clear hpl
          go_wp2_with fail
          refine (plain_yes (z k) _ hzk.1 hzk.2 HPL.out).mono ?_
          rintro e9 w9 ⟨rfl, hw9⟩
          subst hw9
          go_wp2_with fail
          go_roundg (n - (k + 1))
          case measure => omega
          case rel => exact ⟨rfl, k + 1, k + 1, rfl, by omega, Nat.le_refl _, by omega, by go_num, by go_num, all_snoc HALL.out (rn_pl HPL.out), fun m h1 h2 => by omega, fun _ => HK.out⟩
        | false =>
          have HPL : Hid (rn (z k) = false) := rn_no h32 hpl
          have HPL2 : Hid (pl (z k) = false) := hpl
          clear hpl
          go_wp2_with fail
          refine (plain_no (z k) _ hzk.1 hzk.2 HPL2.out).mono ?_
          rintro e9 w9 ⟨rfl, hw9⟩
          subst hw9
          go_wp2_with fail
          exact bodyPost_ret (v := .tuple #[.agg #[.int .i64 (i : Int), .int .i64 (e : Int)], .int .i64 (e : Int), .bool true]) (by simp [results, Try.results12, go_sem]) rfl ⟨some e, Or.inr (Or.inr (Or.inr ⟨hi, HQ.out, HA.out, k, e, ⟨he1, he2, hk2, HALL.out, fun _ => HPL.out, HSP.out, HNE.out⟩, rfl⟩)), rfl, (Below.refl _ _).alloc (Nat.le_refl _) _⟩
    · go_wp2_with fail
      exact bodyPost_ret (v := .tuple #[.agg #[.int .i64 (i : Int), .int .i64 (e : Int)], .int .i64 (e : Int), .bool true]) (by simp [results, Try.results12, go_sem]) rfl ⟨some e, Or.inr (Or.inr (Or.inr ⟨hi, HQ.out, HA.out, k, e, ⟨he1, he2, hk2, HALL.out, fun h => by omega, HSP.out, HNE.out⟩, rfl⟩)), rfl, (Below.refl _ _).alloc (Nat.le_refl _) _⟩

/-- How a line lies: n bytes, the numbers z; where there is a byte: at an address with its cells. -/
def Line (w : World) (p : Option Addr) (n : Nat) (z : Nat → Int) : Prop :=
  (0 < n → ∃ g o, p = some ⟨g, o, none⟩ ∧ g < w.heap.size ∧ ∀ k, k < n → w.cell? ⟨g, o + k, none⟩ = some (.int .u8 (z k))) ∧ ∀ k, k < n → 0 ≤ z k ∧ z k ≤ 255
theorem scan_any (p : Option Addr) (n c i : Nat) (z : Nat → Int) (w : World) (hn : n ≤ 1048576) (hi : i ≤ n) (hl : Line w p n z) :
    Calls Try.prog 12 #[.slice p n c, .int .i64 (i : Int)] w fun e w' => Answers z n i w e w' := by
  by_cases h : i = n
  · subst h; exact scan_end p i c z w
  · obtain ⟨g, o, rfl, hg, hc⟩ := hl.1 (by omega)
    by_cases hq : z i = 34
    · exact scan_quoted g o n c i z w hn (by omega) hg hc hq
    · cases ha : al (z i) with
      | true => exact scan_plain g o n c i z w hn (by omega) hg hc hl.2 hq ha
      | false => exact scan_other g o n c i z w (by omega) hg hc hq ha
end Go.Proofs.Qxb6606128a
