/-
  SEAT b6604071a: the walk of FnMoreStopsAtTheOnlyPlaceItCan.
-/
import Derived.Test.Qxb6604071aDomain
namespace Go.Proofs.Qxb6604071a
open Go.RowKit

set_option maxRecDepth 100000 in
set_option maxHeartbeats 1000000 in
theorem mbytes_any (p : Option Addr) (len cap : Nat) (a cl : Int) (hl : len ≤ maxLen) (w : World) :
    Calls Try.prog 19 #[.slice p len cap, .int .i64 a, .int .u8 cl] w fun e w' => e = .returned (.bool (decide (len ≤ 1048576))) ∧ w' = w := by
  unfold maxLen at hl
  by_cases h : len ≤ 1048576
  · have HD : Hid (decide (len ≤ 1048576) = true) := decide_eq_true h
    go_enter Try.func19, Try.ntmps19
    go_wp2
    go_ret
    exact ⟨ret_bool HD.out.symm, rfl⟩
  · have HD : Hid (decide (len ≤ 1048576) = false) := decide_eq_false h
    go_enter Try.func19, Try.ntmps19
    go_wp2
    go_ret
    exact ⟨ret_bool HD.out.symm, rfl⟩

set_option maxRecDepth 100000 in
set_option maxHeartbeats 2000000 in
theorem more_great (p : Option Addr) (len cap : Nat) (a cl : Int) (w : World) (hl : len ≤ maxLen) (hg : 1048576 < len) :
    Calls Try.prog 7 #[.slice p len cap, .int .i64 a, .int .u8 cl] w fun e w' => e = .returned (.bool true) ∧ Below w.heap.size w w' := by
  have HD : Hid (decide (len ≤ 1048576) = false) := decide_eq_false (by omega)
  go_enter Try.func7, Try.ntmps7
  go_wp2_with fail
  refine (mbytes_any _ _ _ _ _ hl _).mono ?_
  rintro e w' ⟨he, rfl⟩
  rw [HD.out] at he
  subst he
  go_wp2_with fail
  go_ret
  exact ⟨rfl, Below.refl _ _⟩

set_option maxRecDepth 100000 in
set_option maxHeartbeats 2000000 in
/-- The offset lies outside the text. -/
theorem more_out (p : Option Addr) (len cap : Nat) (zs : List Int) (a cl : Int) (w : World) (hl : len ≤ 1048576) (hr : IsRow .u8 w p len cap zs) (h : a < 0 ∨ (len : Int) ≤ a) :
    Calls Try.prog 7 #[.slice p len cap, .int .i64 a, .int .u8 cl] w fun e w' => e = .returned (.bool true) ∧ Below w.heap.size w w' := by
  have HD : Hid (decide (len ≤ 1048576) = true) := decide_eq_true (by omega)
  have HR : Hid (IsRow .u8 w p len cap zs) := hr
  have HA : Hid (a < 0 ∨ (len : Int) ≤ a) := h
  clear hr h
  go_enter Try.func7, Try.ntmps7
  go_wp2_with fail
  refine (mbytes_any _ _ _ _ _ (by unfold maxLen; omega) _).mono ?_
  rintro e w' ⟨he, rfl⟩
  rw [HD.out] at he
  subst he
  go_wp2_with fail
  refine (clone_any _ _ _ zs _ HR.out hl).mono ?_
  rintro e w1 ⟨q, rfl, hb1, hq0, hq1⟩
  have HB1 : Hid (Below w'.heap.size w' w1) := hb1
  clear hb1 hq0 hq1 HR
  go_wp2_with fail
  refine (domain_out _ _ _ _ HA.out).mono ?_
  rintro e w2 ⟨rfl, rfl⟩
  go_wp2_with fail
  go_ret
  exact ⟨rfl, HB1.out⟩

/-- The one place before st that may hold a comma (st itself: there is none). -/
def OneComma (zs : List Int) (a st F : Nat) : Prop :=
  (∀ j, a ≤ j → j < st → ((z zs j == 44) = true → j = F) ∧ ((z zs j == 44) = false → sp (z zs j) = true ∧ j ≠ F)) ∧ sp (z zs st) = false ∧ a ≤ F ∧ F ≤ st ∧ (F = st → (z zs st == 44) = false)
theorem sp_comma {c : Int} (h : sp c = true) : (c == 44) = false := by
  cases h2 : (c == 44) with
  | false => rfl
  | true =>
    have : c = 44 := by simpa using h2
    subst this
    exact absurd h (by decide)
theorem oneComma {zs : List Int} {n a st : Nat} (h : Stop zs n a st) : ∃ F, OneComma zs a st F := by
  obtain ⟨h1, ⟨⟨r1, r2, r3, r4⟩, hc⟩ | ⟨f, hf, ⟨r1, r2, r3, r4⟩, hc, ⟨s1, s2, s3, s4⟩⟩⟩ := h
  · exact ⟨st, fun j hj1 hj2 => ⟨(fun e => by rw [sp_comma (r3 j hj1 hj2)] at e; cases e), fun _ => ⟨r3 j hj1 hj2, by omega⟩⟩, r4 h1, r1, Nat.le_refl _, fun _ => hc⟩
  · refine ⟨f, fun j hj1 hj2 => ⟨fun e => ?_, fun e => ?_⟩, s4 h1, r1, by omega, fun e => by omega⟩
    · rcases Nat.lt_trichotomy j f with h | h | h
      · rw [sp_comma (r3 j hj1 h)] at e; cases e
      · exact h
      · rw [sp_comma (s3 j h hj2)] at e; cases e
    · rcases Nat.lt_trichotomy j f with h | h | h
      · exact ⟨r3 j hj1 h, by omega⟩
      · rw [h, hc] at e; cases e
      · exact ⟨s3 j h hj2, by omega⟩
def cnt (F k : Nat) : Nat := if F < k then 1 else 0
theorem cnt_le (F k : Nat) : cnt F k ≤ 1 := by unfold cnt; split <;> omega
theorem cnt_at (F : Nat) : cnt F (F + 1) = cnt F F + 1 ∧ cnt F F = 0 := by unfold cnt; rw [if_pos (by omega), if_neg (by omega)]; exact ⟨rfl, rfl⟩
theorem cnt_ne (F k : Nat) (h : k ≠ F) : cnt F (k + 1) = cnt F k := by
  unfold cnt
  by_cases h1 : F < k
  · rw [if_pos h1, if_pos (by omega)]
  · rw [if_neg h1, if_neg (by omega)]
theorem cnt_start (F a : Nat) (h : a ≤ F) : cnt F a = 0 := by unfold cnt; rw [if_neg (by omega)]

set_option maxRecDepth 100000 in
set_option maxHeartbeats 2000000 in
theorem more_law (p : Option Addr) (len cap : Nat) (zs : List Int) (a : Nat) (cl : Int) (w : World) (hl : len ≤ 1048576) (hr : IsRow .u8 w p len cap zs) (ha : a < len) (hz : ∀ j, 0 ≤ z zs j ∧ z zs j ≤ 255) :
    Calls Try.prog 7 #[.slice p len cap, .int .i64 (a : Int), .int .u8 cl] w fun e w' => e = .returned (.bool true) ∧ Below w.heap.size w w' := by
  have HD : Hid (decide (len ≤ 1048576) = true) := decide_eq_true (by omega)
  have HR : Hid (IsRow .u8 w p len cap zs) := hr
  have HZ : Hid (∀ j, 0 ≤ z zs j ∧ z zs j ≤ 255) := hz
  clear hr hz
  go_enter Try.func7, Try.ntmps7
  go_wp2_with fail
  refine (mbytes_any _ _ _ _ _ (by unfold maxLen; omega) _).mono ?_
  rintro e w' ⟨he, hw⟩
  obtain rfl := hw.symm
  rw [HD.out] at he
  subst he
  go_wp2_with fail
  refine (clone_any _ _ _ zs _ HR.out hl).mono ?_
  rintro e w1 ⟨q, rfl, hb1, hq0, hq1⟩
  obtain ⟨ad, rfl⟩ : ∃ ad, q = some ad := by
    cases q with
    | none => have := hq0 rfl; omega
    | some ad => exact ⟨ad, rfl⟩
  obtain ⟨rfl, hcl⟩ := hq1 ad rfl
  have HB1 : Hid (Below w.heap.size w w1) := hb1
  have HC : Hid (∀ j, j < len → w1.cell? ⟨w.heap.size, j, none⟩ = some (.int .u8 (z zs j))) := fun j hj => hcl.cell j hj
  have hlt1 : w.heap.size < w1.heap.size := hcl.lt
  clear hb1 hq0 hq1 HR hcl
  go_wp2_with fail
  refine (domain_any w.heap.size len zs a _ hl ha HC.out).mono ?_
  rintro e w2 ⟨b, rfl, hask, hw2⟩
  obtain rfl := hw2.symm
  cases b with
  | false =>
    clear hask
    go_wp2_with fail
    go_ret
    exact ⟨rfl, HB1.out⟩
  | true =>
    obtain ⟨st, hst⟩ := hask rfl
    have HST : Hid (Stop zs len a st) := hst
    have hst1 : st < len := hst.1
    have hast : a ≤ st := by
      rcases hst.2 with ⟨h, _⟩ | ⟨f, _, h1, _, h2⟩
      · exact h.1
      · have := h1.1; have := h2.1; omega
    clear hask hst
    have HLa : Hid (∃ B K, Lands zs st cl B K ∧ (B = false ∧ K = st + 1 ∨ B = true ∧ st = K) ∧ B = (z zs st != cl)) := by
      cases h : (z zs st == cl) with
      | true => exact ⟨false, st + 1, Or.inl ⟨h, rfl, rfl⟩, Or.inl ⟨rfl, rfl⟩, by simp [bne, h]⟩
      | false => exact ⟨true, st, Or.inr ⟨h, rfl, rfl⟩, Or.inr ⟨rfl, rfl⟩, by simp [bne, h]⟩
    obtain ⟨B, K, hla, hBK, hB⟩ := HLa.out
    have HL : Hid (Lands zs st cl B K) := hla
    have HBB : Hid (B = (z zs st != cl)) := hB
    clear hla hB HLa
    go_wp2_with fail
    refine (zzmore_any w.heap.size len zs a st cl B K _ hl (by omega) HZ.out hlt1 HC.out HL.out HST.out).mono ?_
    rintro e w3 ⟨rfl, hb3⟩
    have HC3 : Hid (∀ j, j < len → w3.cell? ⟨w.heap.size, j, none⟩ = some (.int .u8 (z zs j))) := fun j hj => (hb3.cell (p := ⟨w.heap.size, j, none⟩) hlt1).trans (HC.out j hj)
    have HB3 : Hid (Below w.heap.size w w3) := HB1.out.trans (hb3.mono HB1.out.size)
    clear hb3
    have hs1 : (a : Int) ≤ (st : Int) := by omega
    have hs2 : (st : Int) < (len : Int) := by omega
    have ds1 : decide (st < a) = false := decide_eq_false (by omega)
    have ds2 : decide (len ≤ st) = false := decide_eq_false (by omega)
    have dl : decide ((1048576 : Int) < (len : Int)) = false := decide_eq_false (by omega)
    obtain ⟨F, hF⟩ := oneComma HST.out
    have HF : Hid (OneComma zs a st F) := hF
    have hF1 : a ≤ F := hF.2.2.1
    have hF2 : F ≤ st := hF.2.2.2.1
    clear hF HL HST HC HZ HD
    rcases hBK with ⟨rfl, rfl⟩ | ⟨rfl, rfl⟩
    all_goals
      have hbne := HBB.out.symm
      clear HBB
      go_wp2_with fail
      go_loopg [10, 11] (st - a) (fun gh c i wr => w3 = wr ∧ ∃ k : Nat, gh = st - k ∧ a ≤ k ∧ k ≤ st ∧ i = .int .i64 k ∧ c = .int .i64 (cnt F k : Nat))
      case atStart => exact ⟨rfl, a, rfl, Nat.le_refl _, hast, rfl, by rw [cnt_start F a hF1]; rfl⟩
      case round =>
        obtain ⟨rfl, k, rfl, hk1, hk2, rfl, rfl⟩ := hrel
        have hcl := cnt_le F k
        by_cases hlt : k < st
        · have qc := HC3.out k (by omega)
          have hfk := HF.out.1 k hk1 hlt
          cases h44 : (z zs k == 44) with
          | true =>
            have HK : Hid (k = F) := hfk.1 h44
            clear hfk
            go_wp2_with fail
            go_roundg (st - (k + 1))
            case measure => omega
            case rel => exact ⟨rfl, k + 1, rfl, by omega, by omega, by go_num, by rw [HK.out]; have := cnt_at F; rw [this.1]; go_num⟩
          | false =>
            have HK : Hid (sp (z zs k) = true ∧ k ≠ F) := hfk.2 h44
            clear hfk
            go_wp2_with fail
            refine (space_yes (z zs k) _ HK.out.1).mono ?_
            rintro e w9 ⟨rfl, hw9⟩
            obtain rfl := hw9.symm
            go_wp2_with fail
            go_roundg (st - (k + 1))
            case measure => omega
            case rel => exact ⟨rfl, k + 1, rfl, by omega, by omega, by go_num, by rw [cnt_ne F k HK.out.2]⟩
        · have hks : st = k := by omega
          subst hks
          have qc := HC3.out st (by omega)
          by_cases hFk : F = st
          · have hcm : (z zs st == 44) = false := HF.out.2.2.2.2 hFk
            have hc0 : cnt F st ≤ 0 := by unfold cnt; rw [if_neg (by omega)]; exact Nat.le_refl _
            clear hFk
            go_wp2_with fail
            refine (space_no (z zs st) _ HF.out.2.1).mono ?_
            rintro e w9 ⟨rfl, hw9⟩
            obtain rfl := hw9.symm
            go_wp2_with fail
            go_ret
            exact ⟨rfl, HB3.out⟩
          · have hc0 : 1 ≤ cnt F st := by unfold cnt; rw [if_pos (by omega)]; exact Nat.le_refl _
            clear hFk
            go_wp2_with fail
            refine (space_no (z zs st) _ HF.out.2.1).mono ?_
            rintro e w9 ⟨rfl, hw9⟩
            obtain rfl := hw9.symm
            go_wp2_with fail
            go_ret
            exact ⟨rfl, HB3.out⟩
end Go.Proofs.Qxb6604071a
