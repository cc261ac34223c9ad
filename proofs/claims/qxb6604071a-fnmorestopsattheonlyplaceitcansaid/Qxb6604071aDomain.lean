/-
  SEAT b6604071a: FnMoreStopsAtTheOnlyPlaceItCan: zzSjB1MoreInDomain.
-/
import Derived.Test.Qxb6604071aNext
namespace Go.Proofs.Qxb6604071a
open Go.RowKit

/-- What the scan of the domain has seen before k. -/
def Seen (zs : List Int) (a k : Nat) (cnt : Nat) (fst : Int) : Prop :=
  cnt = 0 ∧ (∀ j, a ≤ j → j < k → sp (z zs j) = true) ∨
  cnt = 1 ∧ ∃ f, a ≤ f ∧ f < k ∧ fst = z zs f ∧ (∀ j, a ≤ j → j < f → sp (z zs j) = true) ∧ sp (z zs f) = false ∧ ∀ j, f + 1 ≤ j → j < k → sp (z zs j) = true

set_option maxRecDepth 100000 in
set_option maxHeartbeats 2000000 in
theorem domain_out (p : Option Addr) (n : Nat) (a : Int) (w : World) (h : a < 0 ∨ (n : Int) ≤ a) :
    Calls Try.prog 20 #[.slice p n n, .int .i64 a] w fun e w' => e = .returned (.bool false) ∧ w' = w := by
  rcases h with h | h
  · go_enter Try.func20, Try.ntmps20
    go_wp2
    go_ret
    exact ⟨rfl, rfl⟩
  · by_cases h0 : a < 0
    · go_enter Try.func20, Try.ntmps20
      go_wp2
      go_ret
      exact ⟨rfl, rfl⟩
    · go_enter Try.func20, Try.ntmps20
      go_wp2
      go_ret
      exact ⟨rfl, rfl⟩

/-- It answers; if it says yes, there is a place to stop. -/
def Asked (zs : List Int) (n a : Nat) (w : World) (e : Ending) (w' : World) : Prop := ∃ b, e = .returned (.bool b) ∧ (b = true → ∃ st, Stop zs n a st) ∧ w' = w

set_option maxRecDepth 100000 in
set_option maxHeartbeats 2000000 in
theorem domain_any (g n : Nat) (zs : List Int) (a : Nat) (w : World) (hn : n ≤ 1048576) (ha : a < n) (hc : ∀ j, j < n → w.cell? ⟨g, j, none⟩ = some (.int .u8 (z zs j))) :
    Calls Try.prog 20 #[.slice (some ⟨g, 0, none⟩) n n, .int .i64 (a : Int)] w fun e w' => Asked zs n a w e w' := by
  have HC : Hid (∀ j, j < n → w.cell? ⟨g, j, none⟩ = some (.int .u8 (z zs j))) := hc
  clear hc
  have d1 : decide ((a : Int) < 0) = false := decide_eq_false (by omega)
  have d2 : decide (n ≤ a) = false := decide_eq_false (by omega)
  go_enter Try.func20, Try.ntmps20
  go_wp2_with fail
  go_loopg [5, 6, 7] (n - a) (fun gh c f i wr => w = wr ∧ ∃ (k cnt : Nat) (fst : Int), gh = n - k ∧ a ≤ k ∧ k ≤ n ∧ cnt ≤ 1 ∧ i = .int .i64 k ∧ c = .int .i64 cnt ∧ f = .int .u8 fst ∧ Seen zs a k cnt fst)
  case atStart => exact ⟨rfl, a, 0, 0, rfl, Nat.le_refl _, by omega, by omega, rfl, rfl, rfl, Or.inl ⟨rfl, fun j h1 h2 => by omega⟩⟩
  case round =>
    obtain ⟨rfl, k, cnt, fst, rfl, hk1, hk2, hcnt, rfl, rfl, rfl, hseen⟩ := hrel
    have HS : Hid (Seen zs a k cnt fst) := hseen
    clear hseen
    by_cases hlt : k < n
    · have qc := HC.out k hlt
      by_cases hs : sp (z zs k) = true
      · have HSP : Hid (sp (z zs k) = true) := hs
        clear hs
        go_wp2_with fail
        refine (space_yes (z zs k) _ HSP.out).mono ?_
        rintro e w' ⟨rfl, rfl⟩
        go_wp2_with fail
        go_roundg (n - (k + 1))
        case rel =>
          refine ⟨rfl, k + 1, cnt, fst, rfl, by omega, by omega, hcnt, by go_num, rfl, rfl, ?_⟩
          rcases HS.out with ⟨h0, hall⟩ | ⟨h1, f, hf1, hf2, hf3, hf4, hf5, hf6⟩
          · exact Or.inl ⟨h0, all_snoc hall HSP.out⟩
          · exact Or.inr ⟨h1, f, hf1, by omega, hf3, hf4, hf5, all_snoc hf6 HSP.out⟩
        case measure => omega
      · have HSP : Hid (sp (z zs k) = false) := by show sp (z zs k) = false; simpa using hs
        clear hs
        by_cases h0 : cnt = 0
        · have hc0 : cnt ≤ 0 := by omega
          have HALL : Hid (∀ j, a ≤ j → j < k → sp (z zs j) = true) := by
            rcases HS.out with ⟨_, hall⟩ | ⟨h1, _⟩
            · exact hall
            · omega
          clear h0 HS
          go_wp2_with fail
          refine (space_no (z zs k) _ HSP.out).mono ?_
          rintro e w' ⟨rfl, rfl⟩
          go_wp2_with fail
          go_roundg (n - (k + 1))
          case rel => exact ⟨rfl, k + 1, 1, z zs k, rfl, by omega, by omega, by omega, by go_num, by go_num, rfl, Or.inr ⟨rfl, k, hk1, by omega, rfl, HALL.out, HSP.out, fun j h1 h2 => by omega⟩⟩
          case measure => omega
        · have hc1 : 1 ≤ cnt := by omega
          have HF : Hid (∃ f, a ≤ f ∧ f < k ∧ fst = z zs f ∧ (∀ j, a ≤ j → j < f → sp (z zs j) = true) ∧ sp (z zs f) = false ∧ ∀ j, f + 1 ≤ j → j < k → sp (z zs j) = true) := by
            rcases HS.out with ⟨h1, _⟩ | ⟨_, h⟩
            · omega
            · exact h
          clear h0 HS
          go_wp2_with fail
          refine (space_no (z zs k) _ HSP.out).mono ?_
          rintro e w' ⟨rfl, rfl⟩
          go_wp2_with fail
          go_ret
          refine ⟨true, rfl, fun _ => ?_, rfl⟩
          obtain ⟨f, hf1, hf2, _, hf4, hf5, hf6⟩ := HF.out
          cases hcm : (z zs f == 44) with
          | true => exact ⟨k, hlt, Or.inr ⟨f, by omega, ⟨hf1, by omega, hf4, fun _ => hf5⟩, hcm, ⟨by omega, by omega, hf6, fun _ => HSP.out⟩⟩⟩
          | false => exact ⟨f, by omega, Or.inl ⟨⟨hf1, by omega, hf4, fun _ => hf5⟩, hcm⟩⟩
    · go_wp2_with fail
      · have h1 : (cnt : Int) = 1 := by assumption
        go_ret
        refine ⟨(fst != 44), rfl, fun hb => ?_, rfl⟩
        rcases HS.out with ⟨h0, _⟩ | ⟨_, f, hf1, hf2, rfl, hf4, hf5, hf6⟩
        · omega
        · exact ⟨f, by omega, Or.inl ⟨⟨hf1, by omega, hf4, fun _ => hf5⟩, by simpa using hb⟩⟩
      · go_ret
        exact ⟨false, rfl, (fun hb => by cases hb), rfl⟩
end Go.Proofs.Qxb6604071a
