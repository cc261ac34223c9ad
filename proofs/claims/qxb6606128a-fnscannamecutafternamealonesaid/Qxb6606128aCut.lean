/-
  SEAT b6606128a: the walk of FnScanNameCutAfterNameAlone.
-/
import Derived.Test.Qxb6606128aDoor
namespace Go.Proofs.Qxb6606128a
open Go.RowKit

set_option maxRecDepth 100000 in
set_option maxHeartbeats 4000000 in
theorem cut_law (p : Option Addr) (len cap : Nat) (zs : List Int) (i : Nat) (w : World) (hl : len ≤ 1048576) (hi : i ≤ len) (hr : IsRow .u8 w p len cap zs) (hz : ∀ j, 0 ≤ zs.getD j 0 ∧ zs.getD j 0 ≤ 255) :
    Calls Try.prog 5 #[.slice p len cap, .int .i64 (i : Int)] w fun e w' => e = .returned (.bool true) ∧ Below w.heap.size w w' := by
  have HD : Hid (decide (len ≤ 1048576) = true) := decide_eq_true hl
  have HR : Hid (IsRow .u8 w p len cap zs) := hr
  have HZ : Hid (∀ j, 0 ≤ zs.getD j 0 ∧ zs.getD j 0 ≤ 255) := hz
  have d1 : decide ((i : Int) < 0) = false := decide_eq_false (by omega)
  have d2 : decide (len < i) = false := decide_eq_false (by omega)
  clear hr hz
  go_enter Try.func5, Try.ntmps5
  go_wp2_with fail
  refine (bytes11_any _ _ _ _ (by unfold maxLen; omega) _).mono ?_
  rintro e w0 ⟨he, hw0⟩
  obtain rfl := hw0.symm
  rw [HD.out] at he
  subst he
  go_wp2_with fail
  refine (clone_any _ _ _ zs _ HR.out hl).mono ?_
  rintro e w1 ⟨q, rfl, hb1, hq0, hq1⟩
  have HB1 : Hid (Below w.heap.size w w1) := hb1
  have HLN : Hid (Line w1 q len (fun k => zs.getD k 0)) := line_of HZ.out hq0 hq1
  have HQ : Hid (0 < len → q = some ⟨w.heap.size, 0, none⟩) := fun hpos => by
    cases q with
    | none => have := hq0 rfl; omega
    | some ad => obtain ⟨rfl, _⟩ := hq1 ad rfl; rfl
  clear hb1 hq0 hq1 HR HD
  go_wp2_with fail
  refine (zz_any q len len i _ rfl (fun k => zs.getD k 0) _ hl hi HLN.out).mono ?_
  rintro e w2 ⟨r, hsc, he, hb2⟩
  have HSC : Hid (Scan (fun k => zs.getD k 0) len i r) := hsc
  have HL2 : Hid (Line w2 q len (fun k => zs.getD k 0)) := HLN.out.below hb2
  have HB2 : Hid (Below w.heap.size w w2) := HB1.out.trans (hb2.mono HB1.out.size)
  clear hsc hb2 HLN HB1
  cases r with
  | none =>
    simp only [ans4] at he
    subst he
    go_wp2_with fail
    go_ret
    exact ⟨rfl, HB2.out⟩
  | some e1 =>
    obtain ⟨hs1, hs2, hs3, hs4⟩ := scan_cut HSC.out
    have HS1 : Hid (Scan (fun k => zs.getD k 0) e1 i (some e1)) := hs1
    have hq := HQ.out (by omega)
    subst hq
    obtain ⟨g, o, e2, hg, hc⟩ := HL2.out.1 (by omega)
    simp only [Option.some.injEq, Addr.mk.injEq, and_true] at e2
    obtain ⟨rfl, rfl⟩ := e2
    have hL3 : Line w2 (some ⟨w.heap.size, 0, none⟩) e1 (fun k => zs.getD k 0) := ⟨fun _ => ⟨w.heap.size, 0, rfl, hg, fun k hk => hc k (by omega)⟩, fun k _ => HZ.out k⟩
    have HL3 : Hid (Line w2 (some ⟨w.heap.size, 0, none⟩) e1 (fun k => zs.getD k 0)) := hL3
    obtain ⟨x, hx⟩ : ∃ x, x = zs.getD (e1 - 1) 0 := ⟨_, rfl⟩
    have hcx : w2.cell? ⟨w.heap.size, e1 - 1, none⟩ = some (.int .u8 x) := by
      have h := hc (e1 - 1) (by omega)
      rw [Nat.zero_add] at h
      rw [hx]; exact h
    have hbx : (x == 32) = false := by rw [hx]; simpa using hs4
    clear hs1 hs4 hc hL3 hx HL2 HSC HZ HQ
    simp only [ans4] at he
    subst he
    go_wp2_with fail
    refine (zz_any (some ⟨w.heap.size, 0, none⟩) e1 len i _ rfl (fun k => zs.getD k 0) _ (by omega) (by omega) HL3.out).mono ?_
    rintro e3 w3 ⟨r', hsc', he3, hb3⟩
    obtain rfl : r' = some e1 := scan_one hsc' HS1.out
    have HB3 : Hid (Below w.heap.size w w3) := HB2.out.trans (hb3.mono HB2.out.size)
    clear hsc' hb3 HB2 HS1
    simp only [ans4] at he3
    subst he3
    go_wp2_with fail
    go_ret
    exact ⟨rfl, HB3.out⟩
end Go.Proofs.Qxb6606128a
