/-
  SEAT b6606128a: the walk of FnScanNameShiftInvariant.
-/
import Derived.Test.Qxb6606128aDoor
namespace Go.Proofs.Qxb6606128a
open Go.RowKit

set_option maxRecDepth 100000 in
set_option maxHeartbeats 4000000 in
theorem shift_law (p : Option Addr) (len cap : Nat) (zs : List Int) (i : Nat) (w : World) (hl : len ≤ 1048576) (hi : i ≤ len) (hr : IsRow .u8 w p len cap zs) (hz : ∀ j, 0 ≤ zs.getD j 0 ∧ zs.getD j 0 ≤ 255) :
    Calls Try.prog 4 #[.slice p len cap, .int .i64 (i : Int)] w fun e w' => e = .returned (.bool true) ∧ Below w.heap.size w w' := by
  have HD : Hid (decide (len ≤ 1048576) = true) := decide_eq_true hl
  have HR : Hid (IsRow .u8 w p len cap zs) := hr
  have HZ : Hid (∀ j, 0 ≤ zs.getD j 0 ∧ zs.getD j 0 ≤ 255) := hz
  have d1 : decide ((i : Int) < 0) = false := decide_eq_false (by omega)
  have d2 : decide (len < i) = false := decide_eq_false (by omega)
  clear hr hz
  go_enter Try.func4, Try.ntmps4
  go_wp2_with fail
  refine (bytes10_any _ _ _ _ (by unfold maxLen; omega) _).mono ?_
  rintro e w0 ⟨he, hw0⟩
  obtain rfl := hw0.symm
  rw [HD.out] at he
  subst he
  go_wp2_with fail
  refine (clone_any _ _ _ zs _ HR.out hl).mono ?_
  rintro e w1 ⟨q, rfl, hb1, hq0, hq1⟩
  have HB1 : Hid (Below w.heap.size w w1) := hb1
  have HLN : Hid (Line w1 q len (fun k => zs.getD k 0)) := line_of HZ.out hq0 hq1
  have HQ : Hid (q = none ∧ len = 0 ∨ q = some ⟨w.heap.size, 0, none⟩) := by
    cases q with
    | none => exact Or.inl ⟨rfl, hq0 rfl⟩
    | some ad => obtain ⟨rfl, _⟩ := hq1 ad rfl; exact Or.inr rfl
  clear hb1 hq0 hq1 HR HD
  go_wp2_with fail
  refine (zz_any q len len i _ rfl (fun k => zs.getD k 0) _ hl hi HLN.out).mono ?_
  rintro e w2 ⟨r, hsc, he, hb2⟩
  have HSC : Hid (Scan (fun k => zs.getD k 0) len i r) := hsc
  have HL2 : Hid (Line w2 q len (fun k => zs.getD k 0)) := HLN.out.below hb2
  have HB2 : Hid (Below w.heap.size w w2) := HB1.out.trans (hb2.mono HB1.out.size)
  clear hsc hb2 HLN HB1
  -- which value the second scan is handed
  have hsecond : ∀ (p' : Option Addr) (c' : Nat), (0 < len - i → p' = some ⟨w.heap.size, i, none⟩) → ∀ (n' : Nat), n' = len - i → Calls Try.prog 8 #[.slice p' n' c', .int .i64 0] w2 fun e w' => ∃ r', r = r'.map (i + ·) ∧ e = .returned (ans4 0 r') ∧ Below w.heap.size w w' := by
    intro p' c' hp' n' hn'
    subst hn'
    have hline : Line w2 p' (len - i) (fun k => zs.getD (i + k) 0) := by
      refine ⟨fun hpos => ?_, fun k _ => HZ.out _⟩
      rcases HQ.out with ⟨_, h0⟩ | hq
      · omega
      · obtain ⟨g, o, e1, hg, hc⟩ := HL2.out.1 (by omega)
        rw [hq] at e1
        simp only [Option.some.injEq, Addr.mk.injEq, and_true] at e1
        obtain ⟨rfl, rfl⟩ := e1
        exact ⟨w.heap.size, i, hp' hpos, hg, fun k hk => by rw [← Nat.zero_add (i + k)]; exact hc (i + k) (by omega)⟩
    refine (zz_any p' (len - i) c' 0 0 rfl (fun k => zs.getD (i + k) 0) w2 (by omega) (by omega) hline).mono ?_
    rintro e w3 ⟨r', hsc', he', hb3⟩
    exact ⟨r', scan_one HSC.out (scan_shift (z := fun k => zs.getD k 0) hi hsc'), he', HB2.out.trans (hb3.mono HB2.out.size)⟩
  have HSEC : Hid (∀ (p' : Option Addr) (c' : Nat), (0 < len - i → p' = some ⟨w.heap.size, i, none⟩) → ∀ (n' : Nat), n' = len - i → Calls Try.prog 8 #[.slice p' n' c', .int .i64 0] w2 fun e w' => ∃ r', r = r'.map (i + ·) ∧ e = .returned (ans4 0 r') ∧ Below w.heap.size w w') := hsecond
  cases r with
  | none =>
    clear hsecond HSC HL2 HB2 HZ
    simp only [ans4] at he
    subst he
    rcases HQ.out with ⟨rfl, rfl⟩ | rfl
    all_goals
      go_wp2_with fail
      all_goals
        refine (HSEC.out _ _ (fun h => by first | rfl | omega) _ (by omega)).mono ?_
        rintro e3 w3 ⟨r', hr', he3, hb3⟩
        cases r' with
        | some x => cases hr'
        | none =>
          have HB3 : Hid (Below w.heap.size w w3) := hb3
          clear hr' hb3 HSEC
          simp only [ans4, Int.natCast_zero] at he3
          subst he3
          go_wp2_with fail
          go_ret
          exact ⟨rfl, HB3.out⟩
  | some e1 =>
    have hel : e1 ≤ len := (scan_cut HSC.out).2.2.1
    clear hsecond HSC HL2 HB2 HZ
    simp only [ans4] at he
    subst he
    rcases HQ.out with ⟨rfl, rfl⟩ | rfl
    all_goals
      go_wp2_with fail
      all_goals
        refine (HSEC.out _ _ (fun h => by first | rfl | omega) _ (by omega)).mono ?_
        rintro e3 w3 ⟨r', hr', he3, hb3⟩
        cases r' with
        | none => cases hr'
        | some x =>
          have hx : e1 = i + x := by simpa using hr'
          have hb : ((e1 : Int) == (i : Int) + (x : Int)) = true := by rw [beq_iff_eq]; omega
          have hxl : x ≤ 1048576 := by omega
          have HB3 : Hid (Below w.heap.size w w3) := hb3
          clear hr' hb3 HSEC hx
          simp only [ans4, Int.natCast_zero] at he3
          subst he3
          go_wp2_with fail
          go_ret
          exact ⟨rfl, HB3.out⟩
end Go.Proofs.Qxb6606128a
