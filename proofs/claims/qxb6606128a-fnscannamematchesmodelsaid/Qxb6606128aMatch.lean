/-
  SEAT b6606128a: the walk of FnScanNameMatchesModel.
-/
import Derived.Test.Qxb6606128aModel
namespace Go.Proofs.Qxb6606128a
open Go.RowKit

set_option maxRecDepth 100000 in
set_option maxHeartbeats 4000000 in
theorem matches_law (p : Option Addr) (len cap : Nat) (zs : List Int) (i : Nat) (w : World) (hl : len ≤ 1048576) (hi : i ≤ len) (hr : IsRow .u8 w p len cap zs) (hz : ∀ j, 0 ≤ zs.getD j 0 ∧ zs.getD j 0 ≤ 255) :
    Calls Try.prog 3 #[.slice p len cap, .int .i64 (i : Int)] w fun e w' => e = .returned (.bool true) ∧ Below w.heap.size w w' := by
  have HD : Hid (decide (len ≤ 1048576) = true) := decide_eq_true hl
  have HR : Hid (IsRow .u8 w p len cap zs) := hr
  have HZ : Hid (∀ j, 0 ≤ zs.getD j 0 ∧ zs.getD j 0 ≤ 255) := hz
  have d1 : decide ((i : Int) < 0) = false := decide_eq_false (by omega)
  have d2 : decide (len < i) = false := decide_eq_false (by omega)
  clear hr hz
  go_enter Try.func3, Try.ntmps3
  go_wp2_with fail
  refine (bytes6_any _ _ _ _ (by unfold maxLen; omega) _).mono ?_
  rintro e w0 ⟨he, hw0⟩
  obtain rfl := hw0.symm
  rw [HD.out] at he
  subst he
  go_wp2_with fail
  refine (clone_any _ _ _ zs _ HR.out hl).mono ?_
  rintro e w1 ⟨q, rfl, hb1, hq0, hq1⟩
  have HB1 : Hid (Below w.heap.size w w1) := hb1
  have HLN : Hid (Line w1 q len (fun k => zs.getD k 0)) := line_of HZ.out hq0 hq1
  clear hb1 hq0 hq1 HR HD
  go_wp2_with fail
  refine (zz_any q len len i _ rfl (fun k => zs.getD k 0) _ hl hi HLN.out).mono ?_
  rintro e w2 ⟨r, hsc, he, hb2⟩
  have HSC : Hid (Scan (fun k => zs.getD k 0) len i r) := hsc
  have HB2 : Hid (Below w.heap.size w w2) := HB1.out.trans (hb2.mono HB1.out.size)
  have HM : Hid (Calls Try.prog 9 #[.slice q len len, .int .i64 (i : Int)] w2 fun e w' => e = .returned (ans4 i r) ∧ Below w.heap.size w w') := by
    refine (model_any q len len i _ rfl (fun k => zs.getD k 0) w2 hl hi (HLN.out.below hb2)).mono ?_
    rintro e w3 ⟨r', hsc', he', hb3⟩
    rw [scan_one hsc hsc']
    exact ⟨he', HB2.out.trans (hb3.mono HB2.out.size)⟩
  clear hsc hb2 HLN HB1 HZ
  cases r with
  | none =>
    simp only [ans4] at he
    subst he
    go_wp2_with fail
    refine HM.out.mono ?_
    rintro e3 w3 ⟨he3, hb3⟩
    have HB3 : Hid (Below w.heap.size w w3) := hb3
    clear hb3 HM HB2 HSC
    simp only [ans4] at he3
    subst he3
    go_wp2_with fail
    go_ret
    exact ⟨rfl, HB3.out⟩
  | some x =>
    have hx : x ≤ len := (scan_cut HSC.out).2.2.1
    simp only [ans4] at he
    subst he
    go_wp2_with fail
    refine HM.out.mono ?_
    rintro e3 w3 ⟨he3, hb3⟩
    have HB3 : Hid (Below w.heap.size w w3) := hb3
    clear hb3 HM HB2 HSC
    simp only [ans4] at he3
    subst he3
    go_wp2_with fail
    go_ret
    exact ⟨rfl, HB3.out⟩
end Go.Proofs.Qxb6606128a
