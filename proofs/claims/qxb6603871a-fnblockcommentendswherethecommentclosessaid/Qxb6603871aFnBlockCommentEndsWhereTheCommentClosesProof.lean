/-
  THE PROOF OF 'Rows.FnBlockCommentEndsWhereTheCommentClosesSaid' ('example.com/foldtx/foldtx/zzlaws_root_b1.FnBlockCommentEndsWhereTheCommentCloses'), WRITTEN BY PROGRAM (proof-skeleton.mjs) off the guide's own print for that function. Not trusted: Lean checks it.
  The walk is filled; the row's step goes by the wrap that keeps the world's shape (HandedShaped), since strings.Index reads a variable of the library's own.
-/
import Derived.Test.Qxb6603871aRows
import Derived.WalkKit
import Derived.ProofKit
import Derived.OpenShut
import Derived.ShutString
import Derived.HandedShaped
import Derived.Test.Qxb6603871aLaw
import Derived.Test.Qxb6603871aEarly
namespace Go.Proofs.Qxb6603871a.fnBlockCommentEndsWhereTheCommentCloses
open Go.ChangeShapes Go.WideShapes Go.ChangeAt Go.RowKit
open Go.ChangeMaps (open_string shut_string)
set_option linter.unusedVariables false      -- a walk need not use every 'w<i>' (that an integer argument fits its kind)

theorem own : ownKnob Try.prog.godebug = none := by kernel_rfl

/-! ### THE WALK -/
theorem walk (a0 : ByteArray) (a1 : Int) (a2 : Int) (a3 : Int) (a4 : ByteArray) (a5 : Bool) (a6 : Bool) (a7 : Int) (a8 : Bool) (a9 : Bool) (w0 : a0.size ≤ maxLen) (w4 : a4.size ≤ maxLen) (w : World) (m : Int) (hm : w.cell? ⟨0, 0, none⟩ = some (.int .i64 m)) :
    Calls Try.prog 3 #[.string a0, .int .i64 a1, .int .i32 a2, .int .i64 a3, .string a4, .bool a5, .bool a6, .int .i64 a7, .bool a8, .bool a9] w fun e w' => e = .returned (.bool true) ∧ Below w.heap.size w w' := by
  by_cases hsz : 1048576 < a0.size + a4.size
  · exact law_great a0 a1 a2 a3 a4 a5 a6 a7 a8 a9 w w0 w4 hsz
  · have hs : a0.size + a4.size ≤ 1048576 := by omega
    by_cases hi0 : a1 < 0
    · exact law_neg a0 a1 a2 a3 a4 a5 a6 a7 a8 a9 w hs hi0
    · by_cases hi1 : (a0.size : Int) - 2 < a1
      · exact law_past a0 a1 a2 a3 a4 a5 a6 a7 a8 a9 w hs (by omega) hi1
      · obtain ⟨i, rfl⟩ := Int.eq_ofNat_of_zero_le (show 0 ≤ a1 by omega)
        by_cases ho : Open a0 i
        · by_cases hk : a2 = 3
          · subst hk
            cases h3 : Lib.hasPrefix (a0.data.toList.drop i) [47, 42, 33] with
            | true => exact law_bang3 a0 i a3 m a4 a5 a6 a7 a8 a9 w hs ho h3 hm
            | false =>
              cases h4 : Lib.hasPrefix (a0.data.toList.drop i) [47, 42, 77, 33] with
              | true => exact law_bang4 a0 i a3 m a4 a5 a6 a7 a8 a9 w hs ho h3 h4 hm
              | false => exact law_first a0 i a3 m a4 a5 a6 a7 a8 a9 w hs ho h3 h4 hm
          · exact law_nest a0 i a2 a3 m a4 a5 a6 a7 a8 a9 w hs ho (by simpa using hk) hm
        · exact law_other a0 i a2 a3 a4 a5 a6 a7 a8 a9 w hs (by omega) ho

theorem maxLenCell {W : World} (h : W.ShapedOpen Try.prog) : ∃ m, W.cell? ⟨0, 0, none⟩ = some (.int .i64 m) := Try.laysM143.s1_3 W h

/-! ### THE ROW's STEP: WRITTEN OUT: LEAVE IT -/
set_option maxRecDepth 100000 in
theorem lifted (os : Os) (started : os.Started) (H : Type) (enc : TypeId × Value → H) :
    ReturnsInHanded {} Try.checked os 3 .any (Rows.fnBlockCommentEndsWhereTheCommentClosesSpec.pre6 enc Try.prog Try.f3 Rows.fnBlockCommentEndsWhereTheCommentClosesRow.domain false) (Rows.fnBlockCommentEndsWhereTheCommentClosesSpec.post enc Try.prog Try.f3 false true false false) := by
  refine returnsInHanded_of_change_shaped (C := Try.checked) own started (by kernel_rfl) Try.func3
    (ChangeSpec.witness6 (enc := enc) (C := Try.checked) false ⟨#[], #[.string ByteArray.empty, .int .i64 0, .int .i32 0, .int .i64 0, .string ByteArray.empty, .bool false, .bool false, .int .i64 0, .bool false, .bool false], []⟩ 8 (by kernel_rfl) (by kernel_rfl) (by kernel_rfl) (by kernel_rfl)) ?_
  intro W base args ds gs before hval0 hW hcnd _ hsh _
  obtain ⟨mx, hmx⟩ : ∃ m, W.cell? ⟨0, 0, none⟩ = some (.int .i64 m) := maxLenCell hsh
  have hval : ∀ (j : Nat) t v, Try.f3.params[j]? = some t → args[j]? = some v → Value.okWide Try.prog W .any base t v := hval0
  have hW' := hW
  obtain ⟨p, q, hA0, hV, rfl, hfz, hnd⟩ := hW
  have hA : DataW.TrodAll enc Try.prog W 0 (fun _ => true) true Try.f3.params.toList args.toList ds p := hA0
  rw [Try.params3] at hA hval
  obtain ⟨v0, vs0, d0, ds0, p0, q0, hargs, rfl, rfl, h0, r0⟩ := trodAll_cons hA
  obtain ⟨v1, vs1, d1, ds1, p1, q1, rfl, rfl, rfl, h1, r1⟩ := trodAll_cons r0
  obtain ⟨v2, vs2, d2, ds2, p2, q2, rfl, rfl, rfl, h2, r2⟩ := trodAll_cons r1
  obtain ⟨v3, vs3, d3, ds3, p3, q3, rfl, rfl, rfl, h3, r3⟩ := trodAll_cons r2
  obtain ⟨v4, vs4, d4, ds4, p4, q4, rfl, rfl, rfl, h4, r4⟩ := trodAll_cons r3
  obtain ⟨v5, vs5, d5, ds5, p5, q5, rfl, rfl, rfl, h5, r5⟩ := trodAll_cons r4
  obtain ⟨v6, vs6, d6, ds6, p6, q6, rfl, rfl, rfl, h6, r6⟩ := trodAll_cons r5
  obtain ⟨v7, vs7, d7, ds7, p7, q7, rfl, rfl, rfl, h7, r7⟩ := trodAll_cons r6
  obtain ⟨v8, vs8, d8, ds8, p8, q8, rfl, rfl, rfl, h8, r8⟩ := trodAll_cons r7
  obtain ⟨v9, vs9, d9, ds9, p9, q9, rfl, rfl, rfl, h9, r9⟩ := trodAll_cons r8
  obtain ⟨rfl, rfl, rfl⟩ := trodAll_nil r9
  obtain rfl : args = #[v0, v1, v2, v3, v4, v5, v6, v7, v8, v9] := by cases args; simp_all
  obtain ⟨rfl, rfl⟩ := trodVars_none hV
  obtain ⟨a0, rfl, rfl, rfl, w0⟩ := open_string Try.underlying9 (hval 0 9 v0 rfl rfl) h0
  obtain ⟨a1, rfl, rfl, rfl, w1⟩ := open_int Try.underlying3 (hval 1 3 v1 rfl rfl) h1
  obtain ⟨a2, rfl, rfl, rfl, w2⟩ := open_int Try.underlying21 (hval 2 21 v2 rfl rfl) h2
  obtain ⟨a3, rfl, rfl, rfl, w3⟩ := open_int Try.underlying3 (hval 3 3 v3 rfl rfl) h3
  obtain ⟨a4, rfl, rfl, rfl, w4⟩ := open_string Try.underlying9 (hval 4 9 v4 rfl rfl) h4
  obtain ⟨a5, rfl, rfl, rfl⟩ := open_bool Try.underlying4 (hval 5 4 v5 rfl rfl) h5
  obtain ⟨a6, rfl, rfl, rfl⟩ := open_bool Try.underlying4 (hval 6 4 v6 rfl rfl) h6
  obtain ⟨a7, rfl, rfl, rfl, w7⟩ := open_int Try.underlying3 (hval 7 3 v7 rfl rfl) h7
  obtain ⟨a8, rfl, rfl, rfl⟩ := open_bool Try.underlying4 (hval 8 4 v8 rfl rfl) h8
  obtain ⟨a9, rfl, rfl, rfl⟩ := open_bool Try.underlying4 (hval 9 4 v9 rfl rfl) h9
  clear hA0 hval0
  simp only [List.append_nil] at hW'
  refine (walk a0 a1 a2 a3 a4 a5 a6 a7 a8 a9 w0 w4 W mx hmx).mono fun e W' ⟨he, bel⟩ => ?_
  subst he
  exact ⟨_, rfl, _, _, _, [], [], [], hW', trodAll_mk1 (shut_bool Try.underlying4 _), (trodAll_cons_mk (shut_string Try.underlying9 w0) (trodAll_cons_mk (shut_int Try.underlying3 w1) (trodAll_cons_mk (shut_int Try.underlying21 w2) (trodAll_cons_mk (shut_int Try.underlying3 w3) (trodAll_cons_mk (shut_string Try.underlying9 w4) (trodAll_cons_mk (shut_bool Try.underlying4 _) (trodAll_cons_mk (shut_bool Try.underlying4 _) (trodAll_cons_mk (shut_int Try.underlying3 w7) (trodAll_cons_mk (shut_bool Try.underlying4 _) (trodAll_cons_mk (shut_bool Try.underlying4 _) trodAll_mk0)))))))))), rfl, bel.frame _, fun h => by cases h⟩

theorem over : Rows.fnBlockCommentEndsWhereTheCommentClosesRow.holds Try.pinned (OpenSpec.ofChange Rows.fnBlockCommentEndsWhereTheCommentClosesSpec) :=
  OpenClaim.holds_of_wide 3 Try.f3 rfl rfl rfl rfl rfl rfl rfl ⟨rfl, rfl, rfl, rfl, rfl⟩ rfl rfl rfl rfl rfl (by kernel_rfl) Try.func3 (by kernel_rfl)
    (of_decide_eq_true (by kernel_rfl)) (by unfold Func.isWrapper; first | (rw [if_pos (by decide +kernel)]; kernel_rfl) | (rw [if_neg (by decide +kernel)]; exact ⟨rfl, rfl⟩))
    (fun os started H enc _ => lifted os started H enc)

/-- ████ THE STATEMENT ████ -/
theorem proved : Rows.FnBlockCommentEndsWhereTheCommentClosesSaid :=
  over
#print axioms proved
end Go.Proofs.Qxb6603871a.fnBlockCommentEndsWhereTheCommentCloses
