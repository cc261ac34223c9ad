/-
  SEAT b6605312a: the walk of FnIsIPv6AcceptsByGroupCount: an elision.
-/
import Derived.Test.Qxb6605312aWords
namespace Go.Proofs.Qxb6605312a
open Go.RowKit

set_option maxRecDepth 100000 in
set_option maxHeartbeats 8000000 in
theorem law_el (p : Option Addr) (len cap : Nat) (zs : List Int) (at_ : Nat) (hat : at_ ≤ len) (up hz : Bool) (zone : ByteArray) (hl : len ≤ 4096) (hzl : zone.size ≤ 65536) (w : World) (hr : IsRow .u16 w p len cap zs) (hu : ∀ j, 0 ≤ zs.getD j 0 ∧ zs.getD j 0 ≤ 65535) :
    Calls Try.prog 4 #[.slice p len cap, .bool true, .int .i64 (at_ : Int), .bool up, .bool hz, .string zone] w fun e w' => e = .returned (.bool true) ∧ Below w.heap.size w w' := by
  have HD : Hid (decide (len + zone.size ≤ 1048576) = true) := decide_eq_true (by omega)
  have HR : Hid (IsRow .u16 w p len cap zs) := hr
  have HU : Hid (∀ j, 0 ≤ zs.getD j 0 ∧ zs.getD j 0 ≤ 65535) := hu
  obtain ⟨i5, hi, hz0, hz1, hz2⟩ := info_parts Try.info5
  have dl1 : decide ((4096 : Int) < (len : Int)) = false := decide_eq_false (by omega)
  have dl2 : decide ((65536 : Int) < (zone.size : Int)) = false := decide_eq_false (by omega)
  have da1 : decide ((at_ : Int) < 0) = false := decide_eq_false (by omega)
  have da2 : decide ((len : Int) < (at_ : Int)) = false := decide_eq_false (by omega)
  have da3 : decide (len < at_) = false := decide_eq_false (by omega)
  clear hr hu
  go_enter Try.func4, Try.ntmps4
  go_wp2_with fail
  refine (bytes_any _ _ _ _ _ _ _ _ (by unfold maxLen; omega) (by unfold maxLen; omega) _).mono ?_
  rintro e w0 ⟨he, hw0⟩
  obtain rfl := hw0.symm
  rw [HD.out] at he
  subst he
  go_wp2_with fail
  refine (clone_any _ _ _ zs _ HR.out (by omega)).mono ?_
  rintro e w1 ⟨q, rfl, hb1, hq0, hq1⟩
  have HB1 : Hid (Below w.heap.size w w1) := hb1
  have HQ : Hid (0 < len → q = some ⟨w.heap.size, 0, none⟩ ∧ w.heap.size < w1.heap.size) := fun hpos => by
    cases q with
    | none => have := hq0 rfl; omega
    | some ad => obtain ⟨rfl, hcl⟩ := hq1 ad rfl; exact ⟨rfl, hcl.lt⟩
  have HC : Hid (∀ j, j < len → w1.cell? ⟨w.heap.size, j, none⟩ = some (.int .u16 (zs.getD j 0))) := fun j hj => by
    cases q with
    | none => have := hq0 rfl; omega
    | some ad => exact (hq1 ad rfl).2.cell j hj
  clear hb1 hq0 hq1 HR HD
  obtain ⟨B, hBB⟩ : ∃ B, B = w1.heap.size := ⟨_, rfl⟩
  have hB1 : B ≤ w1.heap.size := by omega
  have hB2 : w1.heap.size ≤ B := by omega
  clear hBB
  go_wp2_with fail
  go_loopg [13, 14] len (fun gh tv iv wr => ∃ i : Nat, i ≤ len ∧ gh = len - i ∧ iv = .int .i64 (i : Int) ∧ ∃ X, Owns wr B tv X ∧ Writes true at_ up zs len i X ∧ Below B w1 wr)
  case atStart => exact ⟨0, by omega, rfl, rfl, [], World.ownsRow_nil _ _ _ _, Writes.start _ _ _ _ _, Below.refl _ _⟩
  case round =>
    obtain ⟨i, hi1, rfl, rfl, X, hown, hwr, hbel⟩ := hrel
    obtain ⟨tv, htv⟩ : ∃ tv, tv = u13 := ⟨_, rfl⟩
    rw [← htv] at hown ⊢
    clear htv
    have HO : Hid (Owns wr B tv X) := hown
    have HW : Hid (Writes true at_ up zs len i X) := hwr
    have HB : Hid (Below B w1 wr) := hbel
    have hsz := hbel.size
    have hXl := hwr.len
    clear hown hwr hbel
    by_cases hlt : i < len
    · obtain ⟨hqe, hgB0⟩ := HQ.out (by omega)
      have hgB : w.heap.size < B := by omega
      subst hqe
      have hii : (i : Int) < (len : Int) := by omega
      by_cases hia : i = at_
      · have hib : ((i : Int) == (at_ : Int)) = true := by simp; omega
        have HS : Hid (sep true at_ i = [58, 58]) := sep_two true at_ i ⟨rfl, hia⟩
        clear hia
        go_wp2_with (first | (at_builtin; refine wpList_append_own _ rfl _ _ 22 rfl B 5 i5 (.int .u8 0) 1 1 Try.underlying22 hi hz0 hz1 hz2 rfl (by decide) _ _ _ rfl (HO.out.alloc _) ⟨wr.heap.size, 0, none⟩ 2 2 [.int .u8 58, .int .u8 58] rfl rfl ?c13x ?c23x ?c33x ?c43x ?c53x ?_))
        try (case c13x => exact cell_two_new _ _ _ _)
        try (case c23x => first | rfl | (intro v hv; simp at hv; subst hv; rfl))
        try (case c33x => first | omega | (unfold maxLen; omega))
        try (case c43x => omega)
        try (case c53x => first | omega | (simp; omega))
        intro v4 w4 hown4 hgrow4 _
        have HO4 : Hid (Owns w4 B v4 (X ++ [58, 58])) := Owns.of hown4 (by simp) (by simp [ints])
        have HB4 : Hid (Below B w1 w4) := (HB.out.alloc (by omega) _).grown hgrow4 (by simp; omega) HO.out.blk
        have hsz4 : w1.heap.size ≤ w4.heap.size := HB4.out.size
        clear hown4 hgrow4 HO HB
        have qg : w4.cell? ⟨w.heap.size, i, none⟩ = some (.int .u16 (zs.getD i 0)) := (HB4.out.cell (p := ⟨w.heap.size, i, none⟩) hgB).trans (HC.out i hlt)
        go_wp2_with fail
        refine (hex_any B _ (X ++ [58, 58]) (zs.getD i 0) up _ (by omega) HO4.out (by first | omega | (simp; omega)) (HU.out i).1 (HU.out i).2).mono ?_
        rintro e w8 ⟨v8, rfl, hown8, hbel8⟩
        have HO8 : Hid (Owns w8 B v8 (X ++ sep true at_ i ++ hexG up (zs.getD i 0))) := by show Owns w8 B v8 (X ++ sep true at_ i ++ hexG up (zs.getD i 0)); have h := hown8; rw [HS.out]; simpa using h
        have HB8 : Hid (Below B w1 w8) := HB4.out.trans hbel8
        have HW8 : Hid (Writes true at_ up zs len (i + 1) (X ++ sep true at_ i ++ hexG up (zs.getD i 0))) := HW.out.next hlt
        clear hown8 hbel8 HO4 HB4 qg HW
        go_wp2_with fail
        go_roundg (len - (i + 1))
        case measure => omega
        case rel => exact ⟨i + 1, by omega, rfl, by go_num, _, HO8.out, HW8.out, HB8.out⟩
      · have hib : ((i : Int) == (at_ : Int)) = false := by simp; omega
        have HNA : Hid (¬ (true = true ∧ i = at_)) := fun h => hia h.2
        by_cases hi0 : i = 0
        · have hi0' : i ≤ 0 := by omega
          have HS : Hid (sep true at_ i = []) := sep_no true at_ i HNA.out hi0
          clear hi0 hia
          have qg : wr.cell? ⟨w.heap.size, i, none⟩ = some (.int .u16 (zs.getD i 0)) := (HB.out.cell (p := ⟨w.heap.size, i, none⟩) hgB).trans (HC.out i hlt)
          go_wp2_with fail
          refine (hex_any B _ (X) (zs.getD i 0) up _ (by omega) HO.out (by first | omega | (simp; omega)) (HU.out i).1 (HU.out i).2).mono ?_
          rintro e w8 ⟨v8, rfl, hown8, hbel8⟩
          have HO8 : Hid (Owns w8 B v8 (X ++ sep true at_ i ++ hexG up (zs.getD i 0))) := by show Owns w8 B v8 (X ++ sep true at_ i ++ hexG up (zs.getD i 0)); have h := hown8; rw [HS.out]; simpa using h
          have HB8 : Hid (Below B w1 w8) := HB.out.trans hbel8
          have HW8 : Hid (Writes true at_ up zs len (i + 1) (X ++ sep true at_ i ++ hexG up (zs.getD i 0))) := HW.out.next hlt
          clear hown8 hbel8 HO HB qg HW
          go_wp2_with fail
          go_roundg (len - (i + 1))
          case measure => omega
          case rel => exact ⟨i + 1, by omega, rfl, by go_num, _, HO8.out, HW8.out, HB8.out⟩
        · have hi0' : 1 ≤ i := by omega
          have HS : Hid (sep true at_ i = [58]) := sep_one true at_ i HNA.out (by omega)
          clear hi0 hia
          go_wp2_with (first | (at_builtin; refine wpList_append_own _ rfl _ _ 22 rfl B 5 i5 (.int .u8 0) 1 1 Try.underlying22 hi hz0 hz1 hz2 rfl (by decide) _ _ _ rfl (HO.out.alloc _) ⟨wr.heap.size, 0, none⟩ 1 1 [.int .u8 58] rfl rfl ?c14x ?c24x ?c34x ?c44x ?c54x ?_))
          try (case c14x => exact cell_one_new _ _ _)
          try (case c24x => first | rfl | (intro v hv; simp at hv; subst hv; rfl))
          try (case c34x => first | omega | (unfold maxLen; omega))
          try (case c44x => omega)
          try (case c54x => first | omega | (simp; omega))
          intro v4 w4 hown4 hgrow4 _
          have HO4 : Hid (Owns w4 B v4 (X ++ [58])) := Owns.of hown4 (by simp) (by simp [ints])
          have HB4 : Hid (Below B w1 w4) := (HB.out.alloc (by omega) _).grown hgrow4 (by simp; omega) HO.out.blk
          have hsz4 : w1.heap.size ≤ w4.heap.size := HB4.out.size
          clear hown4 hgrow4 HO HB
          have qg : w4.cell? ⟨w.heap.size, i, none⟩ = some (.int .u16 (zs.getD i 0)) := (HB4.out.cell (p := ⟨w.heap.size, i, none⟩) hgB).trans (HC.out i hlt)
          go_wp2_with fail
          refine (hex_any B _ (X ++ [58]) (zs.getD i 0) up _ (by omega) HO4.out (by first | omega | (simp; omega)) (HU.out i).1 (HU.out i).2).mono ?_
          rintro e w8 ⟨v8, rfl, hown8, hbel8⟩
          have HO8 : Hid (Owns w8 B v8 (X ++ sep true at_ i ++ hexG up (zs.getD i 0))) := by show Owns w8 B v8 (X ++ sep true at_ i ++ hexG up (zs.getD i 0)); have h := hown8; rw [HS.out]; simpa using h
          have HB8 : Hid (Below B w1 w8) := HB4.out.trans hbel8
          have HW8 : Hid (Writes true at_ up zs len (i + 1) (X ++ sep true at_ i ++ hexG up (zs.getD i 0))) := HW.out.next hlt
          clear hown8 hbel8 HO4 HB4 qg HW
          go_wp2_with fail
          go_roundg (len - (i + 1))
          case measure => omega
          case rel => exact ⟨i + 1, by omega, rfl, by go_num, _, HO8.out, HW8.out, HB8.out⟩
    · have hlast : len = i := by omega
      subst hlast
      have HT := HW.out.whole
      have hTl := body_le true at_ (groups up zs len) 0 (groups_good up zs len)
      rw [groups_len] at hTl
      by_cases hia : len = at_
      · have hib : ((at_ : Int) == (len : Int)) = true := by simp; omega
        rw [if_pos ⟨rfl, hia⟩] at HT
        have HT2 : Hid (X ++ [58, 58] = body true at_ 0 (groups up zs len)) := HT
        clear hia HT HW
        go_wp2_with (first | (at_builtin; refine wpList_append_own _ rfl _ _ 22 rfl B 5 i5 (.int .u8 0) 1 1 Try.underlying22 hi hz0 hz1 hz2 rfl (by decide) _ _ _ rfl (HO.out.alloc _) ⟨wr.heap.size, 0, none⟩ 2 2 [.int .u8 58, .int .u8 58] rfl rfl ?c15x ?c25x ?c35x ?c45x ?c55x ?_))
        try (case c15x => exact cell_two_new _ _ _ _)
        try (case c25x => first | rfl | (intro v hv; simp at hv; subst hv; rfl))
        try (case c35x => first | omega | (unfold maxLen; omega))
        try (case c45x => omega)
        try (case c55x => first | omega | (simp; omega))
        intro v4 w4 hown4 hgrow4 _
        have HO4 : Hid (Owns w4 B v4 (X ++ [58, 58])) := Owns.of hown4 (by simp) (by simp [ints])
        have HB4 : Hid (Below B w1 w4) := (HB.out.alloc (by omega) _).grown hgrow4 (by simp; omega) HO.out.blk
        have hsz4 : w1.heap.size ≤ w4.heap.size := HB4.out.size
        clear hown4 hgrow4 HO HB
        have HOt : Hid (Owns w4 B v4 (body true at_ 0 (groups up zs len))) := by have h := HO4.out; rw [HT2.out] at h; exact h
        obtain ⟨tv, htv⟩ : ∃ tv, tv = v4 := ⟨_, rfl⟩
        rw [← htv] at HOt ⊢
        clear htv HO4
        cases hz with
        | false =>
          have HOz : Hid (Owns w4 B tv (body true at_ 0 (groups up zs len) ++ zpart false (nums zone))) := by show Owns w4 B tv (body true at_ 0 (groups up zs len) ++ zpart false (nums zone)); have h := HOt.out; simpa [zpart] using h
          by_cases h8 : len ≤ 7
          · have HWA : Hid (wants len true false zone.size = true) := by show wants len true false zone.size = true; simp [wants, want]; omega
            have hb7 : (len : Int) ≤ 7 := by omega
            clear h8
            go_wp2_with fail
            refine (zz_any _ B true at_ (groups up zs len) false (nums zone) _ (groups_good up zs len) (by rw [groups_len]; omega) (fun h => by first | (cases h; done) | (rw [groups_len]; omega)) HOz.out).mono ?_
            rintro e w9 ⟨he, hb9⟩
            rw [groups_len, nums_len, HWA.out] at he
            subst he
            go_wp2_with fail
            go_ret
            exact ⟨rfl, (HB1.out.trans (HB4.out.mono (by have := HB1.out.size; omega))).trans (hb9.mono (by have := HB1.out.size; have := HB4.out.size; omega))⟩
          · have HWA : Hid (wants len true false zone.size = false) := by show wants len true false zone.size = false; simp [wants, want]; omega
            have hb7 : decide ((len : Int) ≤ 7) = false := decide_eq_false (by omega)
            clear h8
            go_wp2_with fail
            refine (zz_any _ B true at_ (groups up zs len) false (nums zone) _ (groups_good up zs len) (by rw [groups_len]; omega) (fun h => by first | (cases h; done) | (rw [groups_len]; omega)) HOz.out).mono ?_
            rintro e w9 ⟨he, hb9⟩
            rw [groups_len, nums_len, HWA.out] at he
            subst he
            go_wp2_with fail
            go_ret
            exact ⟨rfl, (HB1.out.trans (HB4.out.mono (by have := HB1.out.size; omega))).trans (hb9.mono (by have := HB1.out.size; have := HB4.out.size; omega))⟩
        | true =>
          go_wp2_with (first | (at_builtin; refine wpList_append_own _ rfl _ _ 22 rfl B 5 i5 (.int .u8 0) 1 1 Try.underlying22 hi hz0 hz1 hz2 rfl (by decide) _ _ _ rfl (HOt.out.alloc _) ⟨w4.heap.size, 0, none⟩ 1 1 [.int .u8 37] rfl rfl ?c16x ?c26x ?c36x ?c46x ?c56x ?_))
          try (case c16x => exact cell_one_new _ _ _)
          try (case c26x => first | rfl | (intro v hv; simp at hv; subst hv; rfl))
          try (case c36x => first | omega | (unfold maxLen; omega))
          try (case c46x => omega)
          try (case c56x => first | omega | (simp; omega))
          intro v5 w5 hown5 hgrow5 _
          have HO5 : Hid (Owns w5 B v5 (body true at_ 0 (groups up zs len) ++ [37])) := Owns.of hown5 (by simp) (by simp [ints])
          have HB5 : Hid (Below B w1 w5) := (HB4.out.alloc (by omega) _).grown hgrow5 (by simp; omega) HOt.out.blk
          have hsz5 : w1.heap.size ≤ w5.heap.size := HB5.out.size
          clear hown5 hgrow5 HOt HB4
          go_wp2_with (first | (at_builtin; refine Lib.wpList_append_own_string _ rfl _ _ 22 9 rfl B 5 i5 Try.underlying22 Try.underlying9 hi hz0 hz1 hz2 _ _ _ rfl HO5.out zone rfl ?z16x ?z26x ?z36x ?_))
          try (case z16x => first | omega | (unfold maxLen; simp; omega))
          try (case z26x => first | omega | (simp; omega))
          try (case z36x => omega)
          intro v6 w6 hown6 hgrow6 _
          have HO6 : Hid (Owns w6 B v6 (body true at_ 0 (groups up zs len) ++ zpart true (nums zone))) := Owns.of hown6 (by simp [zpart, nums_len]; omega) (by rw [nums_cells]; simp [ints, zpart])
          have HB6 : Hid (Below B w1 w6) := HB5.out.grown hgrow6 (by omega) HO5.out.blk
          clear hown6 hgrow6 HO5 HB5
          by_cases hzz : 0 < zone.size
          · have hzi : (0 : Int) < (zone.size : Int) := by omega
            by_cases h8 : len ≤ 7
            · have HWA : Hid (wants len true true zone.size = true) := by show wants len true true zone.size = true; simp [wants, want]; omega
              have hb7 : (len : Int) ≤ 7 := by omega
              clear h8
              go_wp2_with fail
              refine (zz_any _ B true at_ (groups up zs len) true (nums zone) _ (groups_good up zs len) (by rw [groups_len]; omega) (fun h => by first | (cases h; done) | (rw [groups_len]; omega)) HO6.out).mono ?_
              rintro e w9 ⟨he, hb9⟩
              rw [groups_len, nums_len, HWA.out] at he
              subst he
              go_wp2_with fail
              go_ret
              exact ⟨rfl, (HB1.out.trans (HB6.out.mono (by have := HB1.out.size; omega))).trans (hb9.mono (by have := HB1.out.size; have := HB6.out.size; omega))⟩
            · have HWA : Hid (wants len true true zone.size = false) := by show wants len true true zone.size = false; simp [wants, want]; omega
              have hb7 : decide ((len : Int) ≤ 7) = false := decide_eq_false (by omega)
              clear h8
              go_wp2_with fail
              refine (zz_any _ B true at_ (groups up zs len) true (nums zone) _ (groups_good up zs len) (by rw [groups_len]; omega) (fun h => by first | (cases h; done) | (rw [groups_len]; omega)) HO6.out).mono ?_
              rintro e w9 ⟨he, hb9⟩
              rw [groups_len, nums_len, HWA.out] at he
              subst he
              go_wp2_with fail
              go_ret
              exact ⟨rfl, (HB1.out.trans (HB6.out.mono (by have := HB1.out.size; omega))).trans (hb9.mono (by have := HB1.out.size; have := HB6.out.size; omega))⟩
          · by_cases h8 : len ≤ 7
            · have HWA : Hid (wants len true true zone.size = false) := by show wants len true true zone.size = false; have hd : decide (0 < zone.size) = false := decide_eq_false hzz; simp only [wants, hd]; cases want len true <;> rfl
              have hzi : decide ((0 : Int) < (zone.size : Int)) = false := decide_eq_false (by omega)
              have hb7 : (len : Int) ≤ 7 := by omega
              clear h8
              go_wp2_with fail
              refine (zz_any _ B true at_ (groups up zs len) true (nums zone) _ (groups_good up zs len) (by rw [groups_len]; omega) (fun h => by first | (cases h; done) | (rw [groups_len]; omega)) HO6.out).mono ?_
              rintro e w9 ⟨he, hb9⟩
              rw [groups_len, nums_len, HWA.out] at he
              subst he
              go_wp2_with fail
              go_ret
              exact ⟨rfl, (HB1.out.trans (HB6.out.mono (by have := HB1.out.size; omega))).trans (hb9.mono (by have := HB1.out.size; have := HB6.out.size; omega))⟩
            · have HWA : Hid (wants len true true zone.size = false) := by show wants len true true zone.size = false; have hd : decide (0 < zone.size) = false := decide_eq_false hzz; simp only [wants, hd]; cases want len true <;> rfl
              have hzi : decide ((0 : Int) < (zone.size : Int)) = false := decide_eq_false (by omega)
              have hb7 : decide ((len : Int) ≤ 7) = false := decide_eq_false (by omega)
              clear h8
              go_wp2_with fail
              refine (zz_any _ B true at_ (groups up zs len) true (nums zone) _ (groups_good up zs len) (by rw [groups_len]; omega) (fun h => by first | (cases h; done) | (rw [groups_len]; omega)) HO6.out).mono ?_
              rintro e w9 ⟨he, hb9⟩
              rw [groups_len, nums_len, HWA.out] at he
              subst he
              go_wp2_with fail
              go_ret
              exact ⟨rfl, (HB1.out.trans (HB6.out.mono (by have := HB1.out.size; omega))).trans (hb9.mono (by have := HB1.out.size; have := HB6.out.size; omega))⟩
      · have hib : ((at_ : Int) == (len : Int)) = false := by simp; omega
        rw [if_neg (fun h => hia h.2)] at HT
        have HOt : Hid (Owns wr B tv (body true at_ 0 (groups up zs len))) := by show Owns wr B tv (body true at_ 0 (groups up zs len)); have h := HO.out; rw [← HT]; simpa using h
        clear hia HT HW HO
        cases hz with
        | false =>
          have HOz : Hid (Owns wr B tv (body true at_ 0 (groups up zs len) ++ zpart false (nums zone))) := by show Owns wr B tv (body true at_ 0 (groups up zs len) ++ zpart false (nums zone)); have h := HOt.out; simpa [zpart] using h
          by_cases h8 : len ≤ 7
          · have HWA : Hid (wants len true false zone.size = true) := by show wants len true false zone.size = true; simp [wants, want]; omega
            have hb7 : (len : Int) ≤ 7 := by omega
            clear h8
            go_wp2_with fail
            refine (zz_any _ B true at_ (groups up zs len) false (nums zone) _ (groups_good up zs len) (by rw [groups_len]; omega) (fun h => by first | (cases h; done) | (rw [groups_len]; omega)) HOz.out).mono ?_
            rintro e w9 ⟨he, hb9⟩
            rw [groups_len, nums_len, HWA.out] at he
            subst he
            go_wp2_with fail
            go_ret
            exact ⟨rfl, (HB1.out.trans (HB.out.mono (by have := HB1.out.size; omega))).trans (hb9.mono (by have := HB1.out.size; have := HB.out.size; omega))⟩
          · have HWA : Hid (wants len true false zone.size = false) := by show wants len true false zone.size = false; simp [wants, want]; omega
            have hb7 : decide ((len : Int) ≤ 7) = false := decide_eq_false (by omega)
            clear h8
            go_wp2_with fail
            refine (zz_any _ B true at_ (groups up zs len) false (nums zone) _ (groups_good up zs len) (by rw [groups_len]; omega) (fun h => by first | (cases h; done) | (rw [groups_len]; omega)) HOz.out).mono ?_
            rintro e w9 ⟨he, hb9⟩
            rw [groups_len, nums_len, HWA.out] at he
            subst he
            go_wp2_with fail
            go_ret
            exact ⟨rfl, (HB1.out.trans (HB.out.mono (by have := HB1.out.size; omega))).trans (hb9.mono (by have := HB1.out.size; have := HB.out.size; omega))⟩
        | true =>
          go_wp2_with (first | (at_builtin; refine wpList_append_own _ rfl _ _ 22 rfl B 5 i5 (.int .u8 0) 1 1 Try.underlying22 hi hz0 hz1 hz2 rfl (by decide) _ _ _ rfl (HOt.out.alloc _) ⟨wr.heap.size, 0, none⟩ 1 1 [.int .u8 37] rfl rfl ?c17x ?c27x ?c37x ?c47x ?c57x ?_))
          try (case c17x => exact cell_one_new _ _ _)
          try (case c27x => first | rfl | (intro v hv; simp at hv; subst hv; rfl))
          try (case c37x => first | omega | (unfold maxLen; omega))
          try (case c47x => omega)
          try (case c57x => first | omega | (simp; omega))
          intro v5 w5 hown5 hgrow5 _
          have HO5 : Hid (Owns w5 B v5 (body true at_ 0 (groups up zs len) ++ [37])) := Owns.of hown5 (by simp) (by simp [ints])
          have HB5 : Hid (Below B w1 w5) := (HB.out.alloc (by omega) _).grown hgrow5 (by simp; omega) HOt.out.blk
          have hsz5 : w1.heap.size ≤ w5.heap.size := HB5.out.size
          clear hown5 hgrow5 HOt HB
          go_wp2_with (first | (at_builtin; refine Lib.wpList_append_own_string _ rfl _ _ 22 9 rfl B 5 i5 Try.underlying22 Try.underlying9 hi hz0 hz1 hz2 _ _ _ rfl HO5.out zone rfl ?z17x ?z27x ?z37x ?_))
          try (case z17x => first | omega | (unfold maxLen; simp; omega))
          try (case z27x => first | omega | (simp; omega))
          try (case z37x => omega)
          intro v6 w6 hown6 hgrow6 _
          have HO6 : Hid (Owns w6 B v6 (body true at_ 0 (groups up zs len) ++ zpart true (nums zone))) := Owns.of hown6 (by simp [zpart, nums_len]; omega) (by rw [nums_cells]; simp [ints, zpart])
          have HB6 : Hid (Below B w1 w6) := HB5.out.grown hgrow6 (by omega) HO5.out.blk
          clear hown6 hgrow6 HO5 HB5
          by_cases hzz : 0 < zone.size
          · have hzi : (0 : Int) < (zone.size : Int) := by omega
            by_cases h8 : len ≤ 7
            · have HWA : Hid (wants len true true zone.size = true) := by show wants len true true zone.size = true; simp [wants, want]; omega
              have hb7 : (len : Int) ≤ 7 := by omega
              clear h8
              go_wp2_with fail
              refine (zz_any _ B true at_ (groups up zs len) true (nums zone) _ (groups_good up zs len) (by rw [groups_len]; omega) (fun h => by first | (cases h; done) | (rw [groups_len]; omega)) HO6.out).mono ?_
              rintro e w9 ⟨he, hb9⟩
              rw [groups_len, nums_len, HWA.out] at he
              subst he
              go_wp2_with fail
              go_ret
              exact ⟨rfl, (HB1.out.trans (HB6.out.mono (by have := HB1.out.size; omega))).trans (hb9.mono (by have := HB1.out.size; have := HB6.out.size; omega))⟩
            · have HWA : Hid (wants len true true zone.size = false) := by show wants len true true zone.size = false; simp [wants, want]; omega
              have hb7 : decide ((len : Int) ≤ 7) = false := decide_eq_false (by omega)
              clear h8
              go_wp2_with fail
              refine (zz_any _ B true at_ (groups up zs len) true (nums zone) _ (groups_good up zs len) (by rw [groups_len]; omega) (fun h => by first | (cases h; done) | (rw [groups_len]; omega)) HO6.out).mono ?_
              rintro e w9 ⟨he, hb9⟩
              rw [groups_len, nums_len, HWA.out] at he
              subst he
              go_wp2_with fail
              go_ret
              exact ⟨rfl, (HB1.out.trans (HB6.out.mono (by have := HB1.out.size; omega))).trans (hb9.mono (by have := HB1.out.size; have := HB6.out.size; omega))⟩
          · by_cases h8 : len ≤ 7
            · have HWA : Hid (wants len true true zone.size = false) := by show wants len true true zone.size = false; have hd : decide (0 < zone.size) = false := decide_eq_false hzz; simp only [wants, hd]; cases want len true <;> rfl
              have hzi : decide ((0 : Int) < (zone.size : Int)) = false := decide_eq_false (by omega)
              have hb7 : (len : Int) ≤ 7 := by omega
              clear h8
              go_wp2_with fail
              refine (zz_any _ B true at_ (groups up zs len) true (nums zone) _ (groups_good up zs len) (by rw [groups_len]; omega) (fun h => by first | (cases h; done) | (rw [groups_len]; omega)) HO6.out).mono ?_
              rintro e w9 ⟨he, hb9⟩
              rw [groups_len, nums_len, HWA.out] at he
              subst he
              go_wp2_with fail
              go_ret
              exact ⟨rfl, (HB1.out.trans (HB6.out.mono (by have := HB1.out.size; omega))).trans (hb9.mono (by have := HB1.out.size; have := HB6.out.size; omega))⟩
            · have HWA : Hid (wants len true true zone.size = false) := by show wants len true true zone.size = false; have hd : decide (0 < zone.size) = false := decide_eq_false hzz; simp only [wants, hd]; cases want len true <;> rfl
              have hzi : decide ((0 : Int) < (zone.size : Int)) = false := decide_eq_false (by omega)
              have hb7 : decide ((len : Int) ≤ 7) = false := decide_eq_false (by omega)
              clear h8
              go_wp2_with fail
              refine (zz_any _ B true at_ (groups up zs len) true (nums zone) _ (groups_good up zs len) (by rw [groups_len]; omega) (fun h => by first | (cases h; done) | (rw [groups_len]; omega)) HO6.out).mono ?_
              rintro e w9 ⟨he, hb9⟩
              rw [groups_len, nums_len, HWA.out] at he
              subst he
              go_wp2_with fail
              go_ret
              exact ⟨rfl, (HB1.out.trans (HB6.out.mono (by have := HB1.out.size; omega))).trans (hb9.mono (by have := HB1.out.size; have := HB6.out.size; omega))⟩
end Go.Proofs.Qxb6605312a
