/-
  SEAT b6605312a: isIPv6 on a text of groups: no zone, an elision at the head.
-/
import Derived.Test.Qxb6605312aStand
namespace Go.Proofs.Qxb6605312a
open Go.RowKit

set_option maxRecDepth 100000 in
set_option maxHeartbeats 4000000 in
theorem parse_head (g c : Nat) (el : Bool) (at_ : Nat) (Gs : List (List Int)) (w : World) (hg : g < w.heap.size) (hG : ∀ G ∈ Gs, Good G) (hn : Gs.length ≤ 4096) (hat : el = true → at_ ≤ Gs.length) (hnp : el = true ∧ 0 = at_)
    (hc : (body el at_ 0 Gs).length ≤ c) (hc2 : c ≤ maxLen) (ha : At w g 0 (body el at_ 0 Gs)) :
    Calls Try.prog 22 #[.slice (some ⟨g, 0, none⟩) (body el at_ 0 Gs).length c] w fun e w' => e = .returned (.bool (want Gs.length el)) ∧ Below w.heap.size w w' := by
  unfold maxLen at hc2
  have hbl := body_le el at_ Gs 0 hG
  have HP : Hid (∀ x ∈ body el at_ 0 Gs, Plain x) := body_plain el at_ Gs 0 hG
  have HAT : Hid (At w g 0 (body el at_ 0 Gs)) := ha
  have HG : Hid (∀ G ∈ Gs, Good G) := hG
  have HNP : Hid (el = true ∧ 0 = at_) := hnp
  have HN : Hid (el = true → at_ ≤ Gs.length) := hat
  clear ha hG hnp hat
  have kc := fun (w : World) (C : Array Value) (n c : Nat) => Lib.run_convert_bytes_const (P := Try.prog) w 22 5 C n c Try.underlying22 Try.underlying5
  generalize hbody : body el at_ 0 Gs = T at *
  have HT : Hid (body el at_ 0 Gs = T) := hbody
  clear hbody
  go_enter Try.func22, Try.ntmps22
  go_wp2_with fail
  refine (Try.bytes_IndexByte g 0 T.length c T 37 _ rfl (by exact HAT.out)).mono ?_
  rintro e w1 ⟨he, hw1⟩
  obtain rfl := hw1.symm
  rw [show (37 : Int).toNat.toUInt8 = 37 by decide, idx_none T HP.out] at he
  subst he
  go_wp2_with fail
  refine (Try.bytes_HasPrefix_all _ _ _ _ _ _ T [58, 58] _ rfl rfl hc (At.bytes (o := 0) (g := g) (HAT.out.below ((Below.refl _ _).alloc (Nat.le_refl _) _) hg) _ (fun _ => rfl)) (fun _ => ⟨w.heap.size, 0, rfl, fun i hi => ?_⟩)).mono ?_
  · rw [World.cell?_alloc_mark]
    have hi2 : i < 2 := hi
    have : i = 0 ∨ i = 1 := by omega
    rcases this with rfl | rfl <;> rfl
  rintro e w1 ⟨he, hw1⟩
  have htrue : Lib.hasPrefix (Lib.bytesOf T) (Lib.bytesOf [58, 58]) = true := by
    refine (pre_two T HP.out).2 ?_
    have h2 := (body_two el at_ Gs HG.out).2 HNP.out
    rw [HT.out] at h2
    exact h2
  rw [htrue] at he
  subst he
  subst hw1
  clear htrue
  have HT2 : Hid (T = 58 :: 58 :: strip el at_ Gs) := by show T = _; rw [← HT.out, body_zero, if_pos HNP.out]; rfl
  have hT2 : 2 ≤ T.length := by rw [HT2.out]; simp
  have HLS : Hid (T.length = (strip el at_ Gs).length + 2) := by show T.length = _; rw [HT2.out]; simp
  have HAW : Hid (At (w.alloc (.cells #[.int .u8 58, .int .u8 58] 5 (2, 3))) g 2 (strip el at_ Gs)) := by
    have h := HAT.out.below ((Below.refl w.heap.size w).alloc (Nat.le_refl _) (.cells #[.int .u8 58, .int .u8 58] 5 (2, 3))) hg
    rw [HT2.out] at h
    exact h.tail.tail
  have HBW : Hid (Below w.heap.size w (w.alloc (.cells #[.int .u8 58, .int .u8 58] 5 (2, 3)))) := (Below.refl _ _).alloc (Nat.le_refl _) _
  generalize hW : w.alloc (.cells #[.int .u8 58, .int .u8 58] 5 (2, 3)) = W at *
  clear hW
  go_wp2_with fail
  all_goals
    go_loopg [0, 4, 5] Gs.length (fun gh b gr ed wr => W = wr ∧ ∃ (i : Nat) (rest : List (List Int)) (e : Bool), gh = rest.length ∧ gr = .int .i64 (i : Int) ∧ ed = .bool e ∧ Stands el at_ Gs.length g W i rest b e)
    case atStart => exact ⟨rfl, 0, Gs, true, rfl, rfl, rfl, ⟨by omega, HG.out, strip el at_ Gs, 2, _, _, slice_len (by have := HLS.out; omega), (by have := HLS.out; omega), by omega, (fun h => by first | rfl | (have := HLS.out; omega)), HAW.out, Or.inl ⟨rfl, rfl, (decide_eq_true HNP.out).symm⟩⟩⟩
    case round =>
      obtain ⟨rfl, i, rest, e, rfl, rfl, rfl, hS⟩ := hrel
      obtain ⟨hin, hgood, r, off, c1, p, rfl, hrc, hc1, hp, har, hph⟩ := hS
      clear HAW HT2 HLS HAT HP HG HT
      by_cases hr0 : r.length = 0
      · -- nothing is left
        have hrn : r = [] := List.eq_nil_of_length_eq_zero hr0
        have hend : rest = [] ∧ e = el := by
          rcases hph with ⟨h1, h2, h3⟩ | ⟨h1, h2, h3⟩
          · cases rest with
            | nil =>
              refine ⟨rfl, ?_⟩
              rw [h3]
              cases el with
              | false => simp
              | true => have := HN.out rfl; simp at hin; simp; omega
            | cons G rest =>
              have := (hgood G (List.mem_cons_self ..)).1
              rw [hrn] at h2
              have h4 := congrArg List.length h2
              simp [strip] at h4
              omega
          · cases rest with
            | nil =>
              refine ⟨rfl, ?_⟩
              rw [h3]
              cases el with
              | false => simp
              | true =>
                have h5 := HN.out rfl
                have h6 : ¬ i = at_ := fun h => by rw [hrn, body_end true at_ i ⟨rfl, h⟩] at h2; cases h2
                simp at hin
                simp; omega
            | cons G rest =>
              exfalso
              rw [hrn] at h2
              by_cases hh : el = true ∧ i = at_
              · rw [body_two_at el at_ i G rest hh] at h2; cases h2
              · rw [body_one_at el at_ i G rest h1 hh] at h2; cases h2
        obtain ⟨rfl, rfl⟩ := hend
        simp at hin
        have hlen0 : r.length ≤ 0 := by omega
        generalize r.length = R at *
        clear hph hp har hgood hrn hr0
        have hi1 : i ≤ Gs.length := by omega
        have hi2 : Gs.length ≤ i := by omega
        cases e with
        | false =>
          by_cases h8 : i = 8
          · have HW : Hid (want Gs.length false = true) := by show want Gs.length false = true; simp [want]; omega
            have hb1 : ((i : Int) == 8) = true := by simp; omega
            clear hin h8 HN HNP
            go_wp2_with fail
            all_goals (go_ret; exact ⟨ret_bool HW.out.symm, HBW.out⟩)
          · have HW : Hid (want Gs.length false = false) := by show want Gs.length false = false; simp [want]; omega
            have hb1 : ((i : Int) == 8) = false := by simp; omega
            clear hin h8 HN HNP
            go_wp2_with fail
            all_goals (go_ret; exact ⟨ret_bool HW.out.symm, HBW.out⟩)
        | true =>
          by_cases h8 : i < 8
          · have HW : Hid (want Gs.length true = true) := by show want Gs.length true = true; simp [want]; omega
            have hb1 : ((i : Int) == 8) = false := by simp; omega
            have hb2 : (i : Int) < 8 := by omega
            clear hin h8 HN HNP
            go_wp2_with fail
            all_goals (go_ret; exact ⟨ret_bool HW.out.symm, HBW.out⟩)
          · have HW : Hid (want Gs.length true = false) := by show want Gs.length true = false; simp [want]; omega
            have hb2 : decide ((i : Int) < 8) = false := decide_eq_false (by omega)
            clear hin h8 HN HNP
            by_cases h9 : i = 8
            · have hb1 : ((i : Int) == 8) = true := by simp; omega
              clear h9
              go_wp2_with fail
              all_goals (go_ret; exact ⟨ret_bool HW.out.symm, HBW.out⟩)
            · have hb1 : ((i : Int) == 8) = false := by simp; omega
              clear h9
              go_wp2_with fail
              all_goals (go_ret; exact ⟨ret_bool HW.out.symm, HBW.out⟩)
      · have hr1 : 1 ≤ r.length := by omega
        obtain rfl : p = some ⟨g, off, none⟩ := hp (by omega)
        clear hp hr0
        have HAR : Hid (At W g off r) := har
        clear har
        rcases hph with ⟨h0, hrr, he⟩ | ⟨h1, hrr, he⟩
        · -- the first group
          cases rest with
          | nil => rw [hrr] at hr1; simp [strip] at hr1
          | cons G rest =>
            have hG := hgood G (List.mem_cons_self ..)
            have HGR : Hid (∀ G' ∈ rest, Good G') := fun G' hG' => hgood G' (List.mem_cons_of_mem _ hG')
            have hAR : At W g (off) (G ++ body el at_ (i + 1) rest) := by have := HAR.out; rw [hrr] at this; rw [h0]; exact this
            have HAG0 : Hid (∀ k, k < G.length → ∃ x, W.cell? ⟨g, off + k, none⟩ = some (.int .u8 x) ∧ HexC x) := fun k hk => ⟨_, hAR.left k hk, hG.2.2 _ (by rw [List.getD_eq_getElem?_getD, List.getElem?_eq_getElem hk]; exact List.getElem_mem hk)⟩
            have HAT0 : Hid (At W g (off + G.length) (body el at_ (i + 1) rest)) := hAR.right
            have HHD0 : Hid (0 < (body el at_ (i + 1) rest).length → W.cell? ⟨g, off + G.length, none⟩ = some (.int .u8 58)) := fun hpos => by
              rcases body_head el at_ (i + 1) rest (by omega) with h | ⟨r', h⟩
              · rw [h] at hpos; simp at hpos
              · have h2 := HAT0.out; rw [h] at h2; exact h2.head
            have hl1 : r.length ≤ 0 + G.length + (body el at_ (i + 1) rest).length := by rw [hrr, h0]; simp [strip]
            have hl2 : 0 + G.length + (body el at_ (i + 1) rest).length ≤ r.length := by rw [hrr, h0]; simp [strip]
            have hg1 := hG.1
            have hg2 := hG.2.1
            have hrl : i + 1 + rest.length ≤ 4096 := by simp at hin; omega
            have HIN : Hid (i + 1 + rest.length = Gs.length) := by show i + 1 + rest.length = Gs.length; simp at hin; omega
            obtain ⟨tl, htl⟩ : ∃ tl, tl = body el at_ (i + 1) rest := ⟨_, rfl⟩
            obtain ⟨LG, hLG⟩ : ∃ LG, LG = G.length := ⟨_, rfl⟩
            obtain ⟨LT, hLT⟩ : ∃ LT, LT = tl.length := ⟨_, rfl⟩
            obtain ⟨R, hR⟩ : ∃ R, R = r.length := ⟨_, rfl⟩
            have HAG : Hid (∀ k, k < LG → ∃ x, W.cell? ⟨g, off + k, none⟩ = some (.int .u8 x) ∧ HexC x) := by rw [hLG]; exact HAG0.out
            have HAT2 : Hid (At W g (off + LG) tl) := by rw [hLG, htl]; exact HAT0.out
            have HHD : Hid (0 < LT → W.cell? ⟨g, off + LG, none⟩ = some (.int .u8 58)) := by rw [hLG, hLT, htl]; exact HHD0.out
            rw [← htl, ← hLT, ← hLG, ← hR] at hl1 hl2
            rw [← hLG] at hg1 hg2
            rw [← hR] at hr1 hrc ⊢
            have HTL : Hid (tl = body el at_ (i + 1) rest) := htl
            have HLT : Hid (LT = tl.length) := hLT
            have HE : Hid (e = decide (el = true ∧ at_ < i + 1)) := by show e = decide (el = true ∧ at_ < i + 1); rw [he, h0]; congr 1; simp; omega
            have hi0 : i ≤ 0 := by omega
            have hdR : decide (0 < R) = true := decide_eq_true (by omega)
            have hdi : decide (0 < i) = false := decide_eq_false (by omega)
            have hb0 : ((LG : Int) == 0) = false := by simp; omega
            have hb4 : decide ((4 : Int) < (LG : Int)) = false := decide_eq_false (by omega)
            clear hgood hG hAR HAR hrr he hin HNP HN htl hLG hLT hR HAG0 HAT0 HHD0 h0
            go_wp2_with fail
            go_loopg [6] LG (fun gh nn wr => W = wr ∧ ∃ k : Nat, k ≤ LG ∧ gh = LG - k ∧ nn = .int .i64 (k : Int))
            case atStart => exact ⟨rfl, 0, by omega, rfl, rfl⟩
            case round =>
              obtain ⟨rfl, k, hk, rfl, rfl⟩ := hrel
              by_cases hkl : k < LG
              · obtain ⟨x, hck, hhx⟩ := HAG.out k hkl
                have HHX : Hid (HexC x) := hhx
                clear hhx
                go_wp2_with fail
                refine (digit_yes x HHX.out _).mono ?_
                rintro e9 w9 ⟨rfl, hw9⟩
                obtain rfl := hw9.symm
                go_wp2_with fail
                go_roundg (LG - (k + 1))
                case measure => omega
                case rel => exact ⟨rfl, k + 1, by omega, rfl, by go_num⟩
              · have hkG : LG = k := by omega
                subst hkG
                by_cases hlt0 : LT = 0
                · have hlt1 : LT ≤ 0 := by omega
                  clear hlt0
                  go_wp2_with fail
                  all_goals
                    go_roundg rest.length
                    case measure => simp
                    case rel => exact ⟨rfl, i + 1, rest, e, rfl, by go_num, rfl, HIN.out, HGR.out, tl, off + LG, _, _, slice_len (by rw [← HLT.out]; omega), by rw [← HLT.out]; omega, by omega, (fun h => by have := HLT.out; omega), HAT2.out, Or.inr ⟨by omega, HTL.out, HE.out⟩⟩
                · have hlt1 : 1 ≤ LT := by omega
                  have hcx := HHD.out (by omega)
                  clear hlt0
                  go_wp2_with fail
                  refine (digit_no _).mono ?_
                  rintro e9 w9 ⟨rfl, hw9⟩
                  obtain rfl := hw9.symm
                  go_wp2_with fail
                  go_roundg rest.length
                  case measure => simp
                  case rel => exact ⟨rfl, i + 1, rest, e, rfl, by go_num, rfl, HIN.out, HGR.out, tl, off + LG, _, _, slice_len (by rw [← HLT.out]; omega), by rw [← HLT.out]; omega, by omega, (fun h => rfl), HAT2.out, Or.inr ⟨by omega, HTL.out, HE.out⟩⟩
        · cases rest with
          | nil =>
            -- the elision at the end
            have hel : el = true ∧ i = at_ := by
              by_cases hh : el = true ∧ i = at_
              · exact hh
              · rw [hrr, body_end_no el at_ i hh] at hr1; simp at hr1
            have hAR : At W g off [58, 58] := by have := HAR.out; rw [hrr, body_end el at_ i hel] at this; exact this
            have hc0 := hAR.head
            have hc1' := hAR.tail.head
            have hef : e = false := by rw [he]; simp; omega
            subst hef
            have hl1 : r.length ≤ 2 := by rw [hrr, body_end el at_ i hel]; simp
            have hl2 : 2 ≤ r.length := by rw [hrr, body_end el at_ i hel]; simp
            have hi1 : i ≤ Gs.length := by simp at hin; omega
            have hi2 : Gs.length ≤ i := by simp at hin; omega
            generalize r.length = R at *
            by_cases h8 : i < 8
            · have HW : Hid (want Gs.length el = true) := by show want Gs.length el = true; rw [hel.1]; simp [want]; omega
              have hb1 : ((i : Int) == 8) = false := by simp; omega
              have hb2 : (i : Int) < 8 := by omega
              clear hin h8 HN HNP hel hAR HAR hrr he hgood
              go_wp2_with fail
              all_goals (go_ret; exact ⟨ret_bool HW.out.symm, HBW.out⟩)
            · have HW : Hid (want Gs.length el = false) := by show want Gs.length el = false; rw [hel.1]; simp [want]; omega
              have hb2 : decide ((i : Int) < 8) = false := decide_eq_false (by omega)
              clear hin h8 HN HNP hel hAR HAR hrr he hgood
              by_cases h9 : i = 8
              · have hb1 : ((i : Int) == 8) = true := by simp; omega
                clear h9
                go_wp2_with fail
                all_goals (go_ret; exact ⟨ret_bool HW.out.symm, HBW.out⟩)
              · have hb1 : ((i : Int) == 8) = false := by simp; omega
                clear h9
                go_wp2_with fail
                all_goals (go_ret; exact ⟨ret_bool HW.out.symm, HBW.out⟩)
          | cons G rest =>
            by_cases hh : el = true ∧ i = at_
            · -- the elision, then a group
              have hARR : At W g off (58 :: 58 :: (G ++ body el at_ (i + 1) rest)) := by have := HAR.out; rw [hrr, body_two_at el at_ i G rest hh] at this; exact this
              have hc0 := hARR.head
              have hc1' := hARR.tail.head
              have hG := hgood G (List.mem_cons_self ..)
              have HGR : Hid (∀ G' ∈ rest, Good G') := fun G' hG' => hgood G' (List.mem_cons_of_mem _ hG')
              have hAR : At W g (off + 1 + 1) (G ++ body el at_ (i + 1) rest) := hARR.tail.tail
              have HAG0 : Hid (∀ k, k < G.length → ∃ x, W.cell? ⟨g, off + 1 + 1 + k, none⟩ = some (.int .u8 x) ∧ HexC x) := fun k hk => ⟨_, hAR.left k hk, hG.2.2 _ (by rw [List.getD_eq_getElem?_getD, List.getElem?_eq_getElem hk]; exact List.getElem_mem hk)⟩
              have HAT0 : Hid (At W g (off + 1 + 1 + G.length) (body el at_ (i + 1) rest)) := hAR.right
              have HHD0 : Hid (0 < (body el at_ (i + 1) rest).length → W.cell? ⟨g, off + 1 + 1 + G.length, none⟩ = some (.int .u8 58)) := fun hpos => by
                rcases body_head el at_ (i + 1) rest (by omega) with h | ⟨r', h⟩
                · rw [h] at hpos; simp at hpos
                · have h2 := HAT0.out; rw [h] at h2; exact h2.head
              have hl1 : r.length ≤ 2 + G.length + (body el at_ (i + 1) rest).length := by rw [hrr, body_two_at el at_ i G rest hh]; simp; omega
              have hl2 : 2 + G.length + (body el at_ (i + 1) rest).length ≤ r.length := by rw [hrr, body_two_at el at_ i G rest hh]; simp; omega
              have hg1 := hG.1
              have hg2 := hG.2.1
              have hrl : i + 1 + rest.length ≤ 4096 := by simp at hin; omega
              have HIN : Hid (i + 1 + rest.length = Gs.length) := by show i + 1 + rest.length = Gs.length; simp at hin; omega
              obtain ⟨tl, htl⟩ : ∃ tl, tl = body el at_ (i + 1) rest := ⟨_, rfl⟩
              obtain ⟨LG, hLG⟩ : ∃ LG, LG = G.length := ⟨_, rfl⟩
              obtain ⟨LT, hLT⟩ : ∃ LT, LT = tl.length := ⟨_, rfl⟩
              obtain ⟨R, hR⟩ : ∃ R, R = r.length := ⟨_, rfl⟩
              have HAG : Hid (∀ k, k < LG → ∃ x, W.cell? ⟨g, off + 1 + 1 + k, none⟩ = some (.int .u8 x) ∧ HexC x) := by rw [hLG]; exact HAG0.out
              have HAT2 : Hid (At W g (off + 1 + 1 + LG) tl) := by rw [hLG, htl]; exact HAT0.out
              have HHD : Hid (0 < LT → W.cell? ⟨g, off + 1 + 1 + LG, none⟩ = some (.int .u8 58)) := by rw [hLG, hLT, htl]; exact HHD0.out
              rw [← htl, ← hLT, ← hLG, ← hR] at hl1 hl2
              rw [← hLG] at hg1 hg2
              rw [← hR] at hr1 hrc ⊢
              have HTL : Hid (tl = body el at_ (i + 1) rest) := htl
              have HLT : Hid (LT = tl.length) := hLT
              have HE : Hid (true = decide (el = true ∧ at_ < i + 1)) := by show true = decide (el = true ∧ at_ < i + 1); symm; simp; exact ⟨hh.1, by omega⟩
              have hef : e = false := by rw [he]; simp; omega
              subst hef
              have hbz : (((R - 1 - 1 : Nat) : Int) == 0) = false := by rw [beq_eq_false_iff_ne]; omega
              have hdR : decide (0 < R) = true := decide_eq_true (by omega)
              have hdi : decide (0 < i) = true := decide_eq_true (by omega)
              have hb0 : ((LG : Int) == 0) = false := by simp; omega
              have hb4 : decide ((4 : Int) < (LG : Int)) = false := decide_eq_false (by omega)
              clear hgood hG hAR HAR hrr he hin HNP HN htl hLG hLT hR HAG0 HAT0 HHD0 hh hARR
              go_wp2_with fail
              go_loopg [6] LG (fun gh nn wr => W = wr ∧ ∃ k : Nat, k ≤ LG ∧ gh = LG - k ∧ nn = .int .i64 (k : Int))
              case atStart => exact ⟨rfl, 0, by omega, rfl, rfl⟩
              case round =>
                obtain ⟨rfl, k, hk, rfl, rfl⟩ := hrel
                by_cases hkl : k < LG
                · obtain ⟨x, hck, hhx⟩ := HAG.out k hkl
                  have HHX : Hid (HexC x) := hhx
                  clear hhx
                  go_wp2_with fail
                  refine (digit_yes x HHX.out _).mono ?_
                  rintro e9 w9 ⟨rfl, hw9⟩
                  obtain rfl := hw9.symm
                  go_wp2_with fail
                  go_roundg (LG - (k + 1))
                  case measure => omega
                  case rel => exact ⟨rfl, k + 1, by omega, rfl, by go_num⟩
                · have hkG : LG = k := by omega
                  subst hkG
                  by_cases hlt0 : LT = 0
                  · have hlt1 : LT ≤ 0 := by omega
                    clear hlt0
                    go_wp2_with fail
                    all_goals
                      go_roundg rest.length
                      case measure => simp
                      case rel => exact ⟨rfl, i + 1, rest, true, rfl, by go_num, rfl, HIN.out, HGR.out, tl, off + 1 + 1 + LG, _, _, slice_len (by rw [← HLT.out]; omega), by rw [← HLT.out]; omega, by omega, (fun h => by have := HLT.out; omega), HAT2.out, Or.inr ⟨by omega, HTL.out, HE.out⟩⟩
                  · have hlt1 : 1 ≤ LT := by omega
                    have hcx := HHD.out (by omega)
                    clear hlt0
                    go_wp2_with fail
                    refine (digit_no _).mono ?_
                    rintro e9 w9 ⟨rfl, hw9⟩
                    obtain rfl := hw9.symm
                    go_wp2_with fail
                    go_roundg rest.length
                    case measure => simp
                    case rel => exact ⟨rfl, i + 1, rest, true, rfl, by go_num, rfl, HIN.out, HGR.out, tl, off + 1 + 1 + LG, _, _, slice_len (by rw [← HLT.out]; omega), by rw [← HLT.out]; omega, by omega, (fun h => rfl), HAT2.out, Or.inr ⟨by omega, HTL.out, HE.out⟩⟩
            · -- a colon, then a group
              have hARR : At W g off (58 :: (G ++ body el at_ (i + 1) rest)) := by have := HAR.out; rw [hrr, body_one_at el at_ i G rest h1 hh] at this; exact this
              have hc0 := hARR.head
              have hG := hgood G (List.mem_cons_self ..)
              have HGR : Hid (∀ G' ∈ rest, Good G') := fun G' hG' => hgood G' (List.mem_cons_of_mem _ hG')
              have hAR : At W g (off + 1) (G ++ body el at_ (i + 1) rest) := hARR.tail
              have HAG0 : Hid (∀ k, k < G.length → ∃ x, W.cell? ⟨g, off + 1 + k, none⟩ = some (.int .u8 x) ∧ HexC x) := fun k hk => ⟨_, hAR.left k hk, hG.2.2 _ (by rw [List.getD_eq_getElem?_getD, List.getElem?_eq_getElem hk]; exact List.getElem_mem hk)⟩
              have HAT0 : Hid (At W g (off + 1 + G.length) (body el at_ (i + 1) rest)) := hAR.right
              have HHD0 : Hid (0 < (body el at_ (i + 1) rest).length → W.cell? ⟨g, off + 1 + G.length, none⟩ = some (.int .u8 58)) := fun hpos => by
                rcases body_head el at_ (i + 1) rest (by omega) with h | ⟨r', h⟩
                · rw [h] at hpos; simp at hpos
                · have h2 := HAT0.out; rw [h] at h2; exact h2.head
              have hl1 : r.length ≤ 1 + G.length + (body el at_ (i + 1) rest).length := by rw [hrr, body_one_at el at_ i G rest h1 hh]; simp; omega
              have hl2 : 1 + G.length + (body el at_ (i + 1) rest).length ≤ r.length := by rw [hrr, body_one_at el at_ i G rest h1 hh]; simp; omega
              have hg1 := hG.1
              have hg2 := hG.2.1
              have hrl : i + 1 + rest.length ≤ 4096 := by simp at hin; omega
              have HIN : Hid (i + 1 + rest.length = Gs.length) := by show i + 1 + rest.length = Gs.length; simp at hin; omega
              obtain ⟨tl, htl⟩ : ∃ tl, tl = body el at_ (i + 1) rest := ⟨_, rfl⟩
              obtain ⟨LG, hLG⟩ : ∃ LG, LG = G.length := ⟨_, rfl⟩
              obtain ⟨LT, hLT⟩ : ∃ LT, LT = tl.length := ⟨_, rfl⟩
              obtain ⟨R, hR⟩ : ∃ R, R = r.length := ⟨_, rfl⟩
              have HAG : Hid (∀ k, k < LG → ∃ x, W.cell? ⟨g, off + 1 + k, none⟩ = some (.int .u8 x) ∧ HexC x) := by rw [hLG]; exact HAG0.out
              have HAT2 : Hid (At W g (off + 1 + LG) tl) := by rw [hLG, htl]; exact HAT0.out
              have HHD : Hid (0 < LT → W.cell? ⟨g, off + 1 + LG, none⟩ = some (.int .u8 58)) := by rw [hLG, hLT, htl]; exact HHD0.out
              rw [← htl, ← hLT, ← hLG, ← hR] at hl1 hl2
              rw [← hLG] at hg1 hg2
              rw [← hR] at hr1 hrc ⊢
              have HTL : Hid (tl = body el at_ (i + 1) rest) := htl
              have HLT : Hid (LT = tl.length) := hLT
              have HE : Hid (e = decide (el = true ∧ at_ < i + 1)) := by
                show e = decide (el = true ∧ at_ < i + 1)
                rw [he]
                refine decide_eq_decide.2 ⟨fun h => ⟨h.1, by omega⟩, fun h => ⟨h.1, ?_⟩⟩
                have : ¬ i = at_ := fun e => hh ⟨h.1, e⟩
                omega
              obtain ⟨x0, hx0, hxh⟩ := HAG.out 0 (by omega)
              have hxc : W.cell? ⟨g, off + 1, none⟩ = some (.int .u8 x0) := hx0
              have hxb : (x0 == 58) = false := by have := (hex_ne hxh).1; simpa using this
              clear hx0 hxh
              have hdR : decide (0 < R) = true := decide_eq_true (by omega)
              have hdi : decide (0 < i) = true := decide_eq_true (by omega)
              have hb0 : ((LG : Int) == 0) = false := by simp; omega
              have hb4 : decide ((4 : Int) < (LG : Int)) = false := decide_eq_false (by omega)
              clear hgood hG hAR HAR hrr he hin HNP HN htl hLG hLT hR HAG0 HAT0 HHD0 hh hARR
              go_wp2_with fail
              go_loopg [6] LG (fun gh nn wr => W = wr ∧ ∃ k : Nat, k ≤ LG ∧ gh = LG - k ∧ nn = .int .i64 (k : Int))
              case atStart => exact ⟨rfl, 0, by omega, rfl, rfl⟩
              case round =>
                obtain ⟨rfl, k, hk, rfl, rfl⟩ := hrel
                by_cases hkl : k < LG
                · obtain ⟨x, hck, hhx⟩ := HAG.out k hkl
                  have HHX : Hid (HexC x) := hhx
                  clear hhx
                  go_wp2_with fail
                  refine (digit_yes x HHX.out _).mono ?_
                  rintro e9 w9 ⟨rfl, hw9⟩
                  obtain rfl := hw9.symm
                  go_wp2_with fail
                  go_roundg (LG - (k + 1))
                  case measure => omega
                  case rel => exact ⟨rfl, k + 1, by omega, rfl, by go_num⟩
                · have hkG : LG = k := by omega
                  subst hkG
                  by_cases hlt0 : LT = 0
                  · have hlt1 : LT ≤ 0 := by omega
                    clear hlt0
                    go_wp2_with fail
                    all_goals
                      go_roundg rest.length
                      case measure => simp
                      case rel => exact ⟨rfl, i + 1, rest, e, rfl, by go_num, rfl, HIN.out, HGR.out, tl, off + 1 + LG, _, _, slice_len (by rw [← HLT.out]; omega), by rw [← HLT.out]; omega, by omega, (fun h => by have := HLT.out; omega), HAT2.out, Or.inr ⟨by omega, HTL.out, HE.out⟩⟩
                  · have hlt1 : 1 ≤ LT := by omega
                    have hcx := HHD.out (by omega)
                    clear hlt0
                    go_wp2_with fail
                    refine (digit_no _).mono ?_
                    rintro e9 w9 ⟨rfl, hw9⟩
                    obtain rfl := hw9.symm
                    go_wp2_with fail
                    go_roundg rest.length
                    case measure => simp
                    case rel => exact ⟨rfl, i + 1, rest, e, rfl, by go_num, rfl, HIN.out, HGR.out, tl, off + 1 + LG, _, _, slice_len (by rw [← HLT.out]; omega), by rw [← HLT.out]; omega, by omega, (fun h => rfl), HAT2.out, Or.inr ⟨by omega, HTL.out, HE.out⟩⟩
end Go.Proofs.Qxb6605312a
