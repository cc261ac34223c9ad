/-
  SEAT b6606128a: the walk of modelScanName.
-/
import Derived.Test.Qxb6606128aDoor
namespace Go.Proofs.Qxb6606128a
open Go.RowKit

theorem quoted_find (z : Nat → Int) (n i : Nat) (hi : i < n) : ∃ j, Quoted z n i j := by
  have key : ∀ m, i + 1 + m ≤ n → (∃ j, Quoted z n i j) ∨ (∀ k, i + 1 ≤ k → k < i + 1 + m → okc (z k) = true) := by
    intro m
    induction m with
    | zero => intro _; exact Or.inr fun k h1 h2 => by omega
    | succ m ih =>
      intro hm
      rcases ih (by omega) with h | h
      · exact Or.inl h
      · cases ho : okc (z (i + 1 + m)) with
        | true => exact Or.inr (all_snoc h ho)
        | false => exact Or.inl ⟨i + 1 + m, by omega, by omega, h, fun _ => ho⟩
  rcases key (n - (i + 1)) (by omega) with h | h
  · exact h
  · exact ⟨n, by omega, Nat.le_refl _, fun k h1 h2 => h k h1 (by omega), fun h => by omega⟩
theorem scan_noquote {z : Nat → Int} {n i : Nat} (hi : i < n) (hq : z i = 34) (h : ∀ k, i + 1 ≤ k → k < n → z k ≠ 34) : Scan z n i none := by
  obtain ⟨j, hj⟩ := quoted_find z n i hi
  exact Or.inr (Or.inl ⟨hi, hq, j, hj, Or.inr ⟨fun h1 => h j hj.1 h1, rfl⟩⟩)

set_option maxRecDepth 100000 in
set_option maxHeartbeats 2000000 in
theorem model_end (p : Option Addr) (n c : Nat) (z : Nat → Int) (w : World) : Calls Try.prog 9 #[.slice p n c, .int .i64 (n : Int)] w fun e w' => Answers4 z n n w e w' := by
  go_enter Try.func9, Try.ntmps9
  go_wp2_with fail
  exact bodyPost_ret (v := .tuple #[.int .i64 0, .int .i64 0, .int .i64 (n : Int), .bool false]) (by simp [results, Try.results9, go_sem]) rfl ⟨none, Or.inl ⟨rfl, rfl⟩, rfl, Below.refl _ _⟩

set_option maxRecDepth 100000 in
set_option maxHeartbeats 4000000 in
theorem model_other (g o n c i : Nat) (z : Nat → Int) (w : World) (hi : i < n) (hc : ∀ k, k < n → w.cell? ⟨g, o + k, none⟩ = some (.int .u8 (z k))) (hq : z i ≠ 34) (ha : al (z i) = false) :
    Calls Try.prog 9 #[.slice (some ⟨g, o, none⟩) n c, .int .i64 (i : Int)] w fun e w' => Answers4 z n i w e w' := by
  have c0 := hc i hi
  have HQ : Hid (z i ≠ 34) := hq
  have HA : Hid (al (z i) = false) := ha
  have hb : (z i == 34) = false := by simpa using hq
  have hin : ((i : Int) == (n : Int)) = false := by rw [beq_eq_false_iff_ne]; omega
  clear hc hq ha
  go_enter Try.func9, Try.ntmps9
  go_wp2_with fail
  refine (alnum_no (z i) _ HA.out).mono ?_
  rintro e w1 ⟨rfl, hw1⟩
  obtain rfl := hw1.symm
  go_wp2_with fail
  exact bodyPost_ret (v := .tuple #[.int .i64 0, .int .i64 0, .int .i64 (i : Int), .bool false]) (by simp [results, Try.results9, go_sem]) rfl ⟨none, Or.inr (Or.inr (Or.inl ⟨hi, HQ.out, HA.out, rfl⟩)), rfl, Below.refl _ _⟩

set_option maxRecDepth 100000 in
set_option maxHeartbeats 4000000 in
theorem model_quoted (g o n c i : Nat) (z : Nat → Int) (w : World) (hn : n ≤ 1048576) (hi : i < n) (hc : ∀ k, k < n → w.cell? ⟨g, o + k, none⟩ = some (.int .u8 (z k))) (hq : z i = 34) :
    Calls Try.prog 9 #[.slice (some ⟨g, o, none⟩) n c, .int .i64 (i : Int)] w fun e w' => Answers4 z n i w e w' := by
  have HC : Hid (∀ k, k < n → w.cell? ⟨g, o + k, none⟩ = some (.int .u8 (z k))) := hc
  have HQ : Hid (z i = 34) := hq
  have c0 : w.cell? ⟨g, o + i, none⟩ = some (.int .u8 34) := by rw [hc i hi, hq]
  have hin : ((i : Int) == (n : Int)) = false := by rw [beq_eq_false_iff_ne]; omega
  clear hc hq
  go_enter Try.func9, Try.ntmps9
  go_wp2_with fail
  go_loopg [8, 9] (n - (i + 1)) (fun gh qv j wr => w = wr ∧ ∃ k : Nat, qv = .int .i64 (-1) ∧ gh = n - k ∧ i + 1 ≤ k ∧ k ≤ n ∧ j = .int .i64 (k : Int) ∧ ∀ m, i + 1 ≤ m → m < k → z m ≠ 34)
  case atStart => exact ⟨rfl, i + 1, rfl, rfl, Nat.le_refl _, by omega, by go_num, fun m h1 h2 => by omega⟩
  case round =>
    obtain ⟨rfl, k, rfl, rfl, hk1, hk2, rfl, hall⟩ := hrel
    have HA : Hid (∀ m, i + 1 ≤ m → m < k → z m ≠ 34) := hall
    clear hall
    by_cases hlt : k < n
    · have qc := HC.out k hlt
      cases h34 : (z k == 34) with
      | false =>
        have HK : Hid (z k ≠ 34) := by show z k ≠ 34; simpa using h34
        go_wp2_with fail
        go_roundg (n - (k + 1))
        case measure => omega
        case rel => exact ⟨rfl, k + 1, rfl, rfl, by omega, by omega, by go_num, all_snoc HA.out HK.out⟩
      | true =>
        have HK : Hid (z k = 34) := by show z k = 34; simpa using h34
        have dk : decide ((k : Int) < 0) = false := decide_eq_false (by omega)
        go_wp2_with fail
        clear qc
        go_loopg [10] (k - (i + 1)) (fun gh j wr => w = wr ∧ ∃ m : Nat, gh = k - m ∧ i + 1 ≤ m ∧ m ≤ k ∧ j = .int .i64 (m : Int) ∧ ∀ x, i + 1 ≤ x → x < m → okc (z x) = true)
        case atStart => exact ⟨rfl, i + 1, rfl, Nat.le_refl _, hk1, by go_num, fun m h1 h2 => by omega⟩
        case round =>
          obtain ⟨rfl, m, rfl, hm1, hm2, rfl, hok⟩ := hrel
          have HM : Hid (∀ x, i + 1 ≤ x → x < m → okc (z x) = true) := hok
          clear hok
          by_cases hmk : m < k
          · have qm := HC.out m (by omega)
            have hne := HA.out m hm1 hmk
            have HNE : Hid (z m ≠ 34) := hne
            cases hok : okc (z m) with
            | true =>
              have HOK : Hid (okc (z m) = true) := hok
              obtain ⟨o1, o2, o3, _⟩ := (okc_iff _).1 hok
              have hb92 : (z m == 92) = false := by simpa using o3
              clear hok o3 hne
              go_wp2_with fail
              go_roundg (k - (m + 1))
              case measure => omega
              case rel => exact ⟨rfl, m + 1, rfl, by omega, by omega, by go_num, all_snoc HM.out HOK.out⟩
            | false =>
              have HOK : Hid (okc (z m) = false) := hok
              have hbad : z m = 92 ∨ z m < 32 ∨ 126 < z m := by
                have h1 := okc_iff (z m)
                rw [hok] at h1
                simp only [Bool.false_eq_true, false_iff] at h1
                omega
              have HS : Hid (Scan z n i none) := Or.inr (Or.inl ⟨hi, HQ.out, m, ⟨hm1, by omega, HM.out, fun _ => HOK.out⟩, Or.inr ⟨fun _ => HNE.out, rfl⟩⟩)
              clear hok hne
              by_cases h32 : z m < 32
              · clear hbad
                go_wp2_with fail
                exact bodyPost_ret (v := .tuple #[.int .i64 0, .int .i64 0, .int .i64 (i : Int), .bool false]) (by simp [results, Try.results9, go_sem]) rfl ⟨none, HS.out, rfl, Below.refl _ _⟩
              · by_cases h126 : 126 < z m
                · clear hbad
                  go_wp2_with fail
                  exact bodyPost_ret (v := .tuple #[.int .i64 0, .int .i64 0, .int .i64 (i : Int), .bool false]) (by simp [results, Try.results9, go_sem]) rfl ⟨none, HS.out, rfl, Below.refl _ _⟩
                · have h92 : (z m == 92) = true := by rw [beq_iff_eq]; omega
                  clear hbad
                  go_wp2_with fail
                  exact bodyPost_ret (v := .tuple #[.int .i64 0, .int .i64 0, .int .i64 (i : Int), .bool false]) (by simp [results, Try.results9, go_sem]) rfl ⟨none, HS.out, rfl, Below.refl _ _⟩
          · have hmk' : m = k := by omega
            have HS : Hid (Scan z n i (some (k + 1))) := Or.inr (Or.inl ⟨hi, HQ.out, k, ⟨hk1, hk2, hmk' ▸ HM.out, fun _ => by rw [HK.out]; decide⟩, Or.inl ⟨hlt, HK.out, rfl⟩⟩)
            clear hmk'
            go_wp2_with fail
            exact bodyPost_ret (v := .tuple #[.int .i64 (i : Int), .int .i64 (k + 1 : Nat), .int .i64 (k + 1 : Nat), .bool true]) (by simp [results, Try.results9, go_sem]) rfl ⟨some (k + 1), HS.out, rfl, Below.refl _ _⟩
    · have HS : Hid (Scan z n i none) := scan_noquote hi HQ.out fun x h1 h2 => HA.out x h1 (by omega)
      go_wp2_with fail
      exact bodyPost_ret (v := .tuple #[.int .i64 0, .int .i64 0, .int .i64 (i : Int), .bool false]) (by simp [results, Try.results9, go_sem]) rfl ⟨none, HS.out, rfl, Below.refl _ _⟩

set_option maxRecDepth 100000 in
set_option maxHeartbeats 4000000 in
theorem model_plain (g o n c i : Nat) (z : Nat → Int) (w : World) (hn : n ≤ 1048576) (hi : i < n) (hc : ∀ k, k < n → w.cell? ⟨g, o + k, none⟩ = some (.int .u8 (z k))) (hq : z i ≠ 34) (ha : al (z i) = true) :
    Calls Try.prog 9 #[.slice (some ⟨g, o, none⟩) n c, .int .i64 (i : Int)] w fun e w' => Answers4 z n i w e w' := by
  have HC : Hid (∀ k, k < n → w.cell? ⟨g, o + k, none⟩ = some (.int .u8 (z k))) := hc
  have c0 := hc i hi
  have HQ : Hid (z i ≠ 34) := hq
  have HA : Hid (al (z i) = true) := ha
  have hb : (z i == 34) = false := by simpa using hq
  have hin : ((i : Int) == (n : Int)) = false := by rw [beq_eq_false_iff_ne]; omega
  clear hc hq ha
  go_enter Try.func9, Try.ntmps9
  go_wp2_with fail
  refine (alnum_yes (z i) _ HA.out).mono ?_
  rintro e w1 ⟨rfl, hw1⟩
  obtain rfl := hw1.symm
  go_wp2_with fail
  go_loopg [12] (n - (i + 1)) (fun gh j wr => w = wr ∧ ∃ k : Nat, gh = n - k ∧ i + 1 ≤ k ∧ k ≤ n ∧ j = .int .i64 (k : Int) ∧ ∀ m, i + 1 ≤ m → m < k → rn (z m) = true)
  case atStart => exact ⟨rfl, i + 1, rfl, Nat.le_refl _, by omega, by go_num, fun m h1 h2 => by omega⟩
  case round =>
    obtain ⟨rfl, k, rfl, hk1, hk2, rfl, hall⟩ := hrel
    have HALL : Hid (∀ m, i + 1 ≤ m → m < k → rn (z m) = true) := hall
    clear hall
    by_cases hlt : k < n
    · have qc := HC.out k hlt
      cases h32 : (z k == 32) with
      | true =>
        have HK : Hid (rn (z k) = true) := rn_sp (by simpa using h32)
        go_wp2_with fail
        go_roundg (n - (k + 1))
        case measure => omega
        case rel => exact ⟨rfl, k + 1, rfl, by omega, by omega, by go_num, all_snoc HALL.out HK.out⟩
      | false =>
        cases hal : al (z k) with
        | true =>
          have HAL : Hid (al (z k) = true) := hal
          have HK : Hid (rn (z k) = true) := rn_pl (by simp [pl, hal])
          clear hal
          go_wp2_with fail
          refine (alnum_yes (z k) _ HAL.out).mono ?_
          rintro e w1 ⟨rfl, hw1⟩
          obtain rfl := hw1.symm
          go_wp2_with fail
          go_roundg (n - (k + 1))
          case measure => omega
          case rel => exact ⟨rfl, k + 1, rfl, by omega, by omega, by go_num, all_snoc HALL.out HK.out⟩
        | false =>
          have HAL : Hid (al (z k) = false) := hal
          cases hpu : pu (z k) with
          | true =>
            have HPU : Hid (pu (z k) = true) := hpu
            have HK : Hid (rn (z k) = true) := rn_pl (by simp [pl, hpu])
            clear hal hpu
            go_wp2_with fail
            refine (alnum_no (z k) _ HAL.out).mono ?_
            rintro e w1 ⟨rfl, hw1⟩
            obtain rfl := hw1.symm
            go_wp2_with fail
            refine (punct_yes (z k) _ HPU.out).mono ?_
            rintro e w1 ⟨rfl, hw1⟩
            obtain rfl := hw1.symm
            go_wp2_with fail
            go_roundg (n - (k + 1))
            case measure => omega
            case rel => exact ⟨rfl, k + 1, rfl, by omega, by omega, by go_num, all_snoc HALL.out HK.out⟩
          | false =>
            have HPU : Hid (pu (z k) = false) := hpu
            have HEND : Hid (k < n → rn (z k) = false) := fun _ => rn_no h32 (by simp [pl, hal, hpu])
            clear hal hpu
            go_wp2_with fail
            refine (alnum_no (z k) _ HAL.out).mono ?_
            rintro e w1 ⟨rfl, hw1⟩
            obtain rfl := hw1.symm
            go_wp2_with fail
            refine (punct_no (z k) _ HPU.out).mono ?_
            rintro e w1 ⟨rfl, hw1⟩
            obtain rfl := hw1.symm
            go_wp2_with fail
            clear qc h32
            go_loopg [13] (k - (i + 1)) (fun gh en wr => w = wr ∧ ∃ e : Nat, gh = e - (i + 1) ∧ i + 1 ≤ e ∧ e ≤ k ∧ en = .int .i64 (e : Int) ∧ ∀ m, e ≤ m → m < k → z m = 32)
            case atStart => exact ⟨rfl, k, rfl, hk1, Nat.le_refl _, rfl, fun m h1 h2 => by omega⟩
            case round =>
              obtain ⟨rfl, e, rfl, he1, he2, rfl, hsp⟩ := hrel
              have HSP : Hid (∀ m, e ≤ m → m < k → z m = 32) := hsp
              clear hsp
              by_cases hgt : i + 1 < e
              · have qe := HC.out (e - 1) (by omega)
                have hde : decide ((i : Int) + 1 < (e : Int)) = true := decide_eq_true (by omega)
                cases h32e : (z (e - 1) == 32) with
                | true =>
                  have HE : Hid (z (e - 1) = 32) := by show z (e - 1) = 32; simpa using h32e
                  go_wp2_with fail
                  go_roundg (e - 1 - (i + 1))
                  case measure => omega
                  case rel => exact ⟨rfl, e - 1, rfl, by omega, by omega, by go_num, fun m h1 h2 => by
                    by_cases hm : m = e - 1
                    · rw [hm]; exact HE.out
                    · exact HSP.out m (by omega) h2⟩
                | false =>
                  have HE : Hid (z (e - 1) ≠ 32) := by show z (e - 1) ≠ 32; simpa using h32e
                  go_wp2_with fail
                  exact bodyPost_ret (v := .tuple #[.int .i64 (i : Int), .int .i64 (e : Int), .int .i64 (e : Int), .bool true]) (by simp [results, Try.results9, go_sem]) rfl ⟨some e, Or.inr (Or.inr (Or.inr ⟨hi, HQ.out, HA.out, k, e, ⟨he1, he2, hk2, HALL.out, HEND.out, HSP.out, fun _ => HE.out⟩, rfl⟩)), rfl, Below.refl _ _⟩
              · go_wp2_with fail
                exact bodyPost_ret (v := .tuple #[.int .i64 (i : Int), .int .i64 (e : Int), .int .i64 (e : Int), .bool true]) (by simp [results, Try.results9, go_sem]) rfl ⟨some e, Or.inr (Or.inr (Or.inr ⟨hi, HQ.out, HA.out, k, e, ⟨he1, he2, hk2, HALL.out, HEND.out, HSP.out, fun h => by omega⟩, rfl⟩)), rfl, Below.refl _ _⟩
    · have HEND : Hid (k < n → rn (z k) = false) := fun h => by omega
      go_wp2_with fail
      go_loopg [13] (k - (i + 1)) (fun gh en wr => w = wr ∧ ∃ e : Nat, gh = e - (i + 1) ∧ i + 1 ≤ e ∧ e ≤ k ∧ en = .int .i64 (e : Int) ∧ ∀ m, e ≤ m → m < k → z m = 32)
      case atStart => exact ⟨rfl, k, rfl, hk1, Nat.le_refl _, rfl, fun m h1 h2 => by omega⟩
      case round =>
        obtain ⟨rfl, e, rfl, he1, he2, rfl, hsp⟩ := hrel
        have HSP : Hid (∀ m, e ≤ m → m < k → z m = 32) := hsp
        clear hsp
        by_cases hgt : i + 1 < e
        · have qe := HC.out (e - 1) (by omega)
          have hde : decide ((i : Int) + 1 < (e : Int)) = true := decide_eq_true (by omega)
          cases h32e : (z (e - 1) == 32) with
          | true =>
            have HE : Hid (z (e - 1) = 32) := by show z (e - 1) = 32; simpa using h32e
            go_wp2_with fail
            go_roundg (e - 1 - (i + 1))
            case measure => omega
            case rel => exact ⟨rfl, e - 1, rfl, by omega, by omega, by go_num, fun m h1 h2 => by
              by_cases hm : m = e - 1
              · rw [hm]; exact HE.out
              · exact HSP.out m (by omega) h2⟩
          | false =>
            have HE : Hid (z (e - 1) ≠ 32) := by show z (e - 1) ≠ 32; simpa using h32e
            go_wp2_with fail
            exact bodyPost_ret (v := .tuple #[.int .i64 (i : Int), .int .i64 (e : Int), .int .i64 (e : Int), .bool true]) (by simp [results, Try.results9, go_sem]) rfl ⟨some e, Or.inr (Or.inr (Or.inr ⟨hi, HQ.out, HA.out, k, e, ⟨he1, he2, hk2, HALL.out, HEND.out, HSP.out, fun _ => HE.out⟩, rfl⟩)), rfl, Below.refl _ _⟩
        · go_wp2_with fail
          exact bodyPost_ret (v := .tuple #[.int .i64 (i : Int), .int .i64 (e : Int), .int .i64 (e : Int), .bool true]) (by simp [results, Try.results9, go_sem]) rfl ⟨some e, Or.inr (Or.inr (Or.inr ⟨hi, HQ.out, HA.out, k, e, ⟨he1, he2, hk2, HALL.out, HEND.out, HSP.out, fun h => by omega⟩, rfl⟩)), rfl, Below.refl _ _⟩

theorem model_any (p : Option Addr) (n c i : Nat) (I : Int) (hI : I = (i : Int)) (z : Nat → Int) (w : World) (hn : n ≤ 1048576) (hi : i ≤ n) (hl : Line w p n z) :
    Calls Try.prog 9 #[.slice p n c, .int .i64 I] w fun e w' => Answers4 z n i w e w' := by
  subst hI
  by_cases h : i = n
  · subst h; exact model_end p i c z w
  · obtain ⟨g, o, rfl, _, hc⟩ := hl.1 (by omega)
    by_cases hq : z i = 34
    · exact model_quoted g o n c i z w hn (by omega) hc hq
    · cases ha : al (z i) with
      | true => exact model_plain g o n c i z w hn (by omega) hc hq ha
      | false => exact model_other g o n c i z w (by omega) hc hq ha
end Go.Proofs.Qxb6606128a
