/-
  SEAT b6604071a: FnMoreStopsAtTheOnlyPlaceItCan: more, ZZMore.
-/
import Derived.Test.Qxb6604071aMore
namespace Go.Proofs.Qxb6604071a
open Go.RowKit

theorem runs_one {zs : List Int} {n k a b : Nat} (ha : Runs zs n k a) (hb : Runs zs n k b) : a = b := by
  obtain ⟨a1, a2, a3, a4⟩ := ha
  obtain ⟨b1, b2, b3, b4⟩ := hb
  rcases Nat.lt_trichotomy a b with h | h | h
  · have h1 := b3 a a1 h; have h2 := a4 (by omega); rw [h1] at h2; cases h2
  · exact h
  · have h1 := a3 b b1 h; have h2 := b4 (by omega); rw [h1] at h2; cases h2

/-- 'more' stops at st: straight behind white bytes, or behind one comma among them. -/
def Stop (zs : List Int) (n a st : Nat) : Prop :=
  st < n ∧ (Runs zs n a st ∧ (z zs st == 44) = false ∨ ∃ f, f < n ∧ Runs zs n a f ∧ (z zs f == 44) = true ∧ Runs zs n (f + 1) st)

def Lands (zs : List Int) (st : Nat) (cl : Int) (B : Bool) (K : Nat) : Prop := (z zs st == cl) = true ∧ B = false ∧ K = st + 1 ∨ (z zs st == cl) = false ∧ B = true ∧ K = st

set_option maxRecDepth 100000 in
set_option maxHeartbeats 2000000 in
theorem more_plain (b g n : Nat) (zs : List Int) (a st : Nat) (cl : Int) (B : Bool) (K : Nat) (w : World) (hn : n ≤ 1048576) (ha : a ≤ n) (hz : ∀ j, 0 ≤ z zs j ∧ z zs j ≤ 255) (hx : NameAt w w b g n zs a) (hl : Lands zs st cl B K)
    (hst : st < n) (hr : Runs zs n a st) (hc : (z zs st == 44) = false) :
    Calls Try.prog 27 #[.pointer (some ⟨b, 0, none⟩), .int .u8 cl] w fun e w' => e = .returned (.bool B) ∧ NameAt w w' b g n zs K := by
  have HZ : Hid (∀ j, 0 ≤ z zs j ∧ z zs j ≤ 255) := hz
  have HX0 : Hid (NameAt w w b g n zs a) := hx
  have HR : Hid (Runs zs n a st) := hr
  have hst' : (st : Int) < (n : Int) := by omega
  have hst0 : (0 : Int) ≤ (st : Int) := by omega
  clear hr hz hx
  rcases hl with ⟨hcb, rfl, rfl⟩ | ⟨hcb, rfl, rfl⟩
  · go_enter Try.func27, Try.ntmps27
    go_wp2_with fail
    refine (skip_any b g n zs a _ hn ha HZ.out HX0.out).mono ?_
    rintro e w1 ⟨rfl, r, hx1, hr1⟩
    obtain rfl : st = r := runs_one HR.out hr1
    have HX : Hid (NameAt w w1 b g n zs st) := hx1
    have q0 := hx1.c0
    have q1 := hx1.c1
    have q2 := hx1.f1
    have qc : w1.cell? ⟨g, st, none⟩ = some (.int .u8 (z zs st)) := hx1.cells st hst
    clear hx1 hr1 HR HX0
    go_wp2_with fail
    go_quiet (fail)
    go_wp2_with fail
    go_quiet (fail)
    go_wp2_with fail
    go_ret
    exact ⟨rfl, (HX.out.drewN _).set (st + 1) _ (by omega)⟩
  · go_enter Try.func27, Try.ntmps27
    go_wp2_with fail
    refine (skip_any b g n zs a _ hn ha HZ.out HX0.out).mono ?_
    rintro e w1 ⟨rfl, r, hx1, hr1⟩
    have hq : r = K := runs_one hr1 HR.out
    rw [hq] at hx1
    have HX : Hid (NameAt w w1 b g n zs K) := hx1
    have q0 := hx1.c0
    have q1 := hx1.c1
    have q2 := hx1.f1
    have qc : w1.cell? ⟨g, K, none⟩ = some (.int .u8 (z zs K)) := hx1.cells K hst
    clear hx1 hr1 HR HX0 hq
    go_wp2_with fail
    go_quiet (fail)
    go_wp2_with fail
    go_quiet (fail)
    go_wp2_with fail
    go_ret
    exact ⟨rfl, (HX.out.drewN _).drewN _⟩

set_option maxRecDepth 100000 in
set_option maxHeartbeats 2000000 in
theorem more_comma (b g n : Nat) (zs : List Int) (a f st : Nat) (cl : Int) (B : Bool) (K : Nat) (w : World) (hn : n ≤ 1048576) (ha : a ≤ n) (hz : ∀ j, 0 ≤ z zs j ∧ z zs j ≤ 255) (hx : NameAt w w b g n zs a) (hl : Lands zs st cl B K)
    (hst : st < n) (hf : f < n) (hr : Runs zs n a f) (hc : (z zs f == 44) = true) (hr2 : Runs zs n (f + 1) st) :
    Calls Try.prog 27 #[.pointer (some ⟨b, 0, none⟩), .int .u8 cl] w fun e w' => e = .returned (.bool B) ∧ NameAt w w' b g n zs K := by
  have HZ : Hid (∀ j, 0 ≤ z zs j ∧ z zs j ≤ 255) := hz
  have HX0 : Hid (NameAt w w b g n zs a) := hx
  have HR : Hid (Runs zs n a f) := hr
  have HR2 : Hid (Runs zs n (f + 1) st) := hr2
  have hst' : (st : Int) < (n : Int) := by omega
  have hst0 : (0 : Int) ≤ (st : Int) := by omega
  have hf' : (f : Int) < (n : Int) := by omega
  have hf0 : (0 : Int) ≤ (f : Int) := by omega
  clear hr hz hx hr2
  go_enter Try.func27, Try.ntmps27
  go_wp2_with fail
  refine (skip_any b g n zs a _ hn ha HZ.out HX0.out).mono ?_
  rintro e w1 ⟨rfl, r, hx1, hr1⟩
  have hq : r = f := runs_one hr1 HR.out
  rw [hq] at hx1
  have HX : Hid (NameAt w w1 b g n zs f) := hx1
  have q0 := hx1.c0
  have q1 := hx1.c1
  have q2 := hx1.f1
  have qc : w1.cell? ⟨g, f, none⟩ = some (.int .u8 (z zs f)) := hx1.cells f hf
  clear hx1 hr1 HR HX0 hq
  go_wp2_with fail
  go_quiet (fail)
  go_wp2_with fail
  refine (skip_any b g n zs (f + 1) _ hn (by omega) HZ.out ?_).mono ?_
  · have h := (HX.out.drewN nq).set (f + 1) ((f : Int) + 1) (by omega)
    exact ⟨h.c0, h.c1, h.f1, h.cells, h.ne, Below.refl _ _⟩
  rintro e w2 ⟨rfl, r2, hx2, hr3⟩
  have hq : r2 = st := runs_one hr3 HR2.out
  rw [hq] at hx2
  have HX2 : Hid (NameAt w w2 b g n zs st) := ((HX.out.drewN nq).set (f + 1) ((f : Int) + 1) (by omega)).trans hx2
  have p0 := hx2.c0
  have p1 := hx2.c1
  have p2 := hx2.f1
  have pc : w2.cell? ⟨g, st, none⟩ = some (.int .u8 (z zs st)) := hx2.cells st hst
  clear hx2 hr3 HR2 hq HX q0 q1 q2 qc r2 r
  rcases hl with ⟨hcb, rfl, rfl⟩ | ⟨hcb, rfl, rfl⟩
  · go_wp2_with fail
    go_quiet (fail)
    go_wp2_with fail
    go_ret
    exact ⟨rfl, (HX2.out.drewN _).set (st + 1) _ (by omega)⟩
  · go_wp2_with fail
    go_quiet (fail)
    go_wp2_with fail
    go_ret
    exact ⟨rfl, HX2.out.drewN _⟩

theorem more_any (b g n : Nat) (zs : List Int) (a st : Nat) (cl : Int) (B : Bool) (K : Nat) (w : World) (hn : n ≤ 1048576) (ha : a ≤ n) (hz : ∀ j, 0 ≤ z zs j ∧ z zs j ≤ 255) (hx : NameAt w w b g n zs a) (hl : Lands zs st cl B K) (hs : Stop zs n a st) :
    Calls Try.prog 27 #[.pointer (some ⟨b, 0, none⟩), .int .u8 cl] w fun e w' => e = .returned (.bool B) ∧ NameAt w w' b g n zs K := by
  obtain ⟨h1, ⟨h2, h3⟩ | ⟨f, h2, h3, h4, h5⟩⟩ := hs
  · exact more_plain b g n zs a st cl B K w hn ha hz hx hl h1 h2 h3
  · exact more_comma b g n zs a f st cl B K w hn ha hz hx hl h1 h2 h3 h4 h5

set_option maxRecDepth 100000 in
set_option maxHeartbeats 2000000 in
theorem zzmore_any (g n : Nat) (zs : List Int) (a st : Nat) (cl : Int) (B : Bool) (K : Nat) (w : World) (hn : n ≤ 1048576) (ha : a ≤ n) (hz : ∀ j, 0 ≤ z zs j ∧ z zs j ≤ 255) (hg : g < w.heap.size) (hc : ∀ j, j < n → w.cell? ⟨g, j, none⟩ = some (.int .u8 (z zs j))) (hl : Lands zs st cl B K) (hs : Stop zs n a st) :
    Calls Try.prog 21 #[.slice (some ⟨g, 0, none⟩) n n, .int .i64 (a : Int), .int .u8 cl] w fun e w' => e = .returned (.tuple #[.bool B, .int .i64 (K : Int)]) ∧ Below w.heap.size w w' := by
  have HZ : Hid (∀ j, 0 ≤ z zs j ∧ z zs j ≤ 255) := hz
  have HC : Hid (∀ j, j < n → w.cell? ⟨g, j, none⟩ = some (.int .u8 (z zs j))) := hc
  have HS : Hid (Stop zs n a st) := hs
  have HL : Hid (Lands zs st cl B K) := hl
  clear hz hc hs hl
  go_enter Try.func21, Try.ntmps21
  go_wp2_with fail
  refine (more_any w.heap.size g n zs a st cl B K _ hn ha HZ.out ⟨by rw [World.cell?_alloc_at _ _ _ _ rfl]; rfl, by rw [World.cell?_alloc_at _ _ _ _ rfl]; rfl, by simp, fun j hj => by rw [World.cell?_alloc_past _ _ _ hg]; exact HC.out j hj, hg, Below.refl _ _⟩ HL.out HS.out).mono ?_
  rintro e w1 ⟨rfl, hx⟩
  have q1 := hx.c1
  have HB : Hid (Below w.heap.size w w1) := ((Below.refl _ _).alloc (Nat.le_refl _) _).trans hx.below
  clear hx
  go_wp2_with fail
  go_quiet (fail)
  go_wp2_with fail
  go_ret2
  exact ⟨rfl, below_drewN HB.out _⟩
end Go.Proofs.Qxb6604071a
