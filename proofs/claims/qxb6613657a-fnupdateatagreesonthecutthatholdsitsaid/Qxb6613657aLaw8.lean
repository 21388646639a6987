/-
  FnUpdateAtAgreesOnTheCutThatHoldsIt: the walk. Own text.
-/
import Derived.Test.Qxb6613657aLaw7
namespace Go.Proofs.Qxb6613657a
open Go.RowKit
set_option linter.unusedVariables false

set_option maxHeartbeats 2000000 in
theorem early8 (a : Option Addr) (n c b o : Nat) (x y : Int) (u : Nat → Rec) (w : World) (hn : n ≤ 9223372036854775807) (ha : 0 < n → a = some ⟨b, o, none⟩) (hl : Lies w b o n u)
    (h : y < 0 ∨ (n : Int) < y) :
    Calls Try.prog 8 #[.slice a n c, .int .i64 x, .int .i64 y] w fun e w' => e = .returned (.bool true) ∧ Below w.heap.size w w' := by
  by_cases h1 : y < 0
  · clear h
    go_enter Try.func8, Try.ntmps8
    go_wp2_with (go_at_call 27; refine (bytes27 a n c x y b o u _ hn ha hl).mono ?_; rintro e w' ⟨⟨r, rfl⟩, rfl⟩)
    all_goals (go_ret; exact ⟨rfl, Below.refl _ _⟩)
  · have h2 : (n : Int) < y := by omega
    clear h
    go_enter Try.func8, Try.ntmps8
    go_wp2_with (go_at_call 27; refine (bytes27 a n c x y b o u _ hn ha hl).mono ?_; rintro e w' ⟨⟨r, rfl⟩, rfl⟩)
    all_goals (go_ret; exact ⟨rfl, Below.refl _ _⟩)

/-- The seven stores of one update. -/
abbrev put7 (w : World) (M : Nat) (u : Rec) : World :=
  (((((((w.setCell ⟨M, 0, none⟩ (.int .i64 u.at_)).setCell ⟨M, 1, none⟩ (.int .i64 u.rank)).setCell ⟨M, 2, none⟩ (.bool u.off)).setCell ⟨M, 3, none⟩ (.string u.name)).setCell ⟨M, 4, none⟩ (.int .i64 u.af)).setCell ⟨M, 5, none⟩ (.int .i64 u.rf)).setCell ⟨M, 6, none⟩ (.string u.arg))

theorem put7_row {w : World} {M : Nat} {g : Nat → Value} (u : Rec) (h : w.rowIs M 49 7 g) : (put7 w M u).rowIs M 49 7 u.cell := by
  refine (((((((h.set _ _).set _ _).set _ _).set _ _).set _ _).set _ _).set _ _).congr (fun i hi => ?_)
  match i, hi with
  | 0, _ => rfl
  | 1, _ => rfl
  | 2, _ => rfl
  | 3, _ => rfl
  | 4, _ => rfl
  | 5, _ => rfl
  | 6, _ => rfl

theorem put7_other {w : World} {M N : Nat} {g : Nat → Value} (u : Rec) (h : w.rowIs N 49 7 g) (hne : N ≠ M) : (put7 w M u).rowIs N 49 7 g :=
  ((((((h.setOther hne _).setOther hne _).setOther hne _).setOther hne _).setOther hne _).setOther hne _).setOther hne _

theorem put7_below {w0 w : World} {B M : Nat} (u : Rec) (h : Below B w0 w) (hB : B ≤ M) : Below B w0 (put7 w M u) :=
  ((((((h.setCell hB _).setCell hB _).setCell hB _).setCell hB _).setCell hB _).setCell hB _).setCell hB _

theorem rowIs_new7 (w : World) (u : Rec) : (w.alloc (.cells #[.int .i64 u.at_, .int .i64 u.rank, .bool u.off, .string u.name, .int .i64 u.af, .int .i64 u.rf, .string u.arg] 49)).rowIs w.heap.size 49 7 u.cell :=
  World.rowIs_alloc w _ 49 u.cell (fun i hi => by
    match i, hi with
    | 0, _ => rfl
    | 1, _ => rfl
    | 2, _ => rfl
    | 3, _ => rfl
    | 4, _ => rfl
    | 5, _ => rfl
    | 6, _ => rfl)

set_option maxHeartbeats 2000000 in
theorem core8 (a : Option Addr) (n c b o : Nat) (x : Int) (y : Nat) (u : Nat → Rec) (w : World) (hn : n ≤ 9223372036854775807) (hy : y ≤ n) (ha : 0 < n → a = some ⟨b, o, none⟩) (hl : Lies w b o n u) :
    Calls Try.prog 8 #[.slice a n c, .int .i64 x, .int .i64 (y : Int)] w fun e w' => e = .returned (.bool true) ∧ Below w.heap.size w w' := by
  have hy' : (y : Int) ≤ (n : Int) := by omega
  go_enter Try.func8, Try.ntmps8
  go_wp2_with fail
  refine (bytes27 a n c x _ b o u _ hn ha hl).mono ?_
  rintro e w' ⟨⟨r, rfl⟩, rfl⟩
  cases r with
  | false =>
    go_wp2
    go_ret
    exact ⟨rfl, Below.refl _ _⟩
  | true =>
  go_wp2_with fail
  refine (updFirst_any a n c x b o u _ hn ha hl).mono ?_
  rintro e w' ⟨⟨z, rfl, hz⟩, q, rfl⟩
  rcases hz with hz | ⟨f, rfl, hf, hn2, hfa, hff, hso⟩
  · go_wp2
    go_ret
    exact ⟨rfl, below_drewN (Below.refl _ _) q⟩
  obtain rfl := ha (by omega)
  have hl1 : Lies (w.drewN q) b o n u := hl
  have hb1 : Below w.heap.size w (w.drewN q) := below_drewN (Below.refl _ _) q
  have HA : Hid ((u f).at_ = x ∧ (∀ t, t < f → (u t).at_ ≠ x) ∧ ∀ s t, s ≤ t → t < n → (u s).at_ ≤ (u t).at_) := ⟨hfa, hff, hso⟩
  clear hfa hff hso hl
  generalize w.drewN q = w1 at *
  go_wp2_with fail
  refine (build_any n c b o u _ hn2 hl1).mono ?_
  rintro e w2 ⟨rfl, hrow2, hbel2⟩
  have hb2 := hb1.trans (hbel2.mono hb1.size)
  have hl2 := built_lies hrow2
  clear hrow2 hbel2 hb1 hl1
  generalize w1.heap.size = B at *
  go_wp2_with fail
  refine (ZZupdateAt_any B 0 n n f x u _ (by omega) hl2 HA.out.2.2 hf HA.out.1 HA.out.2.1).mono ?_
  rintro e w3 ⟨rfl, hbel3⟩
  have hb3 := hb2.trans (hbel3.mono hb2.size)
  have hl3 := hl2.below hbel3
  clear hbel3 hl2 hb2
  have hl5 := (hl3.below ((Below.refl _ _).alloc (Nat.le_refl _) (.cells #[.int .i64 (u f).at_, .int .i64 (u f).rank, .bool (u f).off, .string (u f).name, .int .i64 (u f).af, .int .i64 (u f).rf, .string (u f).arg] 49))).below
    ((Below.refl _ _).alloc (Nat.le_refl _) (.cells #[.int .i64 0, .int .i64 0, .bool false, .string ⟨#[]⟩, .int .i64 0, .int .i64 0, .string ⟨#[]⟩] 49))
  have hb5 := (hb3.alloc hb3.size (.cells #[.int .i64 (u f).at_, .int .i64 (u f).rank, .bool (u f).off, .string (u f).name, .int .i64 (u f).af, .int .i64 (u f).rf, .string (u f).arg] 49)).alloc
    (by have := hb3.size; simp; omega) (.cells #[.int .i64 0, .int .i64 0, .bool false, .string ⟨#[]⟩, .int .i64 0, .int .i64 0, .string ⟨#[]⟩] 49)
  have hN5 := (rowIs_new7 w3 (u f)).alloc (.cells #[.int .i64 0, .int .i64 0, .bool false, .string ⟨#[]⟩, .int .i64 0, .int .i64 0, .string ⟨#[]⟩] 49)
  have hM5 := rowIs_zero7 (w3.alloc (.cells #[.int .i64 (u f).at_, .int .i64 (u f).rank, .bool (u f).off, .string (u f).name, .int .i64 (u f).af, .int .i64 (u f).rf, .string (u f).arg] 49))
  have hsN := hb3.size
  rw [show (w3.alloc (.cells #[.int .i64 (u f).at_, .int .i64 (u f).rank, .bool (u f).off, .string (u f).name, .int .i64 (u f).af, .int .i64 (u f).rf, .string (u f).arg] 49)).heap.size = w3.heap.size + 1 by simp] at hM5
  clear hb3 hl3
  by_cases hfy : f < y
  · have hfy' : (f : Int) < (y : Int) := by omega
    go_wp2_with fail
    generalize ((w3.alloc (.cells #[.int .i64 (u f).at_, .int .i64 (u f).rank, .bool (u f).off, .string (u f).name, .int .i64 (u f).af, .int .i64 (u f).rf, .string (u f).arg] 49)).alloc (.cells #[.int .i64 0, .int .i64 0, .bool false, .string ⟨#[]⟩, .int .i64 0, .int .i64 0, .string ⟨#[]⟩] 49)) = w5 at *
    generalize w3.heap.size = N at *
    refine (ZZupdateAt_any B 0 y n f x u _ (by omega) (fun k hk => hl5 k (by omega)) (fun s t h1 h2 => HA.out.2.2 s t h1 (by omega)) hfy HA.out.1 HA.out.2.1).mono ?_
    rintro e w6 ⟨rfl, hbel6⟩
    have hN6 := hN5.of_block (hbel6.block _ hN5.lt)
    have hM6 := hM5.of_block (hbel6.block _ hM5.lt)
    have hb6 := hb5.trans (hbel6.mono hb5.size)
    clear hbel6 hN5 hM5 hb5 hl5
    obtain ⟨⟨k0, k1, k2, k3, k4, k5, k6⟩, _, _, _, _, _, _, _⟩ := rowIs_seven hN6
    obtain ⟨⟨z0, z1, z2, z3, z4, z5, z6⟩, y0, y1, y2, y3, y4, y5, y6⟩ := rowIs_seven hM6
    simp only [Rec.cell] at k0 k1 k2 k3 k4 k5 k6
    have hN7 := put7_other (u f) hN6 (show N ≠ N + 1 by omega)
    have hM7 := put7_row (u f) hM6
    have hb7 := put7_below (u f) hb6 (show w.heap.size ≤ N + 1 by omega)
    clear hN6 hM6 hb6
    go_wp2_with fail
    refine (fields_any (u f) _).mono ?_
    rintro e w8 ⟨rfl, hbel8⟩
    clear k0 k1 k2 k3 k4 k5 k6 z0 z1 z2 z3 z4 z5 z6 y0 y1 y2 y3 y4 y5 y6
    have hN8 := hN7.of_block (hbel8.block _ hN7.lt)
    have hM8 := hM7.of_block (hbel8.block _ hM7.lt)
    have hb8 := hb7.trans (hbel8.mono hb7.size)
    clear hbel8 hN7 hM7 hb7
    obtain ⟨⟨k0, k1, k2, k3, k4, k5, k6⟩, _, _, _, _, _, _, _⟩ := rowIs_seven hN8
    obtain ⟨⟨z0, z1, z2, z3, z4, z5, z6⟩, _, _, _, _, _, _, _⟩ := rowIs_seven hM8
    simp only [Rec.cell] at k0 k1 k2 k3 k4 k5 k6 z0 z1 z2 z3 z4 z5 z6
    clear hN8 hM8
    have hfx : ((u f).at_ == x) = true := beq_iff_eq.2 HA.out.1
    go_wp2_with fail
    refine (sameUpdates_any (u f) _).mono ?_
    rintro e w9 ⟨rfl, hbel9⟩
    go_wp2
    go_ret
    exact ⟨rfl, hb8.trans (hbel9.mono hb8.size)⟩
  · have hd : decide ((f : Int) < (y : Int)) = false := decide_eq_false (by omega)
    go_wp2_with fail
    generalize ((w3.alloc (.cells #[.int .i64 (u f).at_, .int .i64 (u f).rank, .bool (u f).off, .string (u f).name, .int .i64 (u f).af, .int .i64 (u f).rf, .string (u f).arg] 49)).alloc (.cells #[.int .i64 0, .int .i64 0, .bool false, .string ⟨#[]⟩, .int .i64 0, .int .i64 0, .string ⟨#[]⟩] 49)) = w5 at *
    generalize w3.heap.size = N at *
    refine (ZZupdateAt_any B (y * 7) (n - y) (n - y) (f - y) x (fun k => u (y + k)) _ (by omega)
      (fun k hk t ht => by have := hl5 (y + k) (by omega) t ht; rw [show y * 7 + k * 7 + t = 0 + (y + k) * 7 + t by omega]; exact this)
      (fun s t h1 h2 => HA.out.2.2 (y + s) (y + t) (by omega) (by omega)) (by omega) (by show (u (y + (f - y))).at_ = x; rw [show y + (f - y) = f by omega]; exact HA.out.1)
      (fun t ht => HA.out.2.1 (y + t) (by omega))).mono ?_
    rw [show y + (f - y) = f by omega]
    rintro e w6 ⟨rfl, hbel6⟩
    have hN6 := hN5.of_block (hbel6.block _ hN5.lt)
    have hM6 := hM5.of_block (hbel6.block _ hM5.lt)
    have hb6 := hb5.trans (hbel6.mono hb5.size)
    clear hbel6 hN5 hM5 hb5 hl5
    obtain ⟨⟨k0, k1, k2, k3, k4, k5, k6⟩, _, _, _, _, _, _, _⟩ := rowIs_seven hN6
    obtain ⟨⟨z0, z1, z2, z3, z4, z5, z6⟩, y0, y1, y2, y3, y4, y5, y6⟩ := rowIs_seven hM6
    simp only [Rec.cell] at k0 k1 k2 k3 k4 k5 k6
    have hN7 := put7_other (u f) hN6 (show N ≠ N + 1 by omega)
    have hM7 := put7_row (u f) hM6
    have hb7 := put7_below (u f) hb6 (show w.heap.size ≤ N + 1 by omega)
    clear hN6 hM6 hb6
    go_wp2_with fail
    refine (fields_any (u f) _).mono ?_
    rintro e w8 ⟨rfl, hbel8⟩
    clear k0 k1 k2 k3 k4 k5 k6 z0 z1 z2 z3 z4 z5 z6 y0 y1 y2 y3 y4 y5 y6
    have hN8 := hN7.of_block (hbel8.block _ hN7.lt)
    have hM8 := hM7.of_block (hbel8.block _ hM7.lt)
    have hb8 := hb7.trans (hbel8.mono hb7.size)
    clear hbel8 hN7 hM7 hb7
    obtain ⟨⟨k0, k1, k2, k3, k4, k5, k6⟩, _, _, _, _, _, _, _⟩ := rowIs_seven hN8
    obtain ⟨⟨z0, z1, z2, z3, z4, z5, z6⟩, _, _, _, _, _, _, _⟩ := rowIs_seven hM8
    simp only [Rec.cell] at k0 k1 k2 k3 k4 k5 k6 z0 z1 z2 z3 z4 z5 z6
    clear hN8 hM8
    have hfx : ((u f).at_ == x) = true := beq_iff_eq.2 HA.out.1
    go_wp2_with fail
    refine (sameUpdates_any (u f) _).mono ?_
    rintro e w9 ⟨rfl, hbel9⟩
    go_wp2
    go_ret
    exact ⟨rfl, hb8.trans (hbel9.mono hb8.size)⟩
end Go.Proofs.Qxb6613657a
