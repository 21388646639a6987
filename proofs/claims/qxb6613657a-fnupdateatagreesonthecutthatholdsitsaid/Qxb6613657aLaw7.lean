/-
  FnUpdateAtGivesTheFirstUpdateAtThePlace, FnUpdateAtAgreesOnTheCutThatHoldsIt: the walks. Own text.
-/
import Derived.Test.Qxb6613657aUpd2
import Derived.Deep.RegionWith
namespace Go.Proofs.Qxb6613657a
open Go.RowKit
set_option linter.unusedVariables false

theorem sameUpdates_any (u : Rec) (w : World) : Calls Try.prog 29 #[u.val, u.val] w fun e w' => e = .returned (.bool true) ∧ Below w.heap.size w w' := by
  unfold Rec.val
  go_enter Try.func29, Try.ntmps29
  go_wp2_with fail
  refine (fields_any u _).mono ?_
  rintro e w1 ⟨rfl, hbel⟩
  have hb : ∀ t, w1.cell? ⟨w.heap.size, t, none⟩ = _ := fun t => hbel.cell (p := ⟨w.heap.size, t, none⟩) (by simp; omega)
  have hbel1 := (((Below.refl w.heap.size w).alloc (Nat.le_refl _) _).alloc (by simp) _).trans (hbel.mono (by simp; omega))
  go_wp2_with fail
  refine (same_any u _).mono ?_
  rintro e w2 ⟨rfl, hbel2⟩
  go_wp2
  go_ret
  exact ⟨rfl, hbel1.trans (hbel2.mono hbel1.size)⟩

set_option maxHeartbeats 2000000 in
theorem core7 (a : Option Addr) (n c b o : Nat) (x : Int) (u : Nat → Rec) (w : World) (hn : n ≤ 9223372036854775807) (ha : 0 < n → a = some ⟨b, o, none⟩) (hl : Lies w b o n u) :
    Calls Try.prog 7 #[.slice a n c, .int .i64 x] w fun e w' => e = .returned (.bool true) ∧ Below w.heap.size w w' := by
  go_enter Try.func7, Try.ntmps7
  go_wp2_with fail
  refine (bytes22 a n c x b o u _ hn ha hl).mono ?_
  rintro e w' ⟨⟨r, rfl⟩, rfl⟩
  cases r with
  | false =>
    go_wp2
    go_ret
    exact ⟨rfl, Below.refl _ _⟩
  | true =>
  go_wp2_with fail
  refine (updFirst_any a n c x b o u _ hn ha hl).mono ?_
  rintro e w' ⟨⟨z, rfl, hz⟩, q, rfl⟩
  rcases hz with hz | ⟨f, rfl, hf, hn2, hfa, hff, hso⟩
  · go_wp2
    go_ret
    exact ⟨rfl, below_drewN (Below.refl _ _) q⟩
  obtain rfl := ha (by omega)
  have hl1 : Lies (w.drewN q) b o n u := hl
  have hb1 : Below w.heap.size w (w.drewN q) := below_drewN (Below.refl _ _) q
  have HA : Hid ((u f).at_ = x ∧ (∀ t, t < f → (u t).at_ ≠ x) ∧ ∀ s t, s ≤ t → t < n → (u s).at_ ≤ (u t).at_) := ⟨hfa, hff, hso⟩
  clear hfa hff hso hl
  generalize w.drewN q = w1 at *
  go_wp2_with fail
  refine (build_any n c b o u _ hn2 hl1).mono ?_
  rintro e w2 ⟨rfl, hrow2, hbel2⟩
  have hb2 := hb1.trans (hbel2.mono hb1.size)
  have hl2 := hl1.below hbel2
  have hlt2 := hrow2.lt
  go_wp2_with fail
  refine (ZZupdateAt_any _ 0 n n f x u _ (by omega) (built_lies hrow2) HA.out.2.2 hf HA.out.1 HA.out.2.1).mono ?_
  rintro e w3 ⟨rfl, hbel3⟩
  have hb3 := hb2.trans (hbel3.mono hb2.size)
  have hl3 := hl2.below hbel3
  clear hrow2 hbel2 hbel3 hl2 hl1 hb1 hb2
  go_wp2_with fail
  have hl4 := hl3.below ((Below.refl _ _).alloc (Nat.le_refl _) (.cells #[.int .i64 (u f).at_, .int .i64 (u f).rank, .bool (u f).off, .string (u f).name, .int .i64 (u f).af, .int .i64 (u f).rf, .string (u f).arg] 49))
  have hb4 := hb3.alloc hb3.size (.cells #[.int .i64 (u f).at_, .int .i64 (u f).rank, .bool (u f).off, .string (u f).name, .int .i64 (u f).af, .int .i64 (u f).rf, .string (u f).arg] 49)
  have k0 : (w3.alloc (.cells #[.int .i64 (u f).at_, .int .i64 (u f).rank, .bool (u f).off, .string (u f).name, .int .i64 (u f).af, .int .i64 (u f).rf, .string (u f).arg] 49)).cell? ⟨w3.heap.size, 0, none⟩ = some (.int .i64 (u f).at_) := by simp
  have k1 : (w3.alloc (.cells #[.int .i64 (u f).at_, .int .i64 (u f).rank, .bool (u f).off, .string (u f).name, .int .i64 (u f).af, .int .i64 (u f).rf, .string (u f).arg] 49)).cell? ⟨w3.heap.size, 1, none⟩ = some (.int .i64 (u f).rank) := by simp
  have k2 : (w3.alloc (.cells #[.int .i64 (u f).at_, .int .i64 (u f).rank, .bool (u f).off, .string (u f).name, .int .i64 (u f).af, .int .i64 (u f).rf, .string (u f).arg] 49)).cell? ⟨w3.heap.size, 2, none⟩ = some (.bool (u f).off) := by simp
  have k3 : (w3.alloc (.cells #[.int .i64 (u f).at_, .int .i64 (u f).rank, .bool (u f).off, .string (u f).name, .int .i64 (u f).af, .int .i64 (u f).rf, .string (u f).arg] 49)).cell? ⟨w3.heap.size, 3, none⟩ = some (.string (u f).name) := by simp
  have k4 : (w3.alloc (.cells #[.int .i64 (u f).at_, .int .i64 (u f).rank, .bool (u f).off, .string (u f).name, .int .i64 (u f).af, .int .i64 (u f).rf, .string (u f).arg] 49)).cell? ⟨w3.heap.size, 4, none⟩ = some (.int .i64 (u f).af) := by simp
  have k5 : (w3.alloc (.cells #[.int .i64 (u f).at_, .int .i64 (u f).rank, .bool (u f).off, .string (u f).name, .int .i64 (u f).af, .int .i64 (u f).rf, .string (u f).arg] 49)).cell? ⟨w3.heap.size, 5, none⟩ = some (.int .i64 (u f).rf) := by simp
  have k6 : (w3.alloc (.cells #[.int .i64 (u f).at_, .int .i64 (u f).rank, .bool (u f).off, .string (u f).name, .int .i64 (u f).af, .int .i64 (u f).rf, .string (u f).arg] 49)).cell? ⟨w3.heap.size, 6, none⟩ = some (.string (u f).arg) := by simp
  generalize (w3.alloc (.cells #[.int .i64 (u f).at_, .int .i64 (u f).rank, .bool (u f).off, .string (u f).name, .int .i64 (u f).af, .int .i64 (u f).rf, .string (u f).arg] 49)) = w4 at *
  generalize w3.heap.size = N at *
  have g0 := hl4 f hf 0 (by omega)
  have g1 := hl4 f hf 1 (by omega)
  have g2 := hl4 f hf 2 (by omega)
  have g3 := hl4 f hf 3 (by omega)
  have g4 := hl4 f hf 4 (by omega)
  have g5 := hl4 f hf 5 (by omega)
  have g6 := hl4 f hf 6 (by omega)
  simp only [Rec.cell, Nat.add_zero] at g0 g1 g2 g3 g4 g5 g6
  have hf' : (f : Int) < (n : Int) := by omega
  clear hl4 hl3 hb3
  go_region_with (go_at_call 26; refine (same_any (u f) _).mono ?_; rintro e w5 ⟨rfl, hbel5⟩)
  all_goals go_wp2
  all_goals (go_ret; exact ⟨rfl, hb4.drew.trans (hbel5.mono hb4.size)⟩)
end Go.Proofs.Qxb6613657a
