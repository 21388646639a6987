/-
  sameAsUpd, sameUpdates, the byte counts, updFirst, buildUpdates: their contracts. Own text.
-/
import Derived.Test.Qxb6613657aUpd
namespace Go.Proofs.Qxb6613657a
open Go.RowKit
set_option linter.unusedVariables false

theorem same_any (u : Rec) (w : World) : Calls Try.prog 26 #[u.val, u.val] w fun e w' => e = .returned (.bool true) ∧ Below w.heap.size w w' := by
  unfold Rec.val
  go_enter Try.func26, Try.ntmps26
  go_wp2_with fail
  refine (fields_any u _).mono ?_
  rintro e w1 ⟨rfl, hbel⟩
  have hb : ∀ t, w1.cell? ⟨w.heap.size + 1, t, none⟩ = _ := fun t => hbel.cell (p := ⟨w.heap.size + 1, t, none⟩) (by simp)
  go_wp2
  go_ret
  exact ⟨rfl, (((Below.refl _ _).alloc (Nat.le_refl _) _).alloc (by simp) _).trans (hbel.mono (by simp; omega))⟩

/-- Some bool is returned. -/
def SomeBool (e : Ending) : Prop := ∃ r : Bool, e = .returned (.bool r)

set_option maxHeartbeats 1000000 in
theorem bytes22 (a : Option Addr) (n c : Nat) (x : Int) (b o : Nat) (u : Nat → Rec) (w : World) (hn : n ≤ 9223372036854775807) (ha : 0 < n → a = some ⟨b, o, none⟩) (hl : Lies w b o n u) :
    Calls Try.prog 22 #[.slice a n c, .int .i64 x] w fun e w' => SomeBool e ∧ w = w' := by
  go_enter Try.func22, Try.ntmps22
  go_wp2
  · go_ret
    exact ⟨⟨_, rfl⟩, rfl⟩
  go_loop [5, 6] (fun z i => ∃ (k : Nat) (y : Int), k ≤ n ∧ i = .int .i64 k ∧ z = .int .i64 y) (fun _ i => n - (intOf i).toNat)
  case atStart => exact ⟨0, _, Nat.zero_le _, rfl, rfl⟩
  case round =>
    obtain ⟨k, y, hk, rfl, rfl⟩ := hrel
    by_cases hlt : k < n
    · have g3 := hl k hlt 3 (by omega)
      have g6 := hl k hlt 6 (by omega)
      obtain rfl := ha (by omega)
      simp only [Rec.cell] at g3 g6
      clear hl
      go_wp2
      all_goals try (go_ret; exact ⟨⟨_, rfl⟩, rfl⟩)
      go_round
      case rel => exact ⟨k + 1, _, by omega, by go_num, rfl⟩
      case measure => simp [intOf]; omega
    · go_wp2
      go_ret
      exact ⟨⟨_, rfl⟩, rfl⟩

set_option maxHeartbeats 1000000 in
theorem bytes27 (a : Option Addr) (n c : Nat) (x x2 : Int) (b o : Nat) (u : Nat → Rec) (w : World) (hn : n ≤ 9223372036854775807) (ha : 0 < n → a = some ⟨b, o, none⟩) (hl : Lies w b o n u) :
    Calls Try.prog 27 #[.slice a n c, .int .i64 x, .int .i64 x2] w fun e w' => SomeBool e ∧ w = w' := by
  go_enter Try.func27, Try.ntmps27
  go_wp2
  · go_ret
    exact ⟨⟨_, rfl⟩, rfl⟩
  go_loop [7, 8] (fun z i => ∃ (k : Nat) (y : Int), k ≤ n ∧ i = .int .i64 k ∧ z = .int .i64 y) (fun _ i => n - (intOf i).toNat)
  case atStart => exact ⟨0, _, Nat.zero_le _, rfl, rfl⟩
  case round =>
    obtain ⟨k, y, hk, rfl, rfl⟩ := hrel
    by_cases hlt : k < n
    · have g3 := hl k hlt 3 (by omega)
      have g6 := hl k hlt 6 (by omega)
      obtain rfl := ha (by omega)
      simp only [Rec.cell] at g3 g6
      clear hl
      go_wp2
      all_goals try (go_ret; exact ⟨⟨_, rfl⟩, rfl⟩)
      go_round
      case rel => exact ⟨k + 1, _, by omega, by go_num, rfl⟩
      case measure => simp [intOf]; omega
    · go_wp2
      go_ret
      exact ⟨⟨_, rfl⟩, rfl⟩


/-- What updFirst answers: a number below nought, or the first place of a among updates that lie in order. -/
def First (n : Nat) (u : Nat → Rec) (a : Int) (e : Ending) : Prop :=
  ∃ z : Int, e = .returned (.int .i64 z) ∧ (z < 0 ∨ ∃ f : Nat, z = f ∧ f < n ∧ n ≤ 16384 ∧ (u f).at_ = a ∧ (∀ t, t < f → (u t).at_ ≠ a) ∧ ∀ s t, s ≤ t → t < n → (u s).at_ ≤ (u t).at_)

theorem sorted_of (n : Nat) (u : Nat → Rec) (h : ∀ t, t + 1 < n → (u t).at_ ≤ (u (t + 1)).at_) : ∀ s t, s ≤ t → t < n → (u s).at_ ≤ (u t).at_ := by
  intro s t hst
  induction t with
  | zero => intro _; obtain rfl : s = 0 := by omega
            exact Int.le_refl _
  | succ t ih =>
    intro ht
    by_cases e : s = t + 1
    · subst e; exact Int.le_refl _
    · exact Int.le_trans (ih (by omega) (by omega)) (h t ht)

set_option maxHeartbeats 2000000 in
theorem updFirst_any (a : Option Addr) (n c : Nat) (x : Int) (b o : Nat) (u : Nat → Rec) (w : World) (hn : n ≤ 9223372036854775807) (ha : 0 < n → a = some ⟨b, o, none⟩) (hl : Lies w b o n u) :
    Calls Try.prog 23 #[.slice a n c, .int .i64 x] w fun e w' => First n u x e ∧ ∃ q, w' = w.drewN q := by
  by_cases hn2 : 16384 < n
  · go_enter Try.func23, Try.ntmps23
    go_wp2
    go_ret
    exact ⟨⟨_, rfl, .inl (by omega)⟩, 0, rfl⟩
  go_enter Try.func23, Try.ntmps23
  go_wp2
  go_loop [5, 6] (fun z i => ∃ (k : Nat) (y : Int), k ≤ n ∧ i = .int .i64 k ∧ z = .int .i64 y) (fun _ i => n - (intOf i).toNat)
  case atStart => exact ⟨0, _, Nat.zero_le _, rfl, rfl⟩
  case round =>
    obtain ⟨k, y, hk, rfl, rfl⟩ := hrel
    by_cases hlt : k < n
    · have g3 := hl k hlt 3 (by omega)
      have g6 := hl k hlt 6 (by omega)
      obtain rfl := ha (by omega)
      simp only [Rec.cell] at g3 g6
      clear hl
      go_wp2
      all_goals try (go_ret; exact ⟨⟨_, rfl, .inl (by omega)⟩, 0, rfl⟩)
      go_round
      case rel => exact ⟨k + 1, _, by omega, by go_num, rfl⟩
      case measure => simp [intOf]; omega
    · go_wp2
      clear hk hlt
      go_loopw [7] (fun i wr => ∃ (j q : Nat), (j + 1 ≤ n ∨ j = 0) ∧ i = .int .i64 ((j : Int) + 1) ∧ (∀ t, t + 1 < j + 1 → (u t).at_ ≤ (u (t + 1)).at_) ∧ wr = w.drewN q) (fun i _ => n - (intOf i).toNat)
      case atStart => exact ⟨0, 0, .inr rfl, rfl, fun t ht => by omega, rfl⟩
      case round =>
        obtain ⟨j, q, hj, rfl, hso, rfl⟩ := hrel
        by_cases hlt : j + 1 < n
        · have g0 := hl j (by omega) 0 (by omega)
          have g1 := hl (j + 1) hlt 0 (by omega)
          obtain rfl := ha (by omega)
          simp only [Rec.cell, Nat.add_zero] at g0 g1
          have hlt' : (j : Int) + 1 < (n : Int) := by omega
          have hlt2 : (j : Int) < (n : Int) := by omega
          have HS : Hid (∀ t, t + 1 < j + 1 → (u t).at_ ≤ (u (t + 1)).at_) := hso
          clear hl hso
          go_wp2
          go_quiet (fail)
          by_cases hgt : (u (j + 1)).at_ < (u j).at_
          · go_wp2
            go_ret
            exact ⟨⟨_, rfl, .inl (by omega)⟩, _, World.drewN_drewN _ _ _⟩
          · go_wp2
            go_roundw
            case rel => exact ⟨j + 1, _, .inl (by omega), by go_num, fun t ht => by
              by_cases e : t = j
              · subst e; omega
              · exact HS.out t (by omega), rfl⟩
            case measure => simp [intOf]; omega
        · have HS : Hid (∀ s t, s ≤ t → t < n → (u s).at_ ≤ (u t).at_) := sorted_of n u (fun t ht => hso t (by omega))
          clear hso
          go_wp2
          have HW : Hid (∃ q', w.drewN q = w.drewN q') := ⟨q, rfl⟩
          have hl2 : Lies (w.drewN q) b o n u := hl
          clear hl hj hlt
          generalize w.drewN q = w2 at *
          go_loop [8] (fun i => ∃ k : Nat, k ≤ n ∧ i = .int .i64 k ∧ ∀ t, t < k → (u t).at_ ≠ x) (fun i => n - (intOf i).toNat)
          case atStart => exact ⟨0, Nat.zero_le _, rfl, fun t ht => absurd ht (Nat.not_lt_zero _)⟩
          case round =>
            obtain ⟨k, hk, rfl, hno⟩ := hrel
            have HN : Hid (∀ t, t < k → (u t).at_ ≠ x) := hno
            clear hno
            by_cases hlt : k < n
            · have g0 := hl2 k hlt 0 (by omega)
              obtain rfl := ha (by omega)
              simp only [Rec.cell, Nat.add_zero] at g0
              have hlt' : (k : Int) < (n : Int) := by omega
              clear hl2
              by_cases he : (u k).at_ = x
              · have HE : Hid ((u k).at_ = x) := he
                have hb : ((u k).at_ == x) = true := beq_iff_eq.2 he
                clear he
                go_wp2
                go_ret
                exact ⟨⟨_, rfl, .inr ⟨k, rfl, hlt, by omega, HE.out, HN.out, HS.out⟩⟩, HW.out⟩
              · have HE : Hid ((u k).at_ ≠ x) := he
                have hb : ((u k).at_ == x) = false := beq_eq_false_iff_ne.2 he
                clear he
                go_wp2
                go_round
                case rel => exact ⟨k + 1, by omega, by go_num, fun t ht => by
                  by_cases e : t = k
                  · subst e; exact HE.out
                  · exact HN.out t (by omega)⟩
                case measure => simp [intOf]; omega
            · go_wp2
              go_ret
              exact ⟨⟨_, rfl, .inl (by omega)⟩, HW.out⟩

theorem Try.info49 : (Try.prog.info? 49).map (fun i => (i.zero, i.size, i.bytes)) = some (some (.agg #[.int .i64 0, .int .i64 0, .bool false, .string ⟨#[]⟩, .int .i64 0, .int .i64 0, .string ⟨#[]⟩]), 7, 72) := by kernel_rfl

theorem make49 (n : Nat) (hn : n ≤ 1048576) (w : World) :
    (Instr.makeSlice 41 (.int .i64 (n : Int)) (.int .i64 (n : Int))).run Try.prog w = .ok (.slice (some ⟨w.heap.size, 0, none⟩) n n)
      (w.alloc (.cells (madeCells #[.int .i64 0, .int .i64 0, .bool false, .string ⟨#[]⟩, .int .i64 0, .int .i64 0, .string ⟨#[]⟩] (n * 7)) 49)) := by
  obtain ⟨i, hi, hzz⟩ := Option.map_eq_some_iff.1 Try.info49
  simp only [Prod.mk.injEq] at hzz
  obtain ⟨hz, hs, hb⟩ := hzz
  have hr := run_make (P := Try.prog) w 41 49 i _ Try.underlying41 hi hz .i64 .i64 n n (by omega) (Int.le_refl _) (by rw [hb]; omega) (by omega)
  simp only [Int.toNat_natCast, hs, Value.cells] at hr
  exact hr

/-- The row of updates while it is being built: the first k are there. -/
def built (u : Nat → Rec) (k : Nat) : Nat → Value := fun i => if i < k * 7 then (u (i / 7)).cell (i % 7) else zero7 (i % 7)

theorem built_start (w : World) (n : Nat) (u : Nat → Rec) :
    (w.alloc (.cells (madeCells #[.int .i64 0, .int .i64 0, .bool false, .string ⟨#[]⟩, .int .i64 0, .int .i64 0, .string ⟨#[]⟩] (n * 7)) 49)).rowIs w.heap.size 49 (n * 7) (built u 0) := by
  refine ⟨_, Deep.blk_alloc_new _ _, size_madeCells _ _, fun i hi => ?_⟩
  have : i % 7 < 7 := Nat.mod_lt _ (by omega)
  simp only [built, Nat.zero_mul, Nat.not_lt_zero, if_false, madeCells, Array.getElem?_map, Array.getElem?_range, hi, if_true, Option.map_some]
  generalize i % 7 = t at this
  match t, this with
  | 0, _ => rfl
  | 1, _ => rfl
  | 2, _ => rfl
  | 3, _ => rfl
  | 4, _ => rfl
  | 5, _ => rfl
  | 6, _ => rfl

theorem built_step {w : World} {B n k : Nat} {u : Nat → Rec} (h : w.rowIs B 49 (n * 7) (built u k)) (hk : k < n) :
    (((((((w.setCell ⟨B, k * 7, none⟩ (.int .i64 (u k).at_)).setCell ⟨B, k * 7 + 1, none⟩ (.int .i64 (u k).rank)).setCell ⟨B, k * 7 + 2, none⟩ (.bool (u k).off)).setCell ⟨B, k * 7 + 3, none⟩ (.string (u k).name)).setCell
      ⟨B, k * 7 + 4, none⟩ (.int .i64 (u k).af)).setCell ⟨B, k * 7 + 5, none⟩ (.int .i64 (u k).rf)).setCell ⟨B, k * 7 + 6, none⟩ (.string (u k).arg)).rowIs B 49 (n * 7) (built u (k + 1)) := by
  refine (((((((h.set _ _).set _ _).set _ _).set _ _).set _ _).set _ _).set _ _).congr (fun i hi => ?_)
  simp only [built]
  by_cases h0 : i = k * 7
  · subst h0
    rw [if_neg (by omega), if_neg (by omega), if_neg (by omega), if_neg (by omega), if_neg (by omega), if_neg (by omega), if_pos rfl, if_pos (by omega), show k * 7 / 7 = k by omega, show k * 7 % 7 = 0 by omega]
    rfl
  by_cases h1 : i = k * 7 + 1
  · subst h1
    rw [if_neg (by omega), if_neg (by omega), if_neg (by omega), if_neg (by omega), if_neg (by omega), if_pos rfl, if_pos (by omega), show (k * 7 + 1) / 7 = k by omega, show (k * 7 + 1) % 7 = 1 by omega]
    rfl
  by_cases h2 : i = k * 7 + 2
  · subst h2
    rw [if_neg (by omega), if_neg (by omega), if_neg (by omega), if_neg (by omega), if_pos rfl, if_pos (by omega), show (k * 7 + 2) / 7 = k by omega, show (k * 7 + 2) % 7 = 2 by omega]
    rfl
  by_cases h3 : i = k * 7 + 3
  · subst h3
    rw [if_neg (by omega), if_neg (by omega), if_neg (by omega), if_pos rfl, if_pos (by omega), show (k * 7 + 3) / 7 = k by omega, show (k * 7 + 3) % 7 = 3 by omega]
    rfl
  by_cases h4 : i = k * 7 + 4
  · subst h4
    rw [if_neg (by omega), if_neg (by omega), if_pos rfl, if_pos (by omega), show (k * 7 + 4) / 7 = k by omega, show (k * 7 + 4) % 7 = 4 by omega]
    rfl
  by_cases h5 : i = k * 7 + 5
  · subst h5
    rw [if_neg (by omega), if_pos rfl, if_pos (by omega), show (k * 7 + 5) / 7 = k by omega, show (k * 7 + 5) % 7 = 5 by omega]
    rfl
  by_cases h6 : i = k * 7 + 6
  · subst h6
    rw [if_pos rfl, if_pos (by omega), show (k * 7 + 6) / 7 = k by omega, show (k * 7 + 6) % 7 = 6 by omega]
    rfl
  rw [if_neg h6, if_neg h5, if_neg h4, if_neg h3, if_neg h2, if_neg h1, if_neg h0]
  by_cases hlt : i < k * 7
  · rw [if_pos hlt, if_pos (by omega)]
  · rw [if_neg hlt, if_neg (by omega)]

theorem built_lies {w : World} {B n : Nat} {u : Nat → Rec} (h : w.rowIs B 49 (n * 7) (built u n)) : Lies w B 0 n u := by
  intro k hk t ht
  have := h.cell (i := k * 7 + t) (by omega)
  rw [Nat.zero_add, this]
  simp only [built]
  rw [if_pos (by omega), show (k * 7 + t) / 7 = k by omega, show (k * 7 + t) % 7 = t by omega]

set_option maxHeartbeats 2000000 in
theorem build_any (n c b o : Nat) (u : Nat → Rec) (w : World) (hn : n ≤ 16384) (hl : Lies w b o n u) :
    Calls Try.prog 24 #[.slice (some ⟨b, o, none⟩) n c] w fun e w' => e = .returned (.slice (some ⟨w.heap.size, 0, none⟩) n n) ∧ w'.rowIs w.heap.size 49 (n * 7) (built u n) ∧ Below w.heap.size w w' := by
  have hmk := make49 n (by omega)
  go_enter Try.func24, Try.ntmps24
  go_wp2
  clear hmk
  go_loopw [4] (fun i wr => ∃ k : Nat, k ≤ n ∧ i = .int .i64 k ∧ wr.rowIs w.heap.size 49 (n * 7) (built u k) ∧ Below w.heap.size w wr) (fun i _ => n - (intOf i).toNat)
  case atStart => exact ⟨0, Nat.zero_le _, rfl, built_start w n u, (Below.refl _ _).alloc (Nat.le_refl _) _⟩
  case round =>
    obtain ⟨k, hk, rfl, hrow, hbel⟩ := hrel
    by_cases hlt : k < n
    · have hl' := hl.below hbel
      have g0 := hl' k hlt 0 (by omega)
      have g1 := hl' k hlt 1 (by omega)
      have g2 := hl' k hlt 2 (by omega)
      have g3 := hl' k hlt 3 (by omega)
      have g4 := hl' k hlt 4 (by omega)
      have g5 := hl' k hlt 5 (by omega)
      have g6 := hl' k hlt 6 (by omega)
      simp only [Rec.cell, Nat.add_zero] at g0 g1 g2 g3 g4 g5 g6
      have hlt' : (k : Int) < (n : Int) := by omega
      clear hl' hl
      go_wp2_with fail
      refine (newUpdate_any (u k) _).mono ?_
      rintro e w1 ⟨rfl, hb1⟩
      have hr1 := (hrow.alloc _).of_block (hb1.block w.heap.size (by have := hrow.lt; simp; omega))
      have hbel1 := (hbel.alloc hbel.size _).trans (hb1.mono (by have := hbel.size; simp; omega))
      have z0 := hr1.cell (i := k * 7) (by omega)
      have z1 := hr1.cell (i := k * 7 + 1) (by omega)
      have z2 := hr1.cell (i := k * 7 + 2) (by omega)
      have z3 := hr1.cell (i := k * 7 + 3) (by omega)
      have z4 := hr1.cell (i := k * 7 + 4) (by omega)
      have z5 := hr1.cell (i := k * 7 + 5) (by omega)
      have z6 := hr1.cell (i := k * 7 + 6) (by omega)
      have y0 := hr1.frozen (k * 7)
      have y1 := hr1.frozen (k * 7 + 1)
      have y2 := hr1.frozen (k * 7 + 2)
      have y3 := hr1.frozen (k * 7 + 3)
      have y4 := hr1.frozen (k * 7 + 4)
      have y5 := hr1.frozen (k * 7 + 5)
      have y6 := hr1.frozen (k * 7 + 6)
      clear g0 g1 g2 g3 g4 g5 g6 hrow hbel hb1
      have R := built_step hr1 hlt
      clear hr1
      go_wp2
      go_roundw
      case rel => exact ⟨k + 1, by omega, by go_num, R, (((((((hbel1.setCell (Nat.le_refl _) _).setCell (Nat.le_refl _) _).setCell (Nat.le_refl _) _).setCell (Nat.le_refl _) _).setCell (Nat.le_refl _) _).setCell (Nat.le_refl _) _).setCell (Nat.le_refl _) _)⟩
      case measure => simp [intOf]; omega
    · obtain rfl : k = n := by omega
      go_wp2
      go_ret
      exact ⟨rfl, hrow, hbel⟩
end Go.Proofs.Qxb6613657a
