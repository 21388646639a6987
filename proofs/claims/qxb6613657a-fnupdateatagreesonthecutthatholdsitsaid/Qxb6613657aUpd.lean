/-
  The records of the UpdateAt laws; cmp.Compare, the search's closure, slices.BinarySearchFunc, updateAt. Own text.
-/
import Derived.Test.Qxb6613657aProg
import Derived.WalkKit
import Derived.WalkSpells
import Derived.WalkSmall
import Derived.Deep.OwnRows
import Derived.Below
import Derived.RegionTactic
import Derived.BigRegion
import Derived.BigQuiet
import Derived.Deep.QuietTactic
namespace Go.Proofs.Qxb6613657a
open Go.RowKit
set_option linter.unusedVariables false

/-- One update, field for field (Upd and update alike). -/
structure Rec where
  at_ : Int
  rank : Int
  off : Bool
  name : ByteArray
  af : Int
  rf : Int
  arg : ByteArray

/-- Its seven cells. -/
def Rec.cell (u : Rec) : Nat → Value
  | 0 => .int .i64 u.at_
  | 1 => .int .i64 u.rank
  | 2 => .bool u.off
  | 3 => .string u.name
  | 4 => .int .i64 u.af
  | 5 => .int .i64 u.rf
  | _ => .string u.arg

abbrev Rec.val (u : Rec) : Value := .agg #[.int .i64 u.at_, .int .i64 u.rank, .bool u.off, .string u.name, .int .i64 u.af, .int .i64 u.rf, .string u.arg]

theorem compare_lt (x y : Int) (h : x < y) (w : World) : Calls Try.prog 35 #[.int .i64 x, .int .i64 y] w fun e w' => e = .returned (.int .i64 (-1)) ∧ w = w' := by
  go_enter Try.func35, Try.ntmps35
  go_wp2
  go_ret
  exact ⟨rfl, rfl⟩

theorem compare_ge (x y : Int) (h : y ≤ x) (w : World) : Calls Try.prog 35 #[.int .i64 x, .int .i64 y] w fun e w' => ∃ z : Int, e = .returned (.int .i64 z) ∧ 0 ≤ z ∧ z ≤ 1 ∧ w = w' := by
  go_enter Try.func35, Try.ntmps35
  go_wp2
  all_goals (go_ret; exact ⟨_, rfl, by omega, by omega, rfl⟩)

theorem closure_lt (u : Rec) (y : Int) (h : u.at_ < y) (w : World) : Calls Try.prog 34 #[u.val, .int .i64 y] w fun e w' => e = .returned (.int .i64 (-1)) ∧ Below w.heap.size w w' := by
  unfold Rec.val
  go_enter Try.func34, Try.ntmps34
  go_wp2_with fail
  refine (compare_lt _ _ h _).mono ?_
  rintro e w' ⟨rfl, rfl⟩
  go_wp2
  go_ret
  exact ⟨rfl, (Below.refl _ _).alloc (Nat.le_refl _) _⟩

theorem closure_ge (u : Rec) (y : Int) (h : y ≤ u.at_) (w : World) : Calls Try.prog 34 #[u.val, .int .i64 y] w fun e w' => ∃ z : Int, e = .returned (.int .i64 z) ∧ 0 ≤ z ∧ z ≤ 1 ∧ Below w.heap.size w w' := by
  unfold Rec.val
  go_enter Try.func34, Try.ntmps34
  go_wp2_with fail
  refine (compare_ge _ _ h _).mono ?_
  rintro e w' ⟨z, rfl, h0, h1, rfl⟩
  go_wp2
  go_ret
  exact ⟨_, rfl, h0, h1, (Below.refl _ _).alloc (Nat.le_refl _) _⟩

/-- The n updates of a slice lie at block b, from offset o on, seven cells each. -/
def Lies (w : World) (b o n : Nat) (u : Nat → Rec) : Prop := ∀ k, k < n → ∀ t, t < 7 → w.cell? ⟨b, o + k * 7 + t, none⟩ = some ((u k).cell t)

theorem Lies.below {w w' : World} {b o n : Nat} {u : Nat → Rec} (h : Lies w b o n u) (hb : Below w.heap.size w w') : Lies w' b o n u := by
  intro k hk t ht
  have := h k hk t ht
  rw [hb.cell (p := ⟨b, o + k * 7 + t, none⟩) (World.block_lt_of_cell? _ _ this)]
  exact this

set_option maxHeartbeats 1000000 in
theorem search (b o n c : Nat) (a : Int) (u : Nat → Rec) (w : World) (hn : n ≤ 1048576) (hl : Lies w b o n u) (hs : ∀ s t, s ≤ t → t < n → (u s).at_ ≤ (u t).at_) (hu : 0 < n):
    Calls Try.prog 33 #[.slice (some ⟨b, o, none⟩) n c, .int .i64 a, .func (.func 34) #[] #[]] w fun e w' => ∃ p : Nat, ∃ f : Bool, e = .returned (.tuple #[.int .i64 p, .bool f]) ∧ p ≤ n ∧ (∀ t, t < p → (u t).at_ < a) ∧ (∀ t, p ≤ t → t < n → a ≤ (u t).at_) ∧ Below w.heap.size w w' := by
  go_enter Try.func33, Try.ntmps33
  go_wp2
  go_loopw [9, 10] (fun i j wr => ∃ p q : Nat, p ≤ q ∧ q ≤ n ∧ i = .int .i64 p ∧ j = .int .i64 q ∧ (∀ t, t < p → (u t).at_ < a) ∧ (∀ t, q ≤ t → t < n → a ≤ (u t).at_) ∧ Below w.heap.size w wr)
    (fun i j _ => (intOf j - intOf i).toNat)
  case atStart => exact ⟨0, n, Nat.zero_le _, Nat.le_refl _, rfl, rfl, fun t ht => absurd ht (Nat.not_lt_zero _), fun t h1 h2 => by omega, Below.refl _ _⟩
  case round =>
    obtain ⟨p, q, hpq, hq, rfl, rfl, hlo, hhi, hbel⟩ := hrel
    have hl' := hl.below hbel
    by_cases hlt : p < q
    · have hm : p + (q - p) / 2 = (p + q) / 2 := by omega
      obtain ⟨m, hmid⟩ : ∃ m, (p + q) / 2 = m := ⟨_, rfl⟩
      have hmn : m < n := by omega
      have g0 := hl' m hmn 0 (by omega)
      have g1 := hl' m hmn 1 (by omega)
      have g2 := hl' m hmn 2 (by omega)
      have g3 := hl' m hmn 3 (by omega)
      have g4 := hl' m hmn 4 (by omega)
      have g5 := hl' m hmn 5 (by omega)
      have g6 := hl' m hmn 6 (by omega)
      simp only [Rec.cell, Nat.add_zero] at g0 g1 g2 g3 g4 g5 g6
      by_cases hc : (u m).at_ < a
      · have HR : Hid (∀ t, t < m + 1 → (u t).at_ < a) := fun t ht => Int.lt_of_le_of_lt (hs t m (by omega) hmn) hc
        clear hl' hm hl hlo
        go_wp2_with fail
        refine (closure_lt (u m) a hc _).mono ?_
        rintro e w' ⟨rfl, hb'⟩
        have hbel' := hbel.trans (hb'.mono hbel.size)
        have hm2 : ((p : Int) + q) / 2 = m := by omega
        clear hbel hb' g0 g1 g2 g3 g4 g5 g6
        go_wp2
        go_roundw
        case rel => exact ⟨m + 1, q, by omega, hq, by go_num, rfl, HR.out, hhi, hbel'⟩
        case measure => simp [intOf]; omega
      · have HR : Hid (∀ t, m ≤ t → t < n → a ≤ (u t).at_) := fun t h1 h2 => Int.le_trans (Int.not_lt.1 hc) (hs m t h1 h2)
        have hge : a ≤ (u m).at_ := Int.not_lt.1 hc
        clear hl' hm hl hhi hc
        go_wp2_with fail
        refine (closure_ge (u m) a hge _).mono ?_
        rintro e w' ⟨z, rfl, hz0, hz1, hb'⟩
        have hbel' := hbel.trans (hb'.mono hbel.size)
        have hm2 : ((p : Int) + q) / 2 = m := by omega
        clear hbel hb' g0 g1 g2 g3 g4 g5 g6
        go_wp2
        go_roundw
        case rel => exact ⟨p, m, by omega, by omega, rfl, rfl, hlo, HR.out, hbel'⟩
        case measure => simp [intOf]; omega
    · obtain rfl : p = q := by omega
      by_cases hpn : p < n
      · have g0 := hl' p hpn 0 (by omega)
        have g1 := hl' p hpn 1 (by omega)
        have g2 := hl' p hpn 2 (by omega)
        have g3 := hl' p hpn 3 (by omega)
        have g4 := hl' p hpn 4 (by omega)
        have g5 := hl' p hpn 5 (by omega)
        have g6 := hl' p hpn 6 (by omega)
        simp only [Rec.cell, Nat.add_zero] at g0 g1 g2 g3 g4 g5 g6
        have hge := hhi p (Nat.le_refl _) hpn
        clear hl' hl
        go_wp2_with fail
        refine (closure_ge (u p) a hge _).mono ?_
        rintro e w' ⟨z, rfl, hz0, hz1, hb'⟩
        have hbel' := hbel.trans (hb'.mono hbel.size)
        clear hbel hb' g0 g1 g2 g3 g4 g5 g6
        go_wp2
        all_goals (go_ret2; exact ⟨p, _, rfl, hq, hlo, hhi, hbel'⟩)
      · have hd : decide ((p : Int) < (n : Int)) = false := decide_eq_false (by omega)
        go_wp2
        go_ret2
        exact ⟨p, _, rfl, hq, hlo, hhi, hbel⟩

theorem rowIs_seven {w : World} {N : Nat} {f : Nat → Value} (h : w.rowIs N 49 7 f) :
    (w.cell? ⟨N, 0, none⟩ = some (f 0) ∧ w.cell? ⟨N, 1, none⟩ = some (f 1) ∧ w.cell? ⟨N, 2, none⟩ = some (f 2) ∧ w.cell? ⟨N, 3, none⟩ = some (f 3) ∧ w.cell? ⟨N, 4, none⟩ = some (f 4) ∧ w.cell? ⟨N, 5, none⟩ = some (f 5) ∧ w.cell? ⟨N, 6, none⟩ = some (f 6)) ∧
    (w.frozen? ⟨N, 0, none⟩ = false ∧ w.frozen? ⟨N, 1, none⟩ = false ∧ w.frozen? ⟨N, 2, none⟩ = false ∧ w.frozen? ⟨N, 3, none⟩ = false ∧ w.frozen? ⟨N, 4, none⟩ = false ∧ w.frozen? ⟨N, 5, none⟩ = false ∧ w.frozen? ⟨N, 6, none⟩ = false) :=
  ⟨⟨h.cell (by omega), h.cell (by omega), h.cell (by omega), h.cell (by omega), h.cell (by omega), h.cell (by omega), h.cell (by omega)⟩,
   ⟨h.frozen _, h.frozen _, h.frozen _, h.frozen _, h.frozen _, h.frozen _, h.frozen _⟩⟩

def zero7 : Nat → Value := Rec.cell ⟨0, 0, false, ⟨#[]⟩, 0, 0, ⟨#[]⟩⟩

theorem rowIs_zero7 (w : World) : (w.alloc (.cells #[.int .i64 0, .int .i64 0, .bool false, .string ⟨#[]⟩, .int .i64 0, .int .i64 0, .string ⟨#[]⟩] 49)).rowIs w.heap.size 49 7 zero7 :=
  World.rowIs_alloc w _ 49 zero7 (fun i hi => by
    match i, hi with
    | 0, _ => rfl
    | 1, _ => rfl
    | 2, _ => rfl
    | 3, _ => rfl
    | 4, _ => rfl
    | 5, _ => rfl
    | 6, _ => rfl)

set_option maxHeartbeats 1000000 in
/-- updateAt gives the first update whose place is a. -/
theorem updateAt_any (b o n c first : Nat) (a : Int) (u : Nat → Rec) (w : World) (hn : n ≤ 1048576) (hl : Lies w b o n u) (hs : ∀ s t, s ≤ t → t < n → (u s).at_ ≤ (u t).at_)
    (hf : first < n) (ha : (u first).at_ = a) (hfirst : ∀ t, t < first → (u t).at_ ≠ a) :
    Calls Try.prog 32 #[.slice (some ⟨b, o, none⟩) n c, .int .i64 a] w fun e w' => e = .returned (u first).val ∧ Below w.heap.size w w' := by
  go_enter Try.func32, Try.ntmps32
  go_wp2_with fail
  refine (search b o n c a u _ hn ?_ hs (by omega)).mono ?_
  · exact hl.below ((Below.refl _ _).alloc (Nat.le_refl _) _)
  rintro e w1 ⟨p, fb, rfl, hp, hlo, hhi, hbel⟩
  obtain rfl : p = first := by
    rcases Nat.lt_trichotomy p first with h | h | h
    · have h1 := hhi p (Nat.le_refl _) (by omega)
      have h2 := hs p first (by omega) hf
      have h3 := hfirst p h
      omega
    · exact h
    · have := hlo first h
      omega
  have HA : Hid ((u p).at_ = a) := ha
  have hl1 := (hl.below ((Below.refl _ _).alloc (Nat.le_refl _) _)).below hbel
  have hN := (rowIs_zero7 w).of_block (hbel.block w.heap.size (by simp))
  have hbel1 : Below w.heap.size w w1 := ((Below.refl _ _).alloc (Nat.le_refl _) _).trans (hbel.mono (by simp))
  obtain ⟨⟨z0, z1, z2, z3, z4, z5, z6⟩, y0, y1, y2, y3, y4, y5, y6⟩ := rowIs_seven hN
  have g0 := hl1 p hf 0 (by omega)
  have g1 := hl1 p hf 1 (by omega)
  have g2 := hl1 p hf 2 (by omega)
  have g3 := hl1 p hf 3 (by omega)
  have g4 := hl1 p hf 4 (by omega)
  have g5 := hl1 p hf 5 (by omega)
  have g6 := hl1 p hf 6 (by omega)
  simp only [Rec.cell, Nat.add_zero] at g0 g1 g2 g3 g4 g5 g6
  clear ha hfirst hs hl hl1 hbel hlo hhi hN
  generalize hNN : w.heap.size = N at *
  go_wp2
  refine bodyPost_ret (v := (u p).val) (by simp [results, Try.results32, go_sem, z0, z1, z2, z3, z4, z5, z6]) rfl ⟨rfl, ?_⟩
  rw [hNN]
  exact ((((((hbel1.setCell (Nat.le_refl _) _).setCell (Nat.le_refl _) _).setCell (Nat.le_refl _) _).setCell (Nat.le_refl _) _).setCell (Nat.le_refl _) _).setCell (Nat.le_refl _) _).setCell (Nat.le_refl _) _

set_option maxHeartbeats 1000000 in
theorem ZZupdateAt_any (b o n c first : Nat) (a : Int) (u : Nat → Rec) (w : World) (hn : n ≤ 1048576) (hl : Lies w b o n u) (hs : ∀ s t, s ≤ t → t < n → (u s).at_ ≤ (u t).at_)
    (hf : first < n) (ha : (u first).at_ = a) (hfirst : ∀ t, t < first → (u t).at_ ≠ a) :
    Calls Try.prog 25 #[.slice (some ⟨b, o, none⟩) n c, .int .i64 a] w fun e w' => e = .returned (u first).val ∧ Below w.heap.size w w' := by
  have HA : Hid ((u first).at_ = a) := ha
  clear ha
  go_enter Try.func25, Try.ntmps25
  go_wp2_with fail
  refine (updateAt_any b o n c first a u _ hn ?_ hs hf HA.out hfirst).mono ?_
  · exact hl.below ((Below.refl _ _).alloc (Nat.le_refl _) _)
  rintro e w1 ⟨rfl, hbel⟩
  have hN := (rowIs_zero7 w).of_block (hbel.block w.heap.size (by simp))
  have hbel1 : Below w.heap.size w w1 := ((Below.refl _ _).alloc (Nat.le_refl _) _).trans (hbel.mono (by simp))
  obtain ⟨⟨z0, z1, z2, z3, z4, z5, z6⟩, y0, y1, y2, y3, y4, y5, y6⟩ := rowIs_seven hN
  clear hfirst hs hl hbel hN
  generalize hNN : w.heap.size = N at *
  go_wp2
  refine bodyPost_ret (v := (u first).val) (by simp [results, Try.results25, go_sem, z0, z1, z2, z3, z4, z5, z6]) rfl ⟨rfl, ?_⟩
  rw [hNN]
  exact ((((((hbel1.setCell (Nat.le_refl _) _).setCell (Nat.le_refl _) _).setCell (Nat.le_refl _) _).setCell (Nat.le_refl _) _).setCell (Nat.le_refl _) _).setCell (Nat.le_refl _) _).setCell (Nat.le_refl _) _

/-- ZZnewUpdate: the fields, one to one. -/
theorem newUpdate_any (u : Rec) (w : World) :
    Calls Try.prog 31 #[.int .i64 u.at_, .int .i64 u.rank, .bool u.off, .string u.name, .int .i64 u.af, .int .i64 u.rf, .string u.arg] w fun e w' => e = .returned u.val ∧ Below w.heap.size w w' := by
  go_enter Try.func31, Try.ntmps31
  go_wp2
  refine bodyPost_ret (v := u.val) (by simp [results, Try.results31, go_sem]) rfl ⟨rfl, ?_⟩
  exact (Below.refl _ _).alloc (Nat.le_refl _) _

/-- ZZUpdateFields hands them out. -/
theorem fields_any (u : Rec) (w : World) :
    Calls Try.prog 28 #[u.val] w fun e w' => e = .returned (.tuple #[.int .i64 u.at_, .int .i64 u.rank, .bool u.off, .string u.name, .int .i64 u.af, .int .i64 u.rf, .string u.arg]) ∧ Below w.heap.size w w' := by
  unfold Rec.val
  go_enter Try.func28, Try.ntmps28
  go_wp2
  go_quiet (fail)
  go_wp2
  refine bodyPost_ret (v := .tuple #[.int .i64 u.at_, .int .i64 u.rank, .bool u.off, .string u.name, .int .i64 u.af, .int .i64 u.rf, .string u.arg]) (by simp [results, Try.results28, go_sem]) rfl ⟨rfl, ?_⟩
  exact below_drewN ((Below.refl _ _).alloc (Nat.le_refl _) _) nq
end Go.Proofs.Qxb6613657a
