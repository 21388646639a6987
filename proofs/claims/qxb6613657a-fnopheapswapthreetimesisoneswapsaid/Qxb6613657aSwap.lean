/-
  (*opHeap).Swap, ZZnewOpHeap and the comparisons of the laws: their contracts. Own text.
-/
import Derived.Test.Qxb6613657aClone
import Derived.RegionTactic
import Derived.BigRegion
import Derived.BigQuiet
import Derived.Deep.QuietTactic
namespace Go.Proofs.Qxb6613657a
open Go.RowKit
set_option linter.unusedVariables false

/-- Only block b has turned. -/
structure Only (b : Nat) (w w' : World) : Prop where
  os : w'.os = w.os
  tape : w'.tape = w.tape
  output : w'.output = w.output
  size : w'.heap.size = w.heap.size
  block : ∀ k, k ≠ b → w'.heap[k]? = w.heap[k]?

theorem Only.refl (b : Nat) (w : World) : Only b w w := ⟨rfl, rfl, rfl, rfl, fun _ _ => rfl⟩
theorem Only.setCell {b : Nat} {a w : World} (h : Only b a w) (o : Nat) (v : Value) : Only b a (w.setCell ⟨b, o, none⟩ v) :=
  ⟨h.os, h.tape, h.output, by simp [World.setCell, h.size], fun k hk => (Below.heap_setCell _ _ _ _ hk).trans (h.block k hk)⟩
theorem Only.drew {b : Nat} {a w : World} (h : Only b a w) : Only b a w.drew := ⟨h.os, h.tape, h.output, h.size, h.block⟩
theorem Only.below {b B : Nat} {w w' : World} (h : Only b w w') (hb : B ≤ b) : Below B w w' :=
  ⟨h.os, h.tape, h.output, by rw [h.size]; exact Nat.le_refl _, fun k hk => h.block k (by omega)⟩

/-- The exchange of places i and j. -/
def swf (f : Nat → Int) (i j : Nat) : Nat → Int := fun k => if k = j then f i else if k = i then f j else f k

set_option maxHeartbeats 1000000 in
theorem swap_any (hb b n i j : Nat) (f : Nat → Int) (w : World) (hi : i < n) (hj : j < n) (hn : n ≤ 65536)
    (h0 : w.cell? ⟨hb, 0, none⟩ = some (.slice (some ⟨b, 0, none⟩) n n)) (hrow : w.rowIs b 21 n (fun k => .int .i32 (f k))) (hne : hb ≠ b) :
    Calls Try.prog 13 #[.pointer (some ⟨hb, 0, none⟩), .int .i64 (i : Int), .int .i64 (j : Int)] w fun e w' => e = .returned (.tuple #[]) ∧
      w'.rowIs b 21 n (fun k => .int .i32 (swf f i j k)) ∧ Only b w w' := by
  have ci := hrow.cell hi
  have fi := hrow.frozen i
  have cj := hrow.cell hj
  have fj := hrow.frozen j
  have R := ((hrow.set i (.int .i32 (f j))).set j (.int .i32 (f i))).congr (g := fun k => .int .i32 (swf f i j k)) (fun k _ => by
    simp only [swf]
    split
    · rfl
    · split <;> rfl)
  have O := (((Only.refl b w).setCell i (.int .i32 (f j))).setCell j (.int .i32 (f i))).drew
  have hi' : (i : Int) < (n : Int) := by omega
  have hj' : (j : Int) < (n : Int) := by omega
  clear hrow
  by_cases hij : i = j
  · subst hij
    clear cj fj hj hj'
    go_enter Try.func13, Try.ntmps13
    go_wp2
    go_region
    all_goals (go_wp2; go_end0; exact ⟨rfl, R, O⟩)
  · go_enter Try.func13, Try.ntmps13
    go_wp2
    go_region
    all_goals (go_wp2; go_end0; exact ⟨rfl, R, O⟩)

set_option maxHeartbeats 1000000 in
theorem eq64 (a1 a2 : Option Addr) (n c1 c2 : Nat) (g : Nat → Int) (w : World) (hn : n ≤ 65536) (h1 : At .u64 w a1 n g) (h2 : At .u64 w a2 n g) :
    Calls Try.prog 15 #[.slice a1 n c1, .slice a2 n c2] w fun e w' => e = .returned (.bool true) ∧ ∃ q, w' = w.drewN q := by
  go_enter Try.func15, Try.ntmps15
  go_wp2
  go_loopw [5] (fun i wr => ∃ k q : Nat, k ≤ n ∧ i = .int .i64 k ∧ wr = w.drewN q) (fun i _ => n - (intOf i).toNat)
  case atStart => exact ⟨0, 0, Nat.zero_le _, rfl, rfl⟩
  case round =>
    obtain ⟨k, q, hk, rfl, rfl⟩ := hrel
    by_cases hlt : k < n
    · obtain ⟨b1, o1, rfl, hc1⟩ := h1 (by omega)
      obtain ⟨b2, o2, rfl, hc2⟩ := h2 (by omega)
      have d1 := hc1 k hlt
      have d2 := hc2 k hlt
      have hlt' : (k : Int) < (n : Int) := by omega
      clear hc1 hc2 h1 h2
      go_wp2
      go_quiet (fail)
      go_wp2
      go_roundw
      case rel => exact ⟨k + 1, _, by omega, by go_num, rfl⟩
      case measure => simp [intOf]; omega
    · go_wp2
      go_ret
      exact ⟨rfl, q, rfl⟩
set_option maxHeartbeats 1000000 in
theorem eq32 (a1 a2 : Option Addr) (n c1 c2 : Nat) (g : Nat → Int) (w : World) (hn : n ≤ 65536) (h1 : At .i32 w a1 n g) (h2 : At .i32 w a2 n g) :
    Calls Try.prog 17 #[.slice a1 n c1, .slice a2 n c2] w fun e w' => e = .returned (.bool true) ∧ ∃ q, w' = w.drewN q := by
  go_enter Try.func17, Try.ntmps17
  go_wp2
  go_loopw [5] (fun i wr => ∃ k q : Nat, k ≤ n ∧ i = .int .i64 k ∧ wr = w.drewN q) (fun i _ => n - (intOf i).toNat)
  case atStart => exact ⟨0, 0, Nat.zero_le _, rfl, rfl⟩
  case round =>
    obtain ⟨k, q, hk, rfl, rfl⟩ := hrel
    by_cases hlt : k < n
    · obtain ⟨b1, o1, rfl, hc1⟩ := h1 (by omega)
      obtain ⟨b2, o2, rfl, hc2⟩ := h2 (by omega)
      have d1 := hc1 k hlt
      have d2 := hc2 k hlt
      have hlt' : (k : Int) < (n : Int) := by omega
      clear hc1 hc2 h1 h2
      go_wp2
      go_quiet (fail)
      go_wp2
      go_roundw
      case rel => exact ⟨k + 1, _, by omega, by go_num, rfl⟩
      case measure => simp [intOf]; omega
    · go_wp2
      go_ret
      exact ⟨rfl, q, rfl⟩

theorem newheap (a r : Option Addr) (n c m d : Nat) (w : World) :
    Calls Try.prog 12 #[.slice a n c, .slice r m d] w fun e w' => e = .returned (.pointer (some ⟨w.heap.size, 0, none⟩)) ∧ w'.cell? ⟨w.heap.size, 0, none⟩ = some (.slice a n c) ∧
      w'.cell? ⟨w.heap.size, 1, none⟩ = some (.slice r m d) ∧ Below w.heap.size w w' ∧ w'.heap.size = w.heap.size + 1 := by
  go_enter Try.func12, Try.ntmps12
  go_wp2
  go_ret
  exact ⟨rfl, by simp, by simp, (Below.refl _ _).alloc (Nat.le_refl _) _, by simp⟩

theorem heapOps (hb : Nat) (v : Value) (w : World) (h : w.cell? ⟨hb, 0, none⟩ = some v) :
    Calls Try.prog 14 #[.pointer (some ⟨hb, 0, none⟩)] w fun e w' => e = .returned v ∧ w = w' := by
  go_enter Try.func14, Try.ntmps14
  go_wp2
  go_ret
  exact ⟨rfl, rfl⟩

theorem heapRank (hb : Nat) (v : Value) (w : World) (h : w.cell? ⟨hb, 1, none⟩ = some v) :
    Calls Try.prog 16 #[.pointer (some ⟨hb, 0, none⟩)] w fun e w' => e = .returned v ∧ w = w' := by
  go_enter Try.func16, Try.ntmps16
  go_wp2
  go_ret
  exact ⟨rfl, rfl⟩

/-- A slice of uint64 that the call itself has made (or a nil one), in a block from B on. -/
def Own64 (B : Nat) (w : World) (r : Option Addr) (m : Nat) (g : Nat → Int) : Prop :=
  (r = none → m = 0) ∧ (0 < m → ∃ b, r = some ⟨b, 0, none⟩ ∧ B ≤ b ∧ w.rowIs b 36 m (fun i => .int .u64 (g i)))

theorem Own64.at {B : Nat} {w : World} {r : Option Addr} {m : Nat} {g : Nat → Int} (h : Own64 B w r m g) : At .u64 w r m g := by
  intro hm
  obtain ⟨b, rfl, _, hrow⟩ := h.2 hm
  exact ⟨b, 0, rfl, fun i hi => by rw [Nat.zero_add]; exact hrow.cell hi⟩

theorem Own64.keep {B : Nat} {w w' : World} {r : Option Addr} {m : Nat} {g : Nat → Int} (h : Own64 B w r m g) (hk : ∀ k, B ≤ k → k < w.heap.size → w'.heap[k]? = w.heap[k]?) : Own64 B w' r m g := by
  refine ⟨h.1, fun hm => ?_⟩
  obtain ⟨b, rfl, hb, hrow⟩ := h.2 hm
  exact ⟨b, rfl, hb, hrow.of_block (hk b hb hrow.lt)⟩

theorem Own64.mono {B B' : Nat} {w : World} {r : Option Addr} {m : Nat} {g : Nat → Int} (h : Own64 B w r m g) (hB : B' ≤ B) : Own64 B' w r m g := by
  refine ⟨h.1, fun hm => ?_⟩
  obtain ⟨b, rfl, hb, hrow⟩ := h.2 hm
  exact ⟨b, rfl, by omega, hrow⟩

theorem clone64_any (r : Option Addr) (m c : Nat) (g : Nat → Int) (w : World) (hm : m ≤ 65536) (hr : r = none → m = 0) (hc : At .u64 w r m g) :
    Calls Try.prog 11 #[.slice r m c] w fun e w' => ∃ r' c', e = .returned (.slice r' m c') ∧ Own64 w.heap.size w' r' m g ∧ Below w.heap.size w w' := by
  cases r with
  | none =>
    obtain rfl := hr rfl
    refine (clone64_nil c w).mono ?_
    rintro e w' ⟨rfl, rfl⟩
    exact ⟨none, 0, rfl, ⟨fun _ => rfl, fun h => by omega⟩, Below.refl _ _⟩
  | some a =>
    refine (clone64 a m c g w hm hc).mono ?_
    rintro e w' ⟨rfl, hrow, hbel, hsz⟩
    exact ⟨_, _, rfl, ⟨fun h => by simp at h, fun _ => ⟨_, rfl, Nat.le_refl _, hrow⟩⟩, hbel⟩
end Go.Proofs.Qxb6613657a
