/-
  cloneI32, cloneU64: the copies that the laws make. Own text.
-/
import Derived.Test.Qxb6613657aProg
import Derived.WalkKit
import Derived.WalkSpells
import Derived.Deep.OwnRows
import Derived.Below
namespace Go.Proofs.Qxb6613657a
open Go.RowKit

theorem Try.info21 : (Try.prog.info? 21).map (fun i => (i.zero, i.size, i.bytes)) = some (some (.int .i32 0), 1, 4) := by kernel_rfl
theorem Try.info36 : (Try.prog.info? 36).map (fun i => (i.zero, i.size, i.bytes)) = some (some (.int .u64 0), 1, 8) := by kernel_rfl

/-- The cells of a slice of integers of kind k: 'g i' at place i. -/
def At (k : IntKind) (w : World) (a : Option Addr) (len : Nat) (g : Nat → Int) : Prop :=
  0 < len → ∃ b off, a = some ⟨b, off, none⟩ ∧ ∀ i, i < len → w.cell? ⟨b, off + i, none⟩ = some (.int k (g i))

/-- A row of integers in the middle of being copied. -/
def part (k : IntKind) (g : Nat → Int) (m : Nat) : Nat → Value := fun i => if i < m then .int k (g i) else .int k 0

set_option maxHeartbeats 1000000 in
theorem clone32 (a : Addr) (len cap : Nat) (g : Nat → Int) (w : World) (hl : len ≤ 65536) (hc : At .i32 w (some a) len g) :
    Calls Try.prog 10 #[.slice (some a) len cap] w fun e w' => e = .returned (.slice (some ⟨w.heap.size, 0, none⟩) len len) ∧
      w'.rowIs w.heap.size 21 len (fun i => .int .i32 (g i)) ∧ Below w.heap.size w w' ∧ w'.heap.size = w.heap.size + 1 := by
  have hmk := run_make_row' (P := Try.prog) 22 21 (.int .i32 0) 4 Try.underlying22 Try.info21 rfl .i64 .i64 len (by omega) (by omega)
  have hnil := fun w n c n' c' => Lib.run_eql_slice_nil (P := Try.prog) w 22 21 (some a) n c n' c' Try.underlying22
  go_enter Try.func10, Try.ntmps10
  go_wp2
  clear hmk hnil
  go_loopw [4] (fun i wr => ∃ k : Nat, k ≤ len ∧ i = .int .i64 k ∧ wr.rowIs w.heap.size 21 len (part .i32 g k) ∧ Below w.heap.size w wr ∧ wr.heap.size = w.heap.size + 1)
    (fun i _ => len - (intOf i).toNat)
  case atStart => exact ⟨0, Nat.zero_le _, rfl, (World.rowIs_made w _ len 21).congr (fun j _ => by simp [part]), (Below.refl _ _).alloc (Nat.le_refl _) _, by simp⟩
  case round =>
    obtain ⟨k, hk, rfl, hrow, hbel, hsz⟩ := hrel
    by_cases hlt : k < len
    · obtain ⟨b, off, hab, hcell⟩ := hc (by omega)
      injection hab with hab
      subst hab
      have hb : b < w.heap.size := World.block_lt_of_cell? _ _ (hcell k hlt)
      have h1 : wr.cell? ⟨b, off + k, none⟩ = some (.int .i32 (g k)) := by rw [hbel.cell (p := ⟨b, off + k, none⟩) hb]; exact hcell k hlt
      have h2 : wr.cell? ⟨w.heap.size, k, none⟩ = some (part .i32 g k k) := hrow.cell hlt
      have h3 : wr.frozen? ⟨w.heap.size, k, none⟩ = false := hrow.frozen k
      have R := (hrow.set k (.int .i32 (g k))).congr (g := part .i32 g (k + 1)) (fun j _ => by
        simp only [part]
        by_cases e : j = k
        · subst e; simp
        · by_cases h : j < k
          · rw [if_neg e, if_pos h, if_pos (by omega)]
          · rw [if_neg e, if_neg h, if_neg (by omega)])
      have hbel' := hbel.setCell (p := ⟨w.heap.size, k, none⟩) (Nat.le_refl _) (.int .i32 (g k))
      clear hrow hbel hcell hc
      go_wp2
      go_roundw
      case rel => exact ⟨k + 1, by omega, by go_num, R, hbel', by simp [hsz]⟩
      case measure => simp [intOf]; omega
    · go_wp2
      go_ret
      exact ⟨rfl, hrow.congr (fun i hi => by simp [part]; omega), hbel, hsz⟩
set_option maxHeartbeats 1000000 in
theorem clone64 (a : Addr) (len cap : Nat) (g : Nat → Int) (w : World) (hl : len ≤ 65536) (hc : At .u64 w (some a) len g) :
    Calls Try.prog 11 #[.slice (some a) len cap] w fun e w' => e = .returned (.slice (some ⟨w.heap.size, 0, none⟩) len len) ∧
      w'.rowIs w.heap.size 36 len (fun i => .int .u64 (g i)) ∧ Below w.heap.size w w' ∧ w'.heap.size = w.heap.size + 1 := by
  have hmk := run_make_row' (P := Try.prog) 23 36 (.int .u64 0) 8 Try.underlying23 Try.info36 rfl .i64 .i64 len (by omega) (by omega)
  have hnil := fun w n c n' c' => Lib.run_eql_slice_nil (P := Try.prog) w 23 36 (some a) n c n' c' Try.underlying23
  go_enter Try.func11, Try.ntmps11
  go_wp2
  clear hmk hnil
  go_loopw [4] (fun i wr => ∃ k : Nat, k ≤ len ∧ i = .int .i64 k ∧ wr.rowIs w.heap.size 36 len (part .u64 g k) ∧ Below w.heap.size w wr ∧ wr.heap.size = w.heap.size + 1)
    (fun i _ => len - (intOf i).toNat)
  case atStart => exact ⟨0, Nat.zero_le _, rfl, (World.rowIs_made w _ len 36).congr (fun j _ => by simp [part]), (Below.refl _ _).alloc (Nat.le_refl _) _, by simp⟩
  case round =>
    obtain ⟨k, hk, rfl, hrow, hbel, hsz⟩ := hrel
    by_cases hlt : k < len
    · obtain ⟨b, off, hab, hcell⟩ := hc (by omega)
      injection hab with hab
      subst hab
      have hb : b < w.heap.size := World.block_lt_of_cell? _ _ (hcell k hlt)
      have h1 : wr.cell? ⟨b, off + k, none⟩ = some (.int .u64 (g k)) := by rw [hbel.cell (p := ⟨b, off + k, none⟩) hb]; exact hcell k hlt
      have h2 : wr.cell? ⟨w.heap.size, k, none⟩ = some (part .u64 g k k) := hrow.cell hlt
      have h3 : wr.frozen? ⟨w.heap.size, k, none⟩ = false := hrow.frozen k
      have R := (hrow.set k (.int .u64 (g k))).congr (g := part .u64 g (k + 1)) (fun j _ => by
        simp only [part]
        by_cases e : j = k
        · subst e; simp
        · by_cases h : j < k
          · rw [if_neg e, if_pos h, if_pos (by omega)]
          · rw [if_neg e, if_neg h, if_neg (by omega)])
      have hbel' := hbel.setCell (p := ⟨w.heap.size, k, none⟩) (Nat.le_refl _) (.int .u64 (g k))
      clear hrow hbel hcell hc
      go_wp2
      go_roundw
      case rel => exact ⟨k + 1, by omega, by go_num, R, hbel', by simp [hsz]⟩
      case measure => simp [intOf]; omega
    · go_wp2
      go_ret
      exact ⟨rfl, hrow.congr (fun i hi => by simp [part]; omega), hbel, hsz⟩

theorem clone64_nil (cap : Nat) (w : World) :
    Calls Try.prog 11 #[.slice none 0 cap] w fun e w' => e = .returned (.slice none 0 0) ∧ w' = w := by
  have hnil := fun w n c n' c' => Lib.run_eql_slice_nil (P := Try.prog) w 23 36 none n c n' c' Try.underlying23
  go_enter Try.func11, Try.ntmps11
  go_wp2
  go_ret
  exact ⟨rfl, rfl⟩
#print axioms clone32
#print axioms clone64
end Go.Proofs.Qxb6613657a
