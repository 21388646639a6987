/-
  What zzBuild builds, round by round; the row of Skills. Own text.
-/
import Derived.Test.Qxb6613557aToSkill
import Derived.Test.Qxb6613557aReach
import Derived.Lib.LazyBuf
namespace Go.Proofs.Qxb6613557a
open Go.RowKit
set_option linter.unusedVariables false

/-! ### plain -/
/-- The names of the global skills among the first k. -/
def gTo (S : Nat → Sk) : Nat → List UInt8 → Bool
  | 0, _ => false
  | k + 1, l => gTo S k l || (isGlobal (S k).vis && (S k).name.toList == l)
/-- everyone: the first global skill of each name. -/
def evTo (S : Nat → Sk) : Nat → List Nat
  | 0 => []
  | k + 1 => if isGlobal (S k).vis && !gTo S k (S k).name.toList then evTo S k ++ [k] else evTo S k
/-- restricted: those that are not global. -/
def reTo (S : Nat → Sk) : Nat → List Nat
  | 0 => []
  | k + 1 => if isGlobal (S k).vis then reTo S k else reTo S k ++ [k]
/-- How many bear the name. -/
def cntTo (S : Nat → Sk) : Nat → List UInt8 → Int
  | 0, _ => 0
  | k + 1, l => if l = (S k).name.toList then cntTo S k l + 1 else cntTo S k l
/-- The custom ids in the order of their first appearance. -/
def svTo (S : Nat → Sk) : Nat → List (List UInt8)
  | 0 => []
  | k + 1 => if isCustom (S k).src && !(svTo S k).contains (S k).id.toList then svTo S k ++ [(S k).id.toList] else svTo S k
/-- A hub's key. -/
def hubKey (x : ByteArray) : List UInt8 := [104, 117, 98, 58] ++ x.toList
/-- The hubs' keys in the order of their first appearance. -/
def ldTo (S : Nat → Sk) : Nat → List (List UInt8)
  | 0 => []
  | k + 1 => match isHub (S k).src, (S k).sid with
    | true, some x => if (ldTo S k).contains (hubKey x) then ldTo S k else ldTo S k ++ [hubKey x]
    | _, _ => ldTo S k
/-- The contested names found among the first k (the counts are those of all n). -/
def conTo (S : Nat → Sk) (n : Nat) : Nat → List UInt8 → Bool
  | 0, _ => false
  | k + 1, l => conTo S n k l || (decide (1 < cntTo S n (S k).name.toList) && (S k).name.toList == l)

theorem evTo_le (S : Nat → Sk) : ∀ k, (evTo S k).length ≤ k
  | 0 => Nat.le_refl _
  | k + 1 => by
    have := evTo_le S k
    unfold evTo
    split
    · simp; omega
    · omega
theorem reTo_le (S : Nat → Sk) : ∀ k, (reTo S k).length ≤ k
  | 0 => Nat.le_refl _
  | k + 1 => by
    have := reTo_le S k
    unfold reTo
    split
    · omega
    · simp; omega
theorem cntTo_le (S : Nat → Sk) (l : List UInt8) : ∀ k : Nat, 0 ≤ cntTo S k l ∧ cntTo S k l ≤ k
  | 0 => ⟨Int.le_refl _, Int.le_refl _⟩
  | k + 1 => by
    have := cntTo_le S l k
    unfold cntTo
    split <;> omega
theorem gTo_succ {S : Nat → Sk} {k : Nat} (h : isGlobal (S k).vis = true) (l : List UInt8) : (if l = (S k).name.toList then true else gTo S k l) = gTo S (k + 1) l := by
  rw [show gTo S (k + 1) l = (gTo S k l || (isGlobal (S k).vis && (S k).name.toList == l)) from rfl, h]
  by_cases e : l = (S k).name.toList
  · subst e; simp
  · have e' : ((S k).name.toList == l) = false := beq_eq_false_iff_ne.2 (fun h => e h.symm)
    simp [e, e']
theorem gTo_skip {S : Nat → Sk} {k : Nat} (h : isGlobal (S k).vis = false) (l : List UInt8) : gTo S k l = gTo S (k + 1) l := by
  rw [show gTo S (k + 1) l = (gTo S k l || (isGlobal (S k).vis && (S k).name.toList == l)) from rfl, h]; simp
theorem gTo_seen {S : Nat → Sk} {k : Nat} (h : gTo S k (S k).name.toList = true) (l : List UInt8) : gTo S k l = gTo S (k + 1) l := by
  rw [show gTo S (k + 1) l = (gTo S k l || (isGlobal (S k).vis && (S k).name.toList == l)) from rfl]
  by_cases e : l = (S k).name.toList
  · subst e; simp [h]
  · have e' : ((S k).name.toList == l) = false := beq_eq_false_iff_ne.2 (fun h => e h.symm)
    simp [e']
theorem conTo_succ {S : Nat → Sk} {n k : Nat} (h : 1 < cntTo S n (S k).name.toList) (l : List UInt8) : (if l = (S k).name.toList then true else conTo S n k l) = conTo S n (k + 1) l := by
  rw [show conTo S n (k + 1) l = (conTo S n k l || (decide (1 < cntTo S n (S k).name.toList) && (S k).name.toList == l)) from rfl, decide_eq_true h]
  by_cases e : l = (S k).name.toList
  · subst e; simp
  · have e' : ((S k).name.toList == l) = false := beq_eq_false_iff_ne.2 (fun h => e h.symm)
    simp [e, e']
theorem conTo_skip {S : Nat → Sk} {n k : Nat} (h : ¬ 1 < cntTo S n (S k).name.toList) (l : List UInt8) : conTo S n k l = conTo S n (k + 1) l := by
  rw [show conTo S n (k + 1) l = (conTo S n k l || (decide (1 < cntTo S n (S k).name.toList) && (S k).name.toList == l)) from rfl, decide_eq_false h]; simp

/-! ### the row of Skills -/
theorem info42' : (Try.prog.info? 42).map (fun i => (i.zero, i.size, i.bytes)) = some (some (.agg Try.zeroCells42), 77, 272) := by kernel_rfl

theorem make53 (n : Nat) (hn : n ≤ 1048576) (w : World) :
    (Instr.makeSlice 53 (.int .i64 (n : Int)) (.int .i64 (n : Int))).run Try.prog w = .ok (.slice (some ⟨w.heap.size, 0, none⟩) n n) (w.alloc (.cells (madeCells Try.zeroCells42 (n * 77)) 42)) := by
  obtain ⟨i, hi, hzz⟩ := Option.map_eq_some_iff.1 info42'
  simp only [Prod.mk.injEq] at hzz
  obtain ⟨hz, hs, hb⟩ := hzz
  have hr := run_make (P := Try.prog) w 53 42 i _ Try.underlying53 hi hz .i64 .i64 n n (by omega) (Int.le_refl _) (by rw [hb]; omega) (by omega)
  simp only [Int.toNat_natCast, hs, Value.cells] at hr
  exact hr

/-- The first k Skills of a row of n lie there: they are Rs. -/
def SkRow (w : World) (B n k : Nat) (Rs : Nat → Raw) : Prop := ∃ f, w.rowIs B 42 (n * 77) f ∧ ∀ t, t < k → ∀ j v, (Rs t).cells[j]? = some v → f (t * 77 + j) = v

theorem SkRow.made (w : World) (n : Nat) (Rs : Nat → Raw) : SkRow (w.alloc (.cells (madeCells Try.zeroCells42 (n * 77)) 42)) w.heap.size n 0 Rs := by
  refine ⟨fun i => (madeCells Try.zeroCells42 (n * 77)).getD i undef, ⟨_, Deep.blk_alloc_new _ _, size_madeCells _ _, fun i hi => ?_⟩, fun t h => by omega⟩
  rw [Array.getElem?_eq_getElem (by rw [size_madeCells]; exact hi)]
  simp [Array.getD, size_madeCells, hi]
theorem SkRow.block {w w' : World} {B n k : Nat} {Rs : Nat → Raw} (h : SkRow w B n k Rs) (e : w'.heap[B]? = w.heap[B]?) : SkRow w' B n k Rs := by
  obtain ⟨f, hr, hf⟩ := h
  exact ⟨f, hr.of_block e, hf⟩
theorem SkRow.lt {w : World} {B n k : Nat} {Rs : Nat → Raw} (h : SkRow w B n k Rs) : B < w.heap.size := by obtain ⟨f, hr, _⟩ := h; exact hr.lt
theorem SkRow.ext {w w' : World} {B n k : Nat} {Rs : Nat → Raw} (h : SkRow w B n k Rs) (e : Ext w w') : SkRow w' B n k Rs := h.block (Below.block e B h.lt)
theorem SkRow.range {w : World} {B n k : Nat} {Rs : Nat → Raw} (h : SkRow w B n k Rs) (hkn : k ≤ n) {t : Nat} (ht : t < k) : w.rangeAt B (t * 77) (Rs t).cells := by
  obtain ⟨f, hr, hf⟩ := h
  intro j v hv
  have hj : j < 77 := by
    have := (List.getElem?_eq_some_iff.1 hv).1
    rw [Raw.cells_length] at this; exact this
  rw [hr.cell (by omega), hf t ht j v hv]
theorem SkRow.there {w : World} {B n k : Nat} {Rs : Nat → Raw} (h : SkRow w B n k Rs) {t : Nat} (ht : t < n) : w.there B (t * 77) 77 := by
  obtain ⟨f, hr, hf⟩ := h
  intro j hj
  exact ⟨by rw [hr.cell (by omega)]; rfl, hr.frozen _⟩
theorem SkRow.cong {w : World} {B n k : Nat} {Rs Rs' : Nat → Raw} (h : SkRow w B n k Rs) (e : ∀ t, t < k → Rs t = Rs' t) : SkRow w B n k Rs' := by
  obtain ⟨f, hr, hf⟩ := h
  exact ⟨f, hr, fun t ht j v hv => hf t ht j v (by rw [e t ht]; exact hv)⟩

/-- One Skill more. -/
def upd (Rs : Nat → Raw) (k : Nat) (r : Raw) : Nat → Raw := fun t => if t = k then r else Rs t
theorem SkRow.store {w : World} {B n k : Nat} {Rs : Nat → Raw} (h : SkRow w B n k Rs) (r : Raw) : SkRow (w.setCells B (k * 77) r.cells) B n (k + 1) (upd Rs k r) := by
  obtain ⟨f, hr, hf⟩ := h
  refine ⟨_, rowIs_setCells r.cells (k * 77) w f hr, fun t ht j v hv => ?_⟩
  have hj : j < 77 := by
    have := (List.getElem?_eq_some_iff.1 hv).1
    rw [Raw.cells_length] at this; exact this
  by_cases e : t = k
  · subst e
    simp only [upd, if_true] at hv
    have hL := r.cells_length
    rw [if_pos ⟨by omega, by omega⟩, Nat.add_sub_cancel_left, hv]
    rfl
  · simp only [upd, if_neg e] at hv
    have hL := r.cells_length
    rw [if_neg (by omega)]
    exact hf t (by omega) j v hv

theorem store42_mid {ops : Array Oper} {rest : List Oper} {op : Oper} {a : Act} {w : World} {Q : Exit → Act → World → Prop} {x y : Operand} {b o : Nat} (r : Raw) (hgd : op.guard = none) (ho : op.op = .store 42 x y)
    (hx : a.eval x = .pointer (some ⟨b, o, none⟩)) (hy : a.eval y = r.val) (ht : w.there b o 77) (h : wpList Try.prog ops Q rest (a.put op.dst undef) (w.setCells b o r.cells)) : wpList Try.prog ops Q (op :: rest) a w :=
  wpList_store_mid hgd 42 x y ho b o r.arr hx hy ht info42 r.oneCell h

end Go.Proofs.Qxb6613557a
