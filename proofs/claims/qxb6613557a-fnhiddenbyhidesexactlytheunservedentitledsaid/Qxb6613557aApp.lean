/-
  append of one Skill, of one place. Own text.
-/
import Derived.Test.Qxb6613557aBuild1
namespace Go.Proofs.Qxb6613557a
open Go.RowKit
set_option linter.unusedVariables false

theorem buildSlice53 (r : Raw) (w : World) : (Instr.buildSlice 53 1 #[(0, r.val)]).run Try.prog w = .ok (.slice (some ⟨w.heap.size, 0, none⟩) 1 1) (w.alloc (.cells r.arr 42)) := by kernel_rfl

theorem info3' : (Try.prog.info? 3).map (fun i => (i.zero, i.size, i.bytes)) = some (some (.int .i64 0), 1, 8) := by kernel_rfl

theorem wp_build53 {ops : Array Oper} {rest : List Oper} {op : Oper} {a : Act} {w : World} {Q : Exit → Act → World → Prop} {x : Operand} (r : Raw) (hgd : op.guard = none) (ho : op.op = Op.buildSlice 53 1 #[(0, x)]) (hx : a.eval x = r.val)
    (h : wpList Try.prog ops Q rest (a.put op.dst (.slice (some ⟨w.heap.size, 0, none⟩) 1 1)) (w.alloc (.cells r.arr 42))) : wpList Try.prog ops Q (op :: rest) a w := by
  refine wpList_plain hgd fun K hK => ?_
  have hr := buildSlice53 r w
  unfold Oper.wp
  simp only [execOp, ho, List.map_toArray, List.map_cons, List.map_nil, hx]
  simp only [Sem.run_bind, hr, Result.andThen]
  exact hK _ _ h

theorem wp_appE {ops : Array Oper} {rest : List Oper} {op : Oper} {a : Act} {w : World} {Q : Exit → Act → World → Prop} {s x : Operand} {r : Raw} {B n : Nat} {ev : Value} {xs : List Value} (hown : w.ownsRow B 42 77 ev n xs) (hB : B ≤ w.heap.size) (hn : n ≤ 1048576)
    (hgd : op.guard = none) (ho : op.op = .call { callee := .builtin .append, args := #[s, x], argTypes := #[53, 53] }) (hs : a.eval s = ev) (hx : a.eval x = .slice (some ⟨w.heap.size, 0, none⟩) 1 1)
    (h : ∀ v' w', w'.ownsRow B 42 77 v' (n + 1) (xs ++ r.cells) → (w.alloc (.cells r.arr 42)).grownBy w' ev.ownBlock → wpList Try.prog ops Q rest (a.put op.dst v') w') : wpList Try.prog ops Q (op :: rest) a (w.alloc (.cells r.arr 42)) := by
  obtain ⟨i, hi, hz0, hz1, hz2⟩ := info_parts info42'
  refine wpList_append_own (P := Try.prog) _ hgd s x 53 ho B 42 i (.agg Try.zeroCells42) 77 272 Try.underlying53 hi hz0 hz1 hz2 zero42_size (by decide) ev n xs hs (hown.alloc _) ⟨w.heap.size, 0, none⟩ 1 1 r.cells hx rfl ?_ ?_ (by unfold maxLen; omega) (by omega) (by simp; omega) (fun v' w' h1 h2 _ => h v' w' h1 h2)
  · intro j u hu
    have := range_of_blk (heap_alloc_last w (.cells r.arr 42)) j u hu
    rw [Addr.add_mid]
    exact this
  · intro u hu
    have := (Array.all_eq_true_iff_forall_mem.1 r.oneCell) u (by simpa [Raw.arr] using hu)
    exact this

theorem wp_appR {ops : Array Oper} {rest : List Oper} {op : Oper} {a : Act} {w : World} {Q : Exit → Act → World → Prop} {s x : Operand} {z : Int} {B n : Nat} {rv : Value} {xs : List Value} (hown : w.ownsRow B 3 1 rv n xs) (hB : B ≤ w.heap.size) (hn : n ≤ 1048576)
    (hgd : op.guard = none) (ho : op.op = .call { callee := .builtin .append, args := #[s, x], argTypes := #[65, 65] }) (hs : a.eval s = rv) (hx : a.eval x = .slice (some ⟨w.heap.size, 0, none⟩) 1 1)
    (h : ∀ v' w', w'.ownsRow B 3 1 v' (n + 1) (xs ++ [.int .i64 z]) → (w.alloc (.cells #[.int .i64 z] 3)).grownBy w' rv.ownBlock → wpList Try.prog ops Q rest (a.put op.dst v') w') : wpList Try.prog ops Q (op :: rest) a (w.alloc (.cells #[.int .i64 z] 3)) := by
  obtain ⟨i, hi, hz0, hz1, hz2⟩ := info_parts info3'
  refine wpList_append_own (P := Try.prog) _ hgd s x 65 ho B 3 i (.int .i64 0) 1 8 Try.underlying65 hi hz0 hz1 hz2 rfl (by decide) rv n xs hs (hown.alloc _) ⟨w.heap.size, 0, none⟩ 1 1 [.int .i64 z] hx rfl (cell_one_new _ _ _) (ints_oneCell .i64 [z]) (by unfold maxLen; omega) (by omega) (by simp; omega) (fun v' w' h1 h2 _ => h v' w' h1 h2)
end Go.Proofs.Qxb6613557a
