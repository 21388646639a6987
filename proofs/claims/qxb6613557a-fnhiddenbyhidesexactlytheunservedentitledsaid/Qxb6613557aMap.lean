/-
  The maps of the catalog laws (map[string]bool, map[string]int) that the calls make: what a look-up finds, what a store leaves, as functions of the text. Own text.
-/
import Derived.Test.Qxb6613557aBase
import Derived.Maps.OwnOps
import Derived.Maps.OwnSet
import Derived.Maps.Views
namespace Go.Proofs.Qxb6613557a
open Go.RowKit Go.Maps
set_option linter.unusedVariables false

theorem law9 : Keyed Try.prog 9 := string_keyed Try.underlying9
theorem zero4 (w : World) : (zeroValue 4).run Try.prog w = .ok (.bool false) w := by kernel_rfl
theorem zero3 (w : World) : (zeroValue 3).run Try.prog w = .ok (.int .i64 0) w := by kernel_rfl
theorem key9 {s : ByteArray} (h : s.size ≤ 2147483648) : keyOf Try.prog 9 (.string s) = some (.string s.toList) := by
  rw [ByteArray.toList_eq]
  exact WideMaps.keyOf_string_mk Try.underlying9 (by unfold maxLen; omega)
theorem plainElem_bool_inv {v : Value} {z : DataW Unit × List MemPlace} (h : plainElem Try.prog 4 v = some z) : ∃ x, v = .bool x ∧ z = (.lit (.bool x), []) := by
  unfold plainElem at h
  split at h
  · cases h; exact ⟨_, rfl, rfl⟩
  · rename_i q he; rw [Try.underlying4] at he; cases he
  · rename_i he; rw [Try.underlying4] at he; cases he
  · cases h

theorem isKey {l : List UInt8} : WideAt.IsKeyLit (.string l) := trivial

/-- A set of texts: block b is a map[string]bool of at most n entries; at the text l it says 'f l'. -/
def MB (w : World) (b n : Nat) (f : List UInt8 → Bool) : Prop :=
  ∃ D : DataW Unit, w.ownsMap Try.prog 9 (plainElem Try.prog 4) b n D ∧ ∀ l, D.atKey (.string l) (.lit (.bool false)) = .lit (.bool (f l))
/-- A map[string]int of counts. -/
def MI (w : World) (b n : Nat) (f : List UInt8 → Int) : Prop :=
  ∃ D : DataW Unit, w.ownsMap Try.prog 9 (plainElem Try.prog 3) b n D ∧ ∀ l, D.atKey (.string l) (.lit (.int .i64 0)) = .lit (.int .i64 (f l))
/-- A map[string]int that gives each text of K its place in K. -/
def MO (w : World) (b n : Nat) (K : List (List UInt8)) : Prop :=
  ∃ D : DataW Unit, w.ownsMap Try.prog 9 (plainElem Try.prog 3) b n D ∧ (∀ l, Maps.has D (.string l) = K.contains l) ∧ (∀ l, l ∈ K → D.atKey (.string l) (.lit (.int .i64 0)) = .lit (.int .i64 (K.idxOf l))) ∧ Maps.size D = K.length

theorem MB.block {w w' : World} {b n : Nat} {f : List UInt8 → Bool} (h : MB w b n f) (e : w'.heap[b]? = w.heap[b]?) : MB w' b n f := by
  obtain ⟨D, ⟨es, c, hb, r⟩, hf⟩ := h
  exact ⟨D, ⟨es, c, e.trans hb, r⟩, hf⟩
theorem MB.lt {w : World} {b n : Nat} {f : List UInt8 → Bool} (h : MB w b n f) : b < w.heap.size := by obtain ⟨D, ho, _⟩ := h; exact ho.lt
theorem MB.ext {w w' : World} {b n : Nat} {f : List UInt8 → Bool} (h : MB w b n f) (e : Ext w w') : MB w' b n f := h.block (Below.block e b h.lt)
theorem MI.block {w w' : World} {b n : Nat} {f : List UInt8 → Int} (h : MI w b n f) (e : w'.heap[b]? = w.heap[b]?) : MI w' b n f := by
  obtain ⟨D, ⟨es, c, hb, r⟩, hf⟩ := h
  exact ⟨D, ⟨es, c, e.trans hb, r⟩, hf⟩
theorem MI.lt {w : World} {b n : Nat} {f : List UInt8 → Int} (h : MI w b n f) : b < w.heap.size := by obtain ⟨D, ho, _⟩ := h; exact ho.lt
theorem MI.ext {w w' : World} {b n : Nat} {f : List UInt8 → Int} (h : MI w b n f) (e : Ext w w') : MI w' b n f := h.block (Below.block e b h.lt)
theorem MO.block {w w' : World} {b n : Nat} {K : List (List UInt8)} (h : MO w b n K) (e : w'.heap[b]? = w.heap[b]?) : MO w' b n K := by
  obtain ⟨D, ⟨es, c, hb, r⟩, hf⟩ := h
  exact ⟨D, ⟨es, c, e.trans hb, r⟩, hf⟩
theorem MO.lt {w : World} {b n : Nat} {K : List (List UInt8)} (h : MO w b n K) : b < w.heap.size := by obtain ⟨D, ho, _⟩ := h; exact ho.lt
theorem MO.ext {w w' : World} {b n : Nat} {K : List (List UInt8)} (h : MO w b n K) (e : Ext w w') : MO w' b n K := h.block (Below.block e b h.lt)
theorem MB.congr {w : World} {b n : Nat} {f g : List UInt8 → Bool} (h : MB w b n f) (e : ∀ l, f l = g l) : MB w b n g := by
  obtain ⟨D, ho, hf⟩ := h
  exact ⟨D, ho, fun l => by rw [hf l, e l]⟩
theorem MI.congr {w : World} {b n : Nat} {f g : List UInt8 → Int} (h : MI w b n f) (e : ∀ l, f l = g l) : MI w b n g := by
  obtain ⟨D, ho, hf⟩ := h
  exact ⟨D, ho, fun l => by rw [hf l, e l]⟩

theorem MB.made (w : World) : MB (w.alloc (.map #[] 0)) w.heap.size 0 (fun _ => false) := ⟨.map [], World.ownsMap_made w _ _ _, fun l => rfl⟩
theorem MI.made (w : World) : MI (w.alloc (.map #[] 0)) w.heap.size 0 (fun _ => 0) := ⟨.map [], World.ownsMap_made w _ _ _, fun l => rfl⟩
theorem MO.made (w : World) : MO (w.alloc (.map #[] 0)) w.heap.size 0 [] := ⟨.map [], World.ownsMap_made w _ _ _, fun l => rfl, fun l h => by simp at h, rfl⟩

/-! ### runs -/
theorem MB.look {w : World} {b n : Nat} {f : List UInt8 → Bool} (h : MB w b n f) {s : ByteArray} (hs : s.size ≤ 2147483648) :
    (Instr.lookup 55 (.map (some b)) (.string s) false).run Try.prog w = .ok (.bool (f s.toList)) w := by
  obtain ⟨D, ho, hf⟩ := h
  obtain ⟨v, ps, hrun, hv⟩ := ho.lookup law9 Try.underlying55 (zero4 w) (plainElem_bool Try.underlying4 false) (key9 hs)
  obtain ⟨x, rfl, hx⟩ := plainElem_bool_inv hv
  simp only [Prod.mk.injEq] at hx
  rw [hf] at hx
  simp only [DataW.lit.injEq, Lit.bool.injEq] at hx
  rw [hrun, hx.1]
theorem MB.put {w : World} {b n : Nat} {f : List UInt8 → Bool} (h : MB w b n f) (hn : n < 2147483648) {s : ByteArray} (hs : s.size ≤ 2147483648) (v : Bool) :
    ∃ w', (Instr.mapUpdate 55 (.map (some b)) (.string s) (.bool v)).run Try.prog w = .ok () w' ∧ MB w' b (n + 1) (fun l => if l = s.toList then v else f l) ∧ w.grownBy w' (some b) := by
  obtain ⟨D, ho, hf⟩ := h
  obtain ⟨w', hrun, ho', hg⟩ := ho.update law9 Try.underlying55 (by unfold maxLen; omega) (key9 hs) (plainElem_bool Try.underlying4 v)
  refine ⟨w', hrun, ⟨_, ho', fun l => ?_⟩, hg⟩
  simp only
  by_cases e : l = s.toList
  · subst e
    rw [atKey_put_same ho.isMap isKey, if_pos rfl]
  · rw [atKey_put_other (by simpa using e), hf l, if_neg e]
theorem MI.look {w : World} {b n : Nat} {f : List UInt8 → Int} (h : MI w b n f) {s : ByteArray} (hs : s.size ≤ 2147483648) :
    (Instr.lookup 66 (.map (some b)) (.string s) false).run Try.prog w = .ok (.int .i64 (f s.toList)) w := by
  obtain ⟨D, ho, hf⟩ := h
  obtain ⟨c, hrun, hat, _⟩ := ho.lookup_int law9 Try.underlying66 Try.underlying3 (zero3 w) (key9 hs)
  rw [hf] at hat
  simp only [DataW.lit.injEq, Lit.int.injEq, true_and] at hat
  rw [hrun, hat]
theorem MI.put {w : World} {b n : Nat} {f : List UInt8 → Int} (h : MI w b n f) (hn : n < 2147483648) {s : ByteArray} (hs : s.size ≤ 2147483648) (v : Int) (hv : (Lit.int .i64 v).wf = true) :
    ∃ w', (Instr.mapUpdate 66 (.map (some b)) (.string s) (.int .i64 v)).run Try.prog w = .ok () w' ∧ MI w' b (n + 1) (fun l => if l = s.toList then v else f l) ∧ w.grownBy w' (some b) := by
  obtain ⟨D, ho, hf⟩ := h
  obtain ⟨w', hrun, ho', hg⟩ := ho.update law9 Try.underlying66 (by unfold maxLen; omega) (key9 hs) (plainElem_int Try.underlying3 hv)
  refine ⟨w', hrun, ⟨_, ho', fun l => ?_⟩, hg⟩
  simp only
  by_cases e : l = s.toList
  · subst e
    rw [atKey_put_same ho.isMap isKey, if_pos rfl]
  · rw [atKey_put_other (by simpa using e), hf l, if_neg e]
/-- 'v, ok := m[k]'. -/
theorem MO.look {w : World} {b n : Nat} {K : List (List UInt8)} (h : MO w b n K) {s : ByteArray} (hs : s.size ≤ 2147483648) :
    ∃ c : Int, (Instr.lookup 66 (.map (some b)) (.string s) true).run Try.prog w = .ok (.tuple #[.int .i64 c, .bool (K.contains s.toList)]) w ∧ (s.toList ∈ K → c = K.idxOf s.toList) := by
  obtain ⟨D, ho, hh, ha, hz⟩ := h
  have h0 : (Lit.int .i64 0).wf = true := by decide
  obtain ⟨v, ps, hrun, hv⟩ := ho.look_ok law9 Try.underlying66 (zero3 w) (plainElem_int Try.underlying3 h0) (key9 hs)
  obtain ⟨c, rfl, hc, _⟩ := plainElem_int_inv Try.underlying3 hv
  rw [hh] at hrun
  refine ⟨c, hrun, fun hm => ?_⟩
  simp only [Prod.mk.injEq] at hc
  rw [ha _ hm] at hc
  simpa using hc.1.symm
theorem MO.size {w : World} {b n : Nat} {K : List (List UInt8)} (h : MO w b n K) (ty : TypeId) : (Builtin.len_ #[66] ty #[.map (some b)]).run Try.prog w = .ok (.int .i64 K.length) w := by
  obtain ⟨D, ho, hh, ha, hz⟩ := h
  rw [ho.len Try.underlying66 ty, hz]
theorem MO.put {w : World} {b n : Nat} {K : List (List UInt8)} (h : MO w b n K) (hn : n < 2147483648) {s : ByteArray} (hs : s.size ≤ 2147483648) (hnot : s.toList ∉ K) :
    ∃ w', (Instr.mapUpdate 66 (.map (some b)) (.string s) (.int .i64 K.length)).run Try.prog w = .ok () w' ∧ MO w' b (n + 1) (K ++ [s.toList]) ∧ w.grownBy w' (some b) := by
  obtain ⟨D, ho, hh, ha, hz⟩ := h
  have hle := ho.size_le
  obtain ⟨w', hrun, ho', hg⟩ := ho.update law9 Try.underlying66 (by unfold maxLen; omega) (key9 hs) (plainElem_int Try.underlying3 (WalkArith.wf_i64 (n := (K.length : Int)) (by omega)))
  refine ⟨w', hrun, ⟨_, ho', fun l => ?_, fun l hl => ?_, ?_⟩, hg⟩
  · by_cases e : l = s.toList
    · subst e
      rw [has_put_same ho.isMap isKey]
      simp
    · rw [has_put_other (by simpa using e), hh l]
      simp [e]
  · by_cases e : l = s.toList
    · subst e
      rw [atKey_put_same ho.isMap isKey, List.idxOf_append, if_neg hnot]
      simp
    · rw [atKey_put_other (by simpa using e)]
      have hm : l ∈ K := by simpa [e] using hl
      rw [ha l hm, List.idxOf_append, if_pos hm]
  · rw [size_put (ho.tidy law9), hh, hz]
    simp [hnot]

/-! ### at the operation -/
section
variable {w : World} {ops : Array Oper} {rest : List Oper} {op : Oper} {a : Act} {Q : Exit → Act → World → Prop} {m x v : Operand} {b n : Nat} {s : ByteArray}

theorem wp_lookB {f : List UInt8 → Bool} (hM : MB w b n f) (hs : s.size ≤ 2147483648) (hgd : op.guard = none) (ho : op.op = .lookup 55 m x false) (hm : a.eval m = .map (some b)) (hx : a.eval x = .string s)
    (h : wpList Try.prog ops Q rest (a.put op.dst (.bool (f s.toList))) w) : wpList Try.prog ops Q (op :: rest) a w := by
  refine wpList_plain hgd fun K' hK' => ?_
  unfold Oper.wp
  simp [execOp, ho, hm, hx, hM.look hs, Result.andThen]
  exact hK' _ _ h
theorem wp_putB {f : List UInt8 → Bool} {t : Bool} (hM : MB w b n f) (hn : n < 2147483648) (hs : s.size ≤ 2147483648) (hgd : op.guard = none) (ho : op.op = .mapUpdate 55 m x v) (hm : a.eval m = .map (some b)) (hx : a.eval x = .string s) (hv : a.eval v = .bool t)
    (h : ∀ w', MB w' b (n + 1) (fun l => if l = s.toList then t else f l) → w.grownBy w' (some b) → wpList Try.prog ops Q rest (a.put op.dst undef) w') : wpList Try.prog ops Q (op :: rest) a w := by
  refine wpList_plain hgd fun K' hK' => ?_
  obtain ⟨w', hrun, r1, r2⟩ := hM.put hn hs t
  unfold Oper.wp
  simp [execOp, ho, hm, hx, hv, hrun, Result.andThen]
  exact hK' _ _ (h w' r1 r2)
theorem wp_lookI {f : List UInt8 → Int} (hM : MI w b n f) (hs : s.size ≤ 2147483648) (hgd : op.guard = none) (ho : op.op = .lookup 66 m x false) (hm : a.eval m = .map (some b)) (hx : a.eval x = .string s)
    (h : wpList Try.prog ops Q rest (a.put op.dst (.int .i64 (f s.toList))) w) : wpList Try.prog ops Q (op :: rest) a w := by
  refine wpList_plain hgd fun K' hK' => ?_
  unfold Oper.wp
  simp [execOp, ho, hm, hx, hM.look hs, Result.andThen]
  exact hK' _ _ h
theorem wp_putI {f : List UInt8 → Int} {t : Int} (hM : MI w b n f) (hn : n < 2147483648) (hs : s.size ≤ 2147483648) (hgd : op.guard = none) (ho : op.op = .mapUpdate 66 m x v) (hm : a.eval m = .map (some b)) (hx : a.eval x = .string s) (hv : a.eval v = .int .i64 t) (hw : (Lit.int .i64 t).wf = true)
    (h : ∀ w', MI w' b (n + 1) (fun l => if l = s.toList then t else f l) → w.grownBy w' (some b) → wpList Try.prog ops Q rest (a.put op.dst undef) w') : wpList Try.prog ops Q (op :: rest) a w := by
  refine wpList_plain hgd fun K' hK' => ?_
  obtain ⟨w', hrun, r1, r2⟩ := hM.put hn hs t hw
  unfold Oper.wp
  simp [execOp, ho, hm, hx, hv, hrun, Result.andThen]
  exact hK' _ _ (h w' r1 r2)
theorem wp_lookO {K : List (List UInt8)} (hM : MO w b n K) (hs : s.size ≤ 2147483648) (hgd : op.guard = none) (ho : op.op = .lookup 66 m x true) (hm : a.eval m = .map (some b)) (hx : a.eval x = .string s)
    (h : ∀ c : Int, (s.toList ∈ K → c = K.idxOf s.toList) → wpList Try.prog ops Q rest (a.put op.dst (.tuple #[.int .i64 c, .bool (K.contains s.toList)])) w) : wpList Try.prog ops Q (op :: rest) a w := by
  refine wpList_plain hgd fun K' hK' => ?_
  obtain ⟨c, hrun, hc⟩ := hM.look hs
  have hh := h c hc
  generalize K.contains s.toList = cb at hrun hh
  unfold Oper.wp
  simp [execOp, ho, hm, hx, hrun, Result.andThen]
  exact hK' _ _ hh
theorem wp_lenO {K : List (List UInt8)} (hM : MO w b n K) (hgd : op.guard = none) (ho : op.op = Op.call { callee := Callee.builtin Builtin.len, args := #[m], argTypes := #[66] }) (hm : a.eval m = .map (some b))
    (h : wpList Try.prog ops Q rest (a.put op.dst (.int .i64 K.length)) w) : wpList Try.prog ops Q (op :: rest) a w := by
  refine wpList_plain hgd fun K' hK' => ?_
  unfold Oper.wp
  simp [execOp, ho, resolve, invoke, builtin, hm, hM.size op.type, Result.andThen]
  exact hK' _ _ h
theorem wp_putO {K : List (List UInt8)} (hM : MO w b n K) (hnot : s.toList ∉ K) (hn : n < 2147483648) (hs : s.size ≤ 2147483648) (hgd : op.guard = none) (ho : op.op = .mapUpdate 66 m x v) (hm : a.eval m = .map (some b)) (hx : a.eval x = .string s) (hv : a.eval v = .int .i64 K.length)
    (h : ∀ w', MO w' b (n + 1) (K ++ [s.toList]) → w.grownBy w' (some b) → wpList Try.prog ops Q rest (a.put op.dst undef) w') : wpList Try.prog ops Q (op :: rest) a w := by
  refine wpList_plain hgd fun K' hK' => ?_
  obtain ⟨w', hrun, r1, r2⟩ := hM.put hn hs hnot
  unfold Oper.wp
  simp [execOp, ho, hm, hx, hv, hrun, Result.andThen]
  exact hK' _ _ (h w' r1 r2)
end
end Go.Proofs.Qxb6613557a
