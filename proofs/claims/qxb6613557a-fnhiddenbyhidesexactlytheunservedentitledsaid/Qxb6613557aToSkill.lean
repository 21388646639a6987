/-
  zzCopyString, zzToSkill: a SkillIn copied into a Skill. Own text.
-/
import Derived.Test.Qxb6613557aBase
namespace Go.Proofs.Qxb6613557a
open Go.RowKit
set_option linter.unusedVariables false

/-- A pointer to a text in a block of its own, or nil. -/
def PNew (w : World) (p : Option Addr) (x : Option ByteArray) : Prop :=
  (p = none ∧ x = none) ∨ ∃ b s, p = some ⟨b, 0, none⟩ ∧ x = some s ∧ w.heap[b]? = some (.cells #[.string s] 9 (0, 0))
theorem PNew.pstr {w : World} {p : Option Addr} {x : Option ByteArray} (h : PNew w p x) : PStr w p x := by
  rcases h with h | ⟨b, s, h1, h2, h3⟩
  · exact .inl h
  · exact .inr ⟨b, 0, s, h1, h2, by rw [cell_of_row _ _ _ _ _ _ h3]; rfl⟩
theorem PNew.ext {w w' : World} {p : Option Addr} {x : Option ByteArray} (h : PNew w p x) (e : Ext w w') : PNew w' p x := by
  rcases h with h | ⟨b, s, h1, h2, h3⟩
  · exact .inl h
  · exact .inr ⟨b, s, h1, h2, e.blk h3⟩
/-- .. stays while a Skill's block is written. -/
theorem PNew.other {w w' : World} {p : Option Addr} {x : Option ByteArray} {M : Nat} {c : Array Value} (h : PNew w p x) (hM : w.heap[M]? = some (.cells c 42 (0, 0))) (ho : ∀ k, k ≠ M → w'.heap[k]? = w.heap[k]?) : PNew w' p x := by
  rcases h with h | ⟨b, s, h1, h2, h3⟩
  · exact .inl h
  · refine .inr ⟨b, s, h1, h2, ?_⟩
    rw [ho b (fun e => by subst e; rw [h3] at hM; simp at hM)]
    exact h3

/-- The texts of a slice in a row of its own, or nil. -/
def TNew (w : World) (a : Option Addr) (n : Nat) (x : Option (List ByteArray)) : Prop :=
  (a = none ∧ n = 0 ∧ x = none) ∨ ∃ b l, a = some ⟨b, 0, none⟩ ∧ x = some l ∧ n = l.length ∧ w.rowIs b 9 n (fun j => .string (l.getD j ⟨#[]⟩))
/-- A Skill whose addresses lead into rows of texts of their own. -/
structure RdN (w : World) (r : Raw) : Prop where
  sid : PNew w r.sid r.s.sid
  own : PNew w r.own r.s.own
  tm : TNew w r.tm r.tl r.s.teams
theorem RdN.rd {w : World} {r : Raw} (h : RdN w r) : Rd w r := ⟨h.sid.pstr, h.own.pstr, by
  rcases h.tm with h | ⟨b, l, h1, h2, h3, h4⟩
  · exact .inl h
  · exact .inr ⟨_, l, h1, h2, h3, fun _ => ⟨b, 0, h1, fun j hj => by rw [Nat.zero_add]; exact h4.cell hj⟩⟩⟩
/-- .. stays while rows of texts stay. -/
theorem RdN.keep {w w' : World} {r : Raw} (h : RdN w r) (k : ∀ (b : Nat) (c : Array Value), w.heap[b]? = some (Obj.cells c 9 (0, 0)) → w'.heap[b]? = w.heap[b]?) : RdN w' r := by
  refine ⟨?_, ?_, ?_⟩
  · rcases h.sid with h | ⟨b, s, h1, h2, h3⟩
    · exact .inl h
    · exact .inr ⟨b, s, h1, h2, (k b _ h3).trans h3⟩
  · rcases h.own with h | ⟨b, s, h1, h2, h3⟩
    · exact .inl h
    · exact .inr ⟨b, s, h1, h2, (k b _ h3).trans h3⟩
  · rcases h.tm with h | ⟨b, l, h1, h2, h3, h4⟩
    · exact .inl h
    · refine .inr ⟨b, l, h1, h2, h3, ?_⟩
      obtain ⟨c, hc, hr⟩ := h4
      exact ⟨c, (k b c hc).trans hc, hr⟩
theorem RdN.ext {w w' : World} {r : Raw} (h : RdN w r) (e : Ext w w') : RdN w' r := h.keep (fun b c hb => Below.block e b (Array.getElem?_eq_some_iff.1 hb).1)

theorem copyString (p : Option Addr) (x : Option ByteArray) (w : World) (h : PStr w p x) :
    Calls Try.prog 35 #[.pointer p] w fun e w' => ∃ p', e = .returned (.pointer p') ∧ PNew w' p' x ∧ Ext w w' := by
  rcases h with ⟨rfl, rfl⟩ | ⟨b, o, s, rfl, rfl, hc⟩
  · go_enter Try.func35, Try.ntmps35
    go_wp2
    go_ret
    exact ⟨none, rfl, .inl ⟨rfl, rfl⟩, Ext.refl _⟩
  · go_enter Try.func35, Try.ntmps35
    go_wp2
    go_ret
    exact ⟨_, rfl, .inr ⟨w.heap.size, s, rfl, rfl, heap_alloc_last _ _⟩, (Ext.refl _).alloc _⟩

/-- The composite literal, as the walk leaves it. -/
theorem chain42 (a b c d : ByteArray) : (((Try.zeroCells42.setIfInBounds 0 (.string a)).setIfInBounds 1 (.string b)).setIfInBounds 3 (.string c)).setIfInBounds 5 (.string d) = (Raw.arr ⟨⟨a, b, c, d, none, none, none⟩, none, none, none, 0, 0⟩) := by kernel_rfl
theorem zero42 : Try.zeroCells42 = (Raw.arr ⟨⟨⟨#[]⟩, ⟨#[]⟩, ⟨#[]⟩, ⟨#[]⟩, none, none, none⟩, none, none, none, 0, 0⟩) := by kernel_rfl

theorem zero42_size : Try.zeroCells42.size = 77 := by rw [zero42]; rfl

theorem heap_alloc3 (w : World) (A B C : Obj) : (((w.alloc A).alloc B).alloc C).heap[w.heap.size]? = some A ∧ (((w.alloc A).alloc B).alloc C).heap[w.heap.size + 1]? = some B ∧ (((w.alloc A).alloc B).alloc C).heap[w.heap.size + 2]? = some C := by
  have e1 : (w.alloc A).heap.size = w.heap.size + 1 := by simp
  have e2 : ((w.alloc A).alloc B).heap.size = w.heap.size + 2 := by simp
  refine ⟨?_, ?_, ?_⟩
  · rw [Below.heap_alloc _ _ _ (by omega), Below.heap_alloc _ _ _ (by omega)]; exact heap_alloc_last _ _
  · rw [Below.heap_alloc _ _ _ (by omega), ← e1]; exact heap_alloc_last _ _
  · rw [← e2]; exact heap_alloc_last _ _

/-- zzToSkill's own memory: t boxed in block N, the result's place in Q, the Skill in the making in M. -/
structure Mk (w wc : World) (N Q M : Nat) (r r2 : Raw) : Prop where
  t : wc.heap[N]? = some (.cells #[.string r.s.id, .string r.s.name, .string r.s.src, .pointer r.sid, .string r.s.vis, .slice r.tm r.tl r.tc, .pointer r.own] 26 (0, 0))
  res : wc.heap[Q]? = some (.cells Try.zeroCells42 42 (0, 0))
  s : wc.heap[M]? = some (.cells r2.arr 42 (0, 0))
  ext : Ext w wc
  lN : w.heap.size ≤ N
  lQ : N < Q
  lM : Q < M

theorem Mk.call {w wc w' : World} {N Q M : Nat} {r r2 : Raw} (h : Mk w wc N Q M r r2) (e : Ext wc w') : Mk w w' N Q M r r2 := ⟨e.blk h.t, e.blk h.res, e.blk h.s, h.ext.trans e, h.lN, h.lQ, h.lM⟩
theorem Mk.cell {w wc : World} {N Q M : Nat} {r r2 : Raw} (h : Mk w wc N Q M r r2) : wc.cell? ⟨N, 3, none⟩ = some (.pointer r.sid) ∧ wc.cell? ⟨N, 5, none⟩ = some (.slice r.tm r.tl r.tc) ∧ wc.cell? ⟨N, 6, none⟩ = some (.pointer r.own) :=
  ⟨by rw [cell_of_row _ _ _ _ _ _ h.t]; rfl, by rw [cell_of_row _ _ _ _ _ _ h.t]; rfl, by rw [cell_of_row _ _ _ _ _ _ h.t]; rfl⟩
theorem Mk.place {w wc : World} {N Q M : Nat} {r r2 : Raw} (h : Mk w wc N Q M r r2) : wc.cell? ⟨M, 4, none⟩ = some (.pointer r2.sid) ∧ wc.cell? ⟨M, 6, none⟩ = some (.slice r2.tm r2.tl r2.tc) ∧ wc.cell? ⟨M, 7, none⟩ = some (.pointer r2.own) ∧
    wc.frozen? ⟨M, 4, none⟩ = false ∧ wc.frozen? ⟨M, 6, none⟩ = false ∧ wc.frozen? ⟨M, 7, none⟩ = false :=
  ⟨by rw [cell_of_row _ _ _ _ _ _ h.s]; rfl, by rw [cell_of_row _ _ _ _ _ _ h.s]; rfl, by rw [cell_of_row _ _ _ _ _ _ h.s]; rfl, frozen_of_row _ _ _ _ _ h.s, frozen_of_row _ _ _ _ _ h.s, frozen_of_row _ _ _ _ _ h.s⟩
theorem Mk.store {w wc : World} {N Q M : Nat} {r r2 r3 : Raw} (h : Mk w wc N Q M r r2) (i : Nat) (v : Value) (hv : r2.arr.setIfInBounds i v = r3.arr) : Mk w (wc.setCell ⟨M, i, none⟩ v) N Q M r r3 := by
  have l1 := h.lN
  have l2 := h.lQ
  have l3 := h.lM
  refine ⟨?_, ?_, ?_, Below.setCell h.ext (by show w.heap.size ≤ M; omega) _, l1, l2, l3⟩
  · rw [Below.heap_setCell _ _ _ _ (by show N ≠ M; omega)]; exact h.t
  · rw [Below.heap_setCell _ _ _ _ (by show Q ≠ M; omega)]; exact h.res
  · rw [← hv]; exact heap_setCell_same wc M i r2.arr 42 v h.s
theorem other_of_store {wc : World} {M i : Nat} {v : Value} : ∀ k, k ≠ M → (wc.setCell ⟨M, i, none⟩ v).heap[k]? = wc.heap[k]? := fun k hk => Below.heap_setCell _ _ _ _ hk

theorem Try.info9 : (Try.prog.info? 9).map (fun i => (i.zero, i.size, i.bytes)) = some (some (.string ⟨#[]⟩), 1, 16) := by kernel_rfl

set_option maxHeartbeats 2000000 in
theorem toSkill (r : Raw) (w : World) (hr : Rd w r) (hs : r.tl ≤ 1048576) :
    Calls Try.prog 14 #[r.valIn] w fun e w' => ∃ r' : Raw, e = .returned r'.val ∧ r'.s = r.s ∧ RdN w' r' ∧ r'.tl = r.tl ∧ Ext w w' := by
  have hch := chain42
  unfold Raw.valIn
  go_enter Try.func14, Try.ntmps14
  go_wp2_with ((with_reducible apply store42_blk ⟨⟨r.s.id, r.s.name, r.s.src, r.s.vis, none, none, none⟩, none, none, none, 0, 0⟩); exact rfl; exact rfl; exact rfl; exact rfl; exact (heap_alloc3 _ _ _ _).2.2; exact zero42_size; intro w3 h3 ho3 hs3 hb3; change Hid _)
  unfold Hid
  clear hch
  have M3 : Mk w w3 w.heap.size (w.heap.size + 1) (w.heap.size + 1 + 1) r ⟨⟨r.s.id, r.s.name, r.s.src, r.s.vis, none, none, none⟩, none, none, none, 0, 0⟩ :=
    ⟨(ho3 _ (by omega)).trans (heap_alloc3 _ _ _ _).1, (ho3 _ (by omega)).trans (heap_alloc3 _ _ _ _).2.1, h3, Below.trans ((((Ext.refl w).alloc _).alloc _).alloc _) (hb3 _ (by omega)), by omega, by omega, by omega⟩
  clear h3 ho3 hs3 hb3
  generalize w.heap.size + 1 + 1 = M at *
  generalize w.heap.size + 1 = Q at *
  generalize w.heap.size = N at *
  obtain ⟨c3, c5, c6⟩ := M3.cell
  go_wp2_with fail
  refine (copyString r.sid r.s.sid _ (hr.sid.ext M3.ext)).mono ?_
  rintro e w4 ⟨p4, rfl, hp4, hx4⟩
  have M4 := M3.call hx4
  clear c3 c5 c6 M3 hx4
  obtain ⟨q4, q6, q7, f4, f6, f7⟩ := M4.place
  have M5 := M4.store 4 (.pointer p4) (Raw.set4 _ _)
  have hp5 := hp4.other M4.s (other_of_store (i := 4) (v := .pointer p4))
  clear hp4 M4
  obtain ⟨c3, c5, c6⟩ := M5.cell
  go_wp2_with fail
  generalize w4.setCell ⟨M, 4, none⟩ (.pointer p4) = w5 at *
  clear q4 q6 q7 f4 f6 f7 c3 c5 c6
  refine (copyString r.own r.s.own _ (hr.own.ext M5.ext)).mono ?_
  rintro e w6 ⟨p6, rfl, hp6, hx6⟩
  have M6 := M5.call hx6
  have hp6' := hp5.ext hx6
  clear M5 hx6 hp5
  obtain ⟨q4, q6, q7, f4, f6, f7⟩ := M6.place
  have M7 := M6.store 7 (.pointer p6) (Raw.set7 _ _)
  have hp7 := hp6.other M6.s (other_of_store (i := 7) (v := .pointer p6))
  have hp7' := hp6'.other M6.s (other_of_store (i := 7) (v := .pointer p6))
  clear hp6 hp6' M6
  obtain ⟨c3, c5, c6⟩ := M7.cell
  generalize hW7 : w6.setCell ⟨M, 7, none⟩ (.pointer p6) = w7 at *
  rcases hr.tm with ⟨htm, htl, hte⟩ | ⟨ad, l, htm, hte, hss⟩
  · have hnil : ∀ w n c n' c', (binOp .neq 23 (.slice r.tm n c) (.slice none n' c')).run Try.prog w = .ok (.bool false) w := fun w n c n' c' => by
      rw [htm]; exact run_neq_slice_nil_any (P := Try.prog) w 23 9 none n c n' c' Try.underlying23
    have HT : Hid (r.s.teams = none ∧ r.tl = 0) := ⟨hte, htl⟩
    clear htm htl hte
    go_wp2_with (first | ((with_reducible apply load42_blk ⟨r.s, p4, p6, none, 0, 0⟩); exact rfl; exact rfl; exact rfl; exact M7.s) | ((with_reducible apply store42_blk ⟨r.s, p4, p6, none, 0, 0⟩); exact rfl; exact rfl; exact rfl; exact rfl; exact M7.res; exact zero42_size; intro w8 h8 ho8 hs8 hb8))
    have l1 := M7.lN
    have l2 := M7.lQ
    refine bodyPost_ret (v := Raw.val ⟨r.s, p4, p6, none, 0, 0⟩) (results_cell_row Try.results14 _ _ Q 42 _ (0, 0) _ rfl h8 Try.underlying42 rfl info42) rfl ⟨_, rfl, rfl, ⟨hp7'.other M7.res ho8, hp7.other M7.res ho8, .inl ⟨rfl, rfl, HT.out.1⟩⟩, HT.out.2.symm, ?_⟩
    exact Below.trans M7.ext (hb8 _ (by omega))
  · have hnil : ∀ w n c n' c', (binOp .neq 23 (.slice r.tm n c) (.slice none n' c')).run Try.prog w = .ok (.bool true) w := fun w n c n' c' => by
      rw [htm]; exact run_neq_slice_nil_any (P := Try.prog) w 23 9 (some ad) n c n' c' Try.underlying23
    have hmk := run_make_row' (P := Try.prog) 23 9 (.string ⟨#[]⟩) 16 Try.underlying23 Try.info9 rfl .i64 .i64 r.tl (by omega) (by omega)
    have HT : Hid (r.s.teams = some l ∧ r.tl = l.length) := ⟨hte, hss.1⟩
    clear htm hte
    go_wp2
    clear hnil hmk q4 q6 q7 f4 f6 f7 hW7
    go_loopw [5] (fun i wr => ∃ k : Nat, k ≤ r.tl ∧ i = .int .i64 k ∧ wr.rowIs w7.heap.size 9 r.tl (fun j => if j < k then .string (l.getD j ⟨#[]⟩) else .string ⟨#[]⟩) ∧ Ext w7 wr) (fun i _ => r.tl - (intOf i).toNat)
    case atStart => exact ⟨0, Nat.zero_le _, rfl, (World.rowIs_made w7 _ r.tl 9).congr (fun j _ => by simp), (Ext.refl _).alloc _⟩
    case round =>
      obtain ⟨k, hk, rfl, hrow, hx⟩ := hrel
      have d5 := hx.cellSome c5
      by_cases hlt : k < r.tl
      · obtain ⟨b, o, hab, hcell⟩ := (hss.ext (M7.ext.trans hx)).2 (by omega)
        have g := hcell k hlt
        rw [hab] at d5
        have z := hrow.cell hlt
        have y := hrow.frozen k
        have hlt' : (k : Int) < (r.tl : Int) := by omega
        have R := (hrow.set k (.string (l.getD k ⟨#[]⟩))).congr (g := fun j => if j < k + 1 then .string (l.getD j ⟨#[]⟩) else .string ⟨#[]⟩) (fun j _ => by
          by_cases e : j = k
          · subst e; simp
          · by_cases h : j < k
            · rw [if_neg e, if_pos h, if_pos (by omega)]
            · rw [if_neg e, if_neg h, if_neg (by omega)])
        have hx' := Below.setCell hx (p := ⟨w7.heap.size, k, none⟩) (Nat.le_refl _) (.string (l.getD k ⟨#[]⟩))
        clear hrow hx hcell hab
        obtain ⟨tx, htx⟩ : ∃ tx, tx = l.getD k ⟨#[]⟩ := ⟨_, rfl⟩
        rw [← htx] at g R hx'
        clear htx
        go_wp2
        go_roundw
        case rel => exact ⟨k + 1, by omega, by go_num, R, hx'⟩
        case measure => simp [intOf]; omega
      · obtain rfl : k = r.tl := by omega
        have M8 := M7.call hx
        have hp8 := hp7.ext hx
        have hp8' := hp7'.ext hx
        have hrow' := hrow.congr (g := fun j => .string (l.getD j ⟨#[]⟩)) (fun j hj => by rw [if_pos hj])
        obtain ⟨q4, q6, q7, f4, f6, f7⟩ := M8.place
        have M9 := M8.store 6 (.slice (some ⟨w7.heap.size, 0, none⟩) r.tl r.tl) (Raw.set6 _ _ _ _)
        have hp9 := hp8.other M8.s (other_of_store (i := 6) (v := .slice (some ⟨w7.heap.size, 0, none⟩) r.tl r.tl))
        have hp9' := hp8'.other M8.s (other_of_store (i := 6) (v := .slice (some ⟨w7.heap.size, 0, none⟩) r.tl r.tl))
        have hlt7 : M < w7.heap.size := (Array.getElem?_eq_some_iff.1 M7.s).1
        have hrow9 := hrow'.setOther (a := ⟨M, 6, none⟩) (by show w7.heap.size ≠ M; omega) (.slice (some ⟨w7.heap.size, 0, none⟩) r.tl r.tl)
        clear hrow hrow' hx M8 hp8 hp8' d5
        go_wp2_with (first | ((with_reducible apply load42_blk ⟨r.s, p4, p6, some ⟨w7.heap.size, 0, none⟩, r.tl, r.tl⟩); exact rfl; exact rfl; exact rfl; exact M9.s) | ((with_reducible apply store42_blk ⟨r.s, p4, p6, some ⟨w7.heap.size, 0, none⟩, r.tl, r.tl⟩); exact rfl; exact rfl; exact rfl; exact rfl; exact M9.res; exact zero42_size; intro w8 h8 ho8 hs8 hb8))
        have l1 := M9.lN
        have l2 := M9.lQ
        have l3 := M9.lM
        have hrow10 := hrow9.of_block (ho8 _ (by omega))
        refine bodyPost_ret (v := Raw.val ⟨r.s, p4, p6, some ⟨w7.heap.size, 0, none⟩, r.tl, r.tl⟩) (results_cell_row Try.results14 _ _ Q 42 _ (0, 0) _ rfl h8 Try.underlying42 rfl info42) rfl
          ⟨_, rfl, rfl, ⟨hp9'.other M9.res ho8, hp9.other M9.res ho8, .inr ⟨_, l, rfl, HT.out.1, HT.out.2, hrow10⟩⟩, rfl, ?_⟩
        exact Below.trans M9.ext (hb8 _ (by omega))
end Go.Proofs.Qxb6613557a
