/-
  zzSamePtr, zzSameStrings, zzSameSkill, zzZeroSkill. Own text.
-/
import Derived.Test.Qxb6613557aHidden
import Derived.Lib.SliceRun
namespace Go.Proofs.Qxb6613557a
open Go.RowKit
set_option linter.unusedVariables false
set_option linter.unusedSimpArgs false

/-- The same text or both none. -/
def sameO (x y : Option ByteArray) : Bool := match x, y with
  | none, none => true
  | some x, some y => x.toList == y.toList
  | _, _ => false
theorem sameO_self (x : Option ByteArray) : sameO x x = true := by cases x <;> simp [sameO]

set_option maxHeartbeats 1000000 in
theorem samePtr38 (p q : Option Addr) (x y : Option ByteArray) (w : World) (hp : PStr w p x) (hq : PStr w q y) :
    Calls Try.prog 38 #[.pointer p, .pointer q] w fun e w' => e = .returned (.bool (sameO x y)) ∧ Ext w w' := by
  rcases hp with ⟨rfl, rfl⟩ | ⟨b1, o1, x, rfl, rfl, h1⟩
  · rcases hq with ⟨rfl, rfl⟩ | ⟨b2, o2, y, rfl, rfl, h2⟩
    · go_enter Try.func38, Try.ntmps38
      go_wp2
      go_ret
      exact ⟨rfl, Ext.refl _⟩
    · go_enter Try.func38, Try.ntmps38
      go_wp2
      go_ret
      exact ⟨rfl, Ext.refl _⟩
  · rcases hq with ⟨rfl, rfl⟩ | ⟨b2, o2, y, rfl, rfl, h2⟩
    · go_enter Try.func38, Try.ntmps38
      go_wp2
      go_ret
      exact ⟨rfl, Ext.refl _⟩
    · go_enter Try.func38, Try.ntmps38
      go_wp2
      go_quiet (fail)
      go_wp2
      go_ret
      exact ⟨rfl, (Ext.refl _).drewN _⟩

set_option maxHeartbeats 1000000 in
theorem sameStrings39 (p q : Option Addr) (n m c d : Nat) (x : Option (List ByteArray)) (w : World) (hn : n ≤ 1048576) (hp : TStr w p n x) (hq : TStr w q m x) :
    Calls Try.prog 39 #[.slice p n c, .slice q m d] w fun e w' => e = .returned (.bool true) ∧ Ext w w' := by
  rcases hp with ⟨rfl, rfl, rfl⟩ | ⟨ad, l, rfl, rfl, hs⟩
  · rcases hq with ⟨rfl, rfl, _⟩ | ⟨ad2, l2, rfl, h, _⟩
    · have hnil := fun w n c n' c' => Lib.run_eql_slice_nil (P := Try.prog) w 23 9 none n c n' c' Try.underlying23
      go_enter Try.func39, Try.ntmps39
      go_wp2
      go_loop [5] (fun i => i = .int .i64 0) (fun i => 0)
      case atStart => rfl
      case round =>
        obtain rfl := hrel
        go_wp2
        go_ret
        exact ⟨rfl, Ext.refl _⟩
    · cases h
  · rcases hq with ⟨_, _, h⟩ | ⟨ad2, l2, rfl, h, hs2⟩
    · cases h
    · injection h with h
      subst h
      obtain rfl : n = m := by rw [hs.1, hs2.1]
      have hnil := fun w n c n' c' => Lib.run_eql_slice_nil (P := Try.prog) w 23 9 (some ad) n c n' c' Try.underlying23
      have hnil2 := fun w n c n' c' => Lib.run_eql_slice_nil (P := Try.prog) w 23 9 (some ad2) n c n' c' Try.underlying23
      go_enter Try.func39, Try.ntmps39
      go_wp2
      clear hnil hnil2
      go_loopw [5] (fun i wr => ∃ k q : Nat, k ≤ n ∧ i = .int .i64 k ∧ wr = w.drewN q) (fun i _ => n - (intOf i).toNat)
      case atStart => exact ⟨0, 0, Nat.zero_le _, rfl, rfl⟩
      case round =>
        obtain ⟨k, q, hk, rfl, rfl⟩ := hrel
        by_cases hlt : k < n
        · obtain ⟨b1, o1, e1, hc1⟩ := hs.2 (by omega)
          obtain ⟨b2, o2, e2, hc2⟩ := hs2.2 (by omega)
          injection e1 with e1
          injection e2 with e2
          subst e1
          subst e2
          have g1 := hc1 k hlt
          have g2 := hc2 k hlt
          have hlt' : (k : Int) < (n : Int) := by omega
          generalize l.getD k ⟨#[]⟩ = y at g1 g2
          clear hs hs2 hc1 hc2
          go_wp2
          go_quiet (fail)
          go_wp2
          go_roundw
          case rel => exact ⟨k + 1, _, by omega, by go_num, rfl⟩
          case measure => simp [intOf]; omega
        · clear hs hs2
          go_wp2
          go_ret
          exact ⟨rfl, (Ext.refl _).drewN _⟩

theorem Raw.get2 (r : Raw) : r.arr[2]? = some (.string ⟨#[]⟩) := rfl
theorem Raw.get8 (r : Raw) : r.arr[8]? = some (.map none) := rfl
theorem Raw.get9 (r : Raw) : r.arr[9]? = some (.string ⟨#[]⟩) := rfl

theorem mapNil (w : World) : (binOp .eql 36 (.map none) (.map none)).run Try.prog w = .ok (.bool true) w := by kernel_rfl
set_option maxHeartbeats 1000000 in
set_option maxRecDepth 100000 in
theorem zeroSkill_gen (z : Array Value) (w : World) (k0 : z[0]? = some (.string ⟨#[]⟩)) (k1 : z[1]? = some (.string ⟨#[]⟩)) (k2 : z[2]? = some (.string ⟨#[]⟩)) (k3 : z[3]? = some (.string ⟨#[]⟩)) (k4 : z[4]? = some (.pointer none)) (k5 : z[5]? = some (.string ⟨#[]⟩))
    (k6 : z[6]? = some (.slice none 0 0)) (k7 : z[7]? = some (.pointer none)) (k8 : z[8]? = some (.map none)) (k9 : z[9]? = some (.string ⟨#[]⟩)) : Calls Try.prog 18 #[.agg z] w fun e w' => e = .returned (.bool true) ∧ Ext w w' := by
  have hnil := fun w n c n' c' => Lib.run_eql_slice_nil (P := Try.prog) w 23 9 none n c n' c' Try.underlying23
  have hmap := mapNil
  have hx := (Ext.refl w).alloc (.cells z 42)
  go_enter Try.func18, Try.ntmps18
  go_wp2
  go_ret
  exact ⟨rfl, hx⟩
theorem zeroSkill18 (w : World) : Calls Try.prog 18 #[zeroRaw.val] w fun e w' => e = .returned (.bool true) ∧ Ext w w' :=
  zeroSkill_gen zeroRaw.arr w rfl rfl rfl rfl rfl rfl rfl rfl rfl rfl

set_option maxHeartbeats 2000000 in
set_option maxRecDepth 100000 in
theorem sameSkill17 (r t : Raw) (w : World) (hs : r.s = t.s) (hr : Rd w r) (ht : Rd w t) (hn : r.tl ≤ 1048576) :
    Calls Try.prog 17 #[r.val, t.valIn] w fun e w' => e = .returned (.bool true) ∧ Ext w w' := by
  unfold Raw.valIn
  have hx1 : Ext w ((w.alloc (.cells r.arr 42)).alloc (.cells #[.string t.s.id, .string t.s.name, .string t.s.src, .pointer t.sid, .string t.s.vis, .slice t.tm t.tl t.tc, .pointer t.own] 26)) := ((Ext.refl w).alloc _).alloc _
  have HR : Hid (Rd _ r) := hr.ext hx1
  have HT : Hid (Rd _ t) := ht.ext hx1
  have hA := ((Ext.refl _).alloc (.cells #[.string t.s.id, .string t.s.name, .string t.s.src, .pointer t.sid, .string t.s.vis, .slice t.tm t.tl t.tc, .pointer t.own] 26)).blk (heap_alloc_last w (.cells r.arr 42))
  have hB := heap_alloc_last (w.alloc (.cells r.arr 42)) (.cells #[.string t.s.id, .string t.s.name, .string t.s.src, .pointer t.sid, .string t.s.vis, .slice t.tm t.tl t.tc, .pointer t.own] 26)
  simp only [World.size_alloc] at hB
  clear hr ht
  go_enter Try.func17, Try.ntmps17
  go_upto_region 1 with fail
  generalize (w.alloc (.cells r.arr 42)).alloc (.cells #[.string t.s.id, .string t.s.name, .string t.s.src, .pointer t.sid, .string t.s.vis, .slice t.tm t.tl t.tc, .pointer t.own] 26) = w1 at *
  generalize w.heap.size + 1 = PB at *
  generalize w.heap.size = PA at *
  have HA : Hid (∀ w', Ext w1 w' → w'.cell? ⟨PA, 0, none⟩ = some (.string t.s.id) ∧ w'.cell? ⟨PA, 1, none⟩ = some (.string t.s.name) ∧ w'.cell? ⟨PA, 2, none⟩ = some (.string ⟨#[]⟩) ∧ w'.cell? ⟨PA, 3, none⟩ = some (.string t.s.src) ∧ w'.cell? ⟨PA, 4, none⟩ = some (.pointer r.sid) ∧
      w'.cell? ⟨PA, 5, none⟩ = some (.string t.s.vis) ∧ w'.cell? ⟨PA, 6, none⟩ = some (.slice r.tm r.tl r.tc) ∧ w'.cell? ⟨PA, 7, none⟩ = some (.pointer r.own) ∧ w'.cell? ⟨PA, 8, none⟩ = some (.map none) ∧ w'.cell? ⟨PA, 9, none⟩ = some (.string ⟨#[]⟩)) := fun w' e => by
    rw [← hs]
    refine ⟨?_, ?_, ?_, ?_, ?_, ?_, ?_, ?_, ?_, ?_⟩ <;> (rw [cell_of_row _ _ _ _ _ _ (e.blk hA)]; rfl)
  have HBx : Hid (∀ w', Ext w1 w' → w'.cell? ⟨PB, 0, none⟩ = some (.string t.s.id) ∧ w'.cell? ⟨PB, 1, none⟩ = some (.string t.s.name) ∧ w'.cell? ⟨PB, 2, none⟩ = some (.string t.s.src) ∧ w'.cell? ⟨PB, 3, none⟩ = some (.pointer t.sid) ∧
      w'.cell? ⟨PB, 4, none⟩ = some (.string t.s.vis) ∧ w'.cell? ⟨PB, 5, none⟩ = some (.slice t.tm t.tl t.tc) ∧ w'.cell? ⟨PB, 6, none⟩ = some (.pointer t.own)) := fun w' e => by
    refine ⟨?_, ?_, ?_, ?_, ?_, ?_, ?_⟩ <;> (rw [cell_of_row _ _ _ _ _ _ (e.blk hB)]; rfl)
  have HS : Hid (r.s = t.s) := hs
  clear hs hA hB
  obtain ⟨a0, a1, a2, a3, a4, a5, a6, a7, a8, a9⟩ := HA.out w1 (Ext.refl _)
  obtain ⟨b0, b1, b2, b3, b4, b5, b6⟩ := HBx.out w1 (Ext.refl _)
  go_wp2_with fail
  refine (samePtr38 r.sid t.sid r.s.sid t.s.sid w1 HR.out.sid HT.out.sid).mono ?_
  rw [HS.out, sameO_self]
  rintro e w2 ⟨rfl, hx2⟩
  clear a0 a1 a2 a3 a4 a5 a6 a7 a8 a9 b0 b1 b2 b3 b4 b5 b6
  obtain ⟨a0, a1, a2, a3, a4, a5, a6, a7, a8, a9⟩ := HA.out w2 hx2
  obtain ⟨b0, b1, b2, b3, b4, b5, b6⟩ := HBx.out w2 hx2
  go_wp2_with fail
  refine (samePtr38 r.own t.own r.s.own t.s.own w2 (HR.out.own.ext hx2) (HT.out.own.ext hx2)).mono ?_
  rw [HS.out, sameO_self]
  rintro e w3 ⟨rfl, hx3⟩
  clear a0 a1 a2 a3 a4 a5 a6 a7 a8 a9 b0 b1 b2 b3 b4 b5 b6
  obtain ⟨a0, a1, a2, a3, a4, a5, a6, a7, a8, a9⟩ := HA.out w3 (hx2.trans hx3)
  obtain ⟨b0, b1, b2, b3, b4, b5, b6⟩ := HBx.out w3 (hx2.trans hx3)
  go_wp2_with fail
  refine (sameStrings39 r.tm t.tm r.tl t.tl r.tc t.tc t.s.teams w3 hn (by have := HR.out.tm.ext (hx2.trans hx3); rw [HS.out] at this; exact this) (HT.out.tm.ext (hx2.trans hx3))).mono ?_
  rintro e w4 ⟨rfl, hx4⟩
  clear a0 a1 a2 a3 a4 a5 a6 a7 a8 a9 b0 b1 b2 b3 b4 b5 b6
  obtain ⟨a0, a1, a2, a3, a4, a5, a6, a7, a8, a9⟩ := HA.out w4 ((hx2.trans hx3).trans hx4)
  obtain ⟨b0, b1, b2, b3, b4, b5, b6⟩ := HBx.out w4 ((hx2.trans hx3).trans hx4)
  have hmap := mapNil
  go_wp2
  go_ret
  exact ⟨rfl, hx1.trans ((hx2.trans hx3).trans hx4)⟩
end Go.Proofs.Qxb6613557a
