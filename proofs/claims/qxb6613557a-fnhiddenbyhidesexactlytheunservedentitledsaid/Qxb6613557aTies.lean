/-
  zzNoTies. Own text.
-/
import Derived.Test.Qxb6613557aReach
import Derived.Deep.RegionHeld3
import Derived.Deep.DeepCutAuto
namespace Go.Proofs.Qxb6613557a
open Go.RowKit
set_option linter.unusedVariables false
set_option linter.unusedSimpArgs false

/-- x and y do not stand level. -/
def Free (x y : Sk) : Prop := x.name.toList = y.name.toList → x.src.toList = y.src.toList → isDefault x.src = false ∧ ∀ p q, isHub x.src = true → x.sid = some p → y.sid = some q → p.toList ≠ q.toList
def NoTies (S : Nat → Sk) (n : Nat) : Prop := ∀ i j, i < j → j < n → Free (S i) (S j)
def NTOk (S : Nat → Sk) (n : Nat) (e : Ending) : Prop := e = .returned (.bool false) ∨ (e = .returned (.bool true) ∧ NoTies S n)

set_option maxHeartbeats 4000000 in
set_option maxRecDepth 100000 in
theorem noTies20 (a : Option Addr) (n c b o : Nat) (R : Nat → Raw) (w : World) (hn : n ≤ 1048576) (ha : 0 < n → a = some ⟨b, o, none⟩) (hl : Lst w b o n R) :
    Calls Try.prog 20 #[.slice a n c] w fun e w' => NTOk (fun k => (R k).s) n e ∧ Ext w w' := by
  have HL : Hid (Lst w b o n R) := hl
  have HA : Hid (0 < n → a = some ⟨b, o, none⟩) := ha
  clear hl ha
  go_enter Try.func20, Try.ntmps20
  go_wp2
  go_loopw [3] (fun i wr => ∃ k : Nat, k ≤ n ∧ i = .int .i64 k ∧ Ext w wr ∧ Hid (∀ i j, i < k → i < j → j < n → Free (R i).s (R j).s)) (fun i _ => n - (intOf i).toNat)
  case atStart => exact ⟨0, Nat.zero_le _, rfl, Ext.refl _, fun i j hi => absurd hi (Nat.not_lt_zero _)⟩
  case round =>
    obtain ⟨k, hk, rfl, hx, HN⟩ := hrel
    by_cases hlt : k < n
    · have hlt' : (k : Int) < (n : Int) := by omega
      go_wp2
      generalize wr = wk at *
      go_loopw [4] (fun i wr => ∃ m : Nat, m ≤ n ∧ i = .int .i64 m ∧ Ext w wr ∧ Hid (∀ j, k < j → j < m → Free (R k).s (R j).s)) (fun i _ => n - (intOf i).toNat)
      case atStart => exact ⟨k + 1, by omega, by go_num, hx, fun j h1 h2 => by omega⟩
      case round =>
        obtain ⟨m, hm, rfl, hxr, HM⟩ := hrel
        by_cases hlm : m < n
        · have hlm' : (m : Int) < (n : Int) := by omega
          obtain rfl := HA.out (by omega)
          obtain ⟨g0, g1, g2, g3, g4, g5, g6⟩ := (HL.out.ext hxr).seven hlt
          obtain ⟨d0, d1, d2, d3, d4, d5, d6⟩ := (HL.out.ext hxr).seven hlm
          have lb := World.block_lt_of_cell? _ _ d0
          go_upto_region 9 with fail
          have hA : InBox ((wr.alloc (.cells #[.string (R k).s.id, .string (R k).s.name, .string (R k).s.src, .pointer (R k).sid, .string (R k).s.vis, .slice (R k).tm (R k).tl (R k).tc, .pointer (R k).own] 26)).alloc (.cells #[.string (R m).s.id, .string (R m).s.name, .string (R m).s.src, .pointer (R m).sid, .string (R m).s.vis, .slice (R m).tm (R m).tl (R m).tc, .pointer (R m).own] 26)) wr.heap.size (R k) := (InBox.new wr (R k)).ext ((Ext.refl _).alloc _)
          have hB : InBox ((wr.alloc (.cells #[.string (R k).s.id, .string (R k).s.name, .string (R k).s.src, .pointer (R k).sid, .string (R k).s.vis, .slice (R k).tm (R k).tl (R k).tc, .pointer (R k).own] 26)).alloc (.cells #[.string (R m).s.id, .string (R m).s.name, .string (R m).s.src, .pointer (R m).sid, .string (R m).s.vis, .slice (R m).tm (R m).tl (R m).tc, .pointer (R m).own] 26)) (wr.heap.size + 1) (R m) := by
            have := InBox.new (wr.alloc (.cells #[.string (R k).s.id, .string (R k).s.name, .string (R k).s.src, .pointer (R k).sid, .string (R k).s.vis, .slice (R k).tm (R k).tl (R k).tc, .pointer (R k).own] 26)) (R m)
            rwa [World.size_alloc] at this
          have hx2 : Ext wr ((wr.alloc (.cells #[.string (R k).s.id, .string (R k).s.name, .string (R k).s.src, .pointer (R k).sid, .string (R k).s.vis, .slice (R k).tm (R k).tl (R k).tc, .pointer (R k).own] 26)).alloc (.cells #[.string (R m).s.id, .string (R m).s.name, .string (R m).s.src, .pointer (R m).sid, .string (R m).s.vis, .slice (R m).tm (R m).tl (R m).tc, .pointer (R m).own] 26)) := ((Ext.refl wr).alloc _).alloc _
          generalize (wr.alloc (.cells #[.string (R k).s.id, .string (R k).s.name, .string (R k).s.src, .pointer (R k).sid, .string (R k).s.vis, .slice (R k).tm (R k).tl (R k).tc, .pointer (R k).own] 26)).alloc (.cells #[.string (R m).s.id, .string (R m).s.name, .string (R m).s.src, .pointer (R m).sid, .string (R m).s.vis, .slice (R m).tm (R m).tl (R m).tc, .pointer (R m).own] 26) = w2 at *
          generalize wr.heap.size + 1 = PB at *
          generalize wr.heap.size = PA at *
          have hxa := hxr.trans hx2
          have hk2 := ((HL.out.ext hxa).rd k hlt).sid
          have hm2 := ((HL.out.ext hxa).rd m hlm).sid
          clear g0 g1 g2 g3 g4 g5 g6 d0 d1 d2 d3 d4 d5 d6
          obtain ⟨-, a1, a2, a3, -, -, -⟩ := hA.cells
          obtain ⟨-, b1, b2, b3, -, -, -⟩ := hB.cells
          clear hA hB hx2
          cases h1 : ((R k).s.name.toList == (R m).s.name.toList) with
          | false =>
            have HF : Hid (Free (R k).s (R m).s) := fun h => by rw [h] at h1; simp at h1
            clear hk2 hm2
            go_wp2
            go_roundw
            case rel => exact ⟨m + 1, by omega, by go_num, hxa, fun j h1 h2 => by
              by_cases e : j = m
              · subst e; exact HF.out
              · exact HM.out j h1 (by omega)⟩
            case measure => simp [intOf]; omega
          | true =>
          cases h2 : ((R k).s.src.toList == (R m).s.src.toList) with
          | false =>
            have HF : Hid (Free (R k).s (R m).s) := fun _ h => by rw [h] at h2; simp at h2
            clear hk2 hm2
            go_wp2
            go_roundw
            case rel => exact ⟨m + 1, by omega, by go_num, hxa, fun j h1 h2 => by
              by_cases e : j = m
              · subst e; exact HF.out
              · exact HM.out j h1 (by omega)⟩
            case measure => simp [intOf]; omega
          | true =>
          cases h3 : isDefault (R k).s.src with
          | true =>
            unfold isDefault at h3
            clear hk2 hm2
            go_wp2
            go_ret
            exact ⟨.inl rfl, hxa⟩
          | false =>
          have HD : Hid (isDefault (R k).s.src = false) := h3
          unfold isDefault at h3
          cases h4 : isHub (R k).s.src with
          | false =>
            have HF : Hid (Free (R k).s (R m).s) := fun _ _ => ⟨HD.out, fun p q h => by rw [h4] at h; cases h⟩
            unfold isHub at h4
            clear hk2 hm2
            go_wp2
            go_quiet (fail)
            go_wp2
            go_roundw
            case rel => exact ⟨m + 1, by omega, by go_num, hxa.drewN _, fun j h1 h2 => by
              by_cases e : j = m
              · subst e; exact HF.out
              · exact HM.out j h1 (by omega)⟩
            case measure => simp [intOf]; omega
          | true =>
          unfold isHub at h4
          rcases hk2 with ⟨hp, hv⟩ | ⟨c1, o1, x, hp, hv, hcx⟩
          · have HF : Hid (Free (R k).s (R m).s) := fun _ _ => ⟨HD.out, fun p q _ h => by rw [hv] at h; cases h⟩
            rw [hp] at a3
            clear hp hv hm2
            go_wp2
            go_quiet (fail)
            go_wp2
            go_roundw
            case rel => exact ⟨m + 1, by omega, by go_num, hxa.drewN _, fun j h1 h2 => by
              by_cases e : j = m
              · subst e; exact HF.out
              · exact HM.out j h1 (by omega)⟩
            case measure => simp [intOf]; omega
          rw [hp] at a3
          have HV : Hid ((R k).s.sid = some x) := hv
          clear hp hv
          rcases hm2 with ⟨hp, hv⟩ | ⟨c2, o2, y, hp, hv, hcy⟩
          · have HF : Hid (Free (R k).s (R m).s) := fun _ _ => ⟨HD.out, fun p q _ _ h => by rw [hv] at h; cases h⟩
            rw [hp] at b3
            clear hp hv
            go_wp2
            go_quiet (fail)
            go_wp2
            go_roundw
            case rel => exact ⟨m + 1, by omega, by go_num, hxa.drewN _, fun j h1 h2 => by
              by_cases e : j = m
              · subst e; exact HF.out
              · exact HM.out j h1 (by omega)⟩
            case measure => simp [intOf]; omega
          rw [hp] at b3
          have HW : Hid ((R m).s.sid = some y) := hv
          clear hp hv
          cases h5 : (x.toList == y.toList) with
          | true =>
            go_wp2
            go_quiet (fail)
            go_wp2
            go_ret
            exact ⟨.inl rfl, hxa.drewN _⟩
          | false =>
            have HF : Hid (Free (R k).s (R m).s) := fun _ _ => ⟨HD.out, fun p q _ h h' e => by
              rw [HV.out] at h
              rw [HW.out] at h'
              injection h with h
              injection h' with h'
              rw [h, h', e] at h5
              simp at h5⟩
            go_wp2
            go_quiet (fail)
            go_wp2
            go_roundw
            case rel => exact ⟨m + 1, by omega, by go_num, hxa.drewN _, fun j h1 h2 => by
              by_cases e : j = m
              · subst e; exact HF.out
              · exact HM.out j h1 (by omega)⟩
            case measure => simp [intOf]; omega
        · obtain rfl : n = m := by omega
          go_wp2
          go_roundw
          case rel => exact ⟨k + 1, by omega, by go_num, hxr, fun i j h1 h2 h3 => by
            by_cases e : i = k
            · subst e; exact HM.out j h2 h3
            · exact HN.out i j (by omega) h2 h3⟩
          case measure => simp [intOf]; omega
    · obtain rfl : n = k := by omega
      go_wp2
      go_ret
      exact ⟨.inr ⟨rfl, fun i j h1 h2 => HN.out i j (by omega) h1 h2⟩, hx⟩
end Go.Proofs.Qxb6613557a
