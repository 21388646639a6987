/-
  zzBytes of the second law: where it says yes, every record is small. Own text.
-/
import Derived.Test.Qxb6613557aSizes
namespace Go.Proofs.Qxb6613557a
open Go.RowKit
set_option linter.unusedVariables false

/-- No; or yes, and every record is small. -/
def BytesOk (n : Nat) (R : Nat → Raw) (e : Ending) : Prop := e = .returned (.bool false) ∨ (e = .returned (.bool true) ∧ ∀ k, k < n → Small (R k).s)

theorem small_step {R : Nat → Raw} {k : Nat} (h : ∀ t, t < k → Small (R t).s) (hk : Small (R k).s) : ∀ t, t < k + 1 → Small (R t).s := fun t ht => by
  by_cases e : t = k
  · subst e; exact hk
  · exact h t (by omega)

set_option maxHeartbeats 4000000 in
set_option maxRecDepth 100000 in
theorem bytes19 (a : Option Addr) (n c b o : Nat) (R : Nat → Raw) (u : ByteArray) (ta : Option Addr) (tn tc : Nat) (T : List ByteArray) (w : World) (hn : n ≤ 9223372036854775807) (htn : tn ≤ 9223372036854775807)
    (ha : 0 < n → a = some ⟨b, o, none⟩) (hl : Lst w b o n R) (ht : ∀ k, k < n → (R k).tl ≤ 9223372036854775807) (hT : SStr w ta tn T) :
    Calls Try.prog 19 #[.slice a n c, .string u, .slice ta tn tc] w fun e w' => BytesOk n R e ∧ w = w' := by
  go_enter Try.func19, Try.ntmps19
  go_wp2
  · go_ret
    exact ⟨.inl rfl, rfl⟩
  go_loop [7, 8] (fun z i => ∃ (k : Nat) (y : Int), k ≤ n ∧ i = .int .i64 k ∧ z = .int .i64 y ∧ Hid (∀ t, t < k → Small (R t).s)) (fun _ i => n - (intOf i).toNat)
  case atStart => exact ⟨0, _, Nat.zero_le _, rfl, rfl, fun t ht => absurd ht (Nat.not_lt_zero _)⟩
  case round =>
    obtain ⟨k, y, hk, rfl, rfl, HS⟩ := hrel
    by_cases hlt : k < n
    · obtain rfl := ha (by omega)
      obtain ⟨g0, g1, g2, g3, g4, g5, g6⟩ := hl.seven hlt
      have hrd := hl.rd k hlt
      have htk := ht k hlt
      have hlt' : (k : Int) < (n : Int) := by omega
      have hss := hrd.tm.sstr
      have HT : Hid ((R k).tl = ((R k).s.teams.getD []).length) := hss.1
      rcases hrd.sid with ⟨h1, h1'⟩ | ⟨b1, o1, s1, h1, h1', c1⟩
      · rw [h1] at g3
        have H1 : Hid (∀ x, (R k).s.sid = some x → x.size ≤ 1048576) := fun x hx => by rw [h1'] at hx; cases hx
        clear h1 h1' hl ht
        go_wp2
        all_goals try (go_ret; exact ⟨.inl rfl, rfl⟩)
        go_loop [7, 9] (fun z i => ∃ (j : Nat) (y2 : Int), j ≤ (R k).tl ∧ i = .int .i64 j ∧ z = .int .i64 y2) (fun _ i => (R k).tl - (intOf i).toNat)
        case atStart => exact ⟨0, _, Nat.zero_le _, rfl, rfl⟩
        case round =>
          obtain ⟨j, y2, hj, rfl, rfl⟩ := hrel
          by_cases hlj : j < (R k).tl
          · obtain ⟨b3, o3, h3, c3⟩ := hss.2 (by omega)
            have gj := c3 j hlj
            have hlj' : (j : Int) < ((R k).tl : Int) := by omega
            rw [h3] at g5
            clear c3 h3
            go_wp2
            all_goals try (go_ret; exact ⟨.inl rfl, rfl⟩)
            go_round
            case rel => exact ⟨j + 1, _, by omega, by go_num, rfl⟩
            case measure => simp [intOf]; omega
          · have hlj' : ¬ ((j : Int) < ((R k).tl : Int)) := by omega
            rcases hrd.own with ⟨h2, h2'⟩ | ⟨b2, o2, s2, h2, h2', c2⟩
            · rw [h2] at g6
              have H2 : Hid (∀ x, (R k).s.own = some x → x.size ≤ 1048576) := fun x hx => by rw [h2'] at hx; cases hx
              clear h2 h2'
              go_wp2
              go_round
              case rel => exact ⟨k + 1, _, by omega, by go_num, rfl, small_step HS.out ⟨by omega, by omega, by omega, by omega, H1.out, H2.out, by rw [← HT.out]; omega⟩⟩
              case measure => simp [intOf]; omega
            · rw [h2] at g6
              have H2 : Hid (s2.size ≤ 1048576 → ∀ x, (R k).s.own = some x → x.size ≤ 1048576) := fun hs x hx => by rw [h2'] at hx; cases hx; exact hs
              clear h2 h2'
              go_wp2
              all_goals try (go_ret; exact ⟨.inl rfl, rfl⟩)
              go_round
              case rel => exact ⟨k + 1, _, by omega, by go_num, rfl, small_step HS.out ⟨by omega, by omega, by omega, by omega, H1.out, H2.out (by omega), by rw [← HT.out]; omega⟩⟩
              case measure => simp [intOf]; omega
      · rw [h1] at g3
        have H1' : Hid (s1.size ≤ 1048576 → ∀ x, (R k).s.sid = some x → x.size ≤ 1048576) := fun hs x hx => by rw [h1'] at hx; cases hx; exact hs
        clear h1 h1' hl ht
        go_wp2
        all_goals try (go_ret; exact ⟨.inl rfl, rfl⟩)
        have H1 : Hid (∀ x, (R k).s.sid = some x → x.size ≤ 1048576) := H1'.out (by omega)
        clear H1'
        go_loop [7, 9] (fun z i => ∃ (j : Nat) (y2 : Int), j ≤ (R k).tl ∧ i = .int .i64 j ∧ z = .int .i64 y2) (fun _ i => (R k).tl - (intOf i).toNat)
        case atStart => exact ⟨0, _, Nat.zero_le _, rfl, rfl⟩
        case round =>
          obtain ⟨j, y2, hj, rfl, rfl⟩ := hrel
          by_cases hlj : j < (R k).tl
          · obtain ⟨b3, o3, h3, c3⟩ := hss.2 (by omega)
            have gj := c3 j hlj
            have hlj' : (j : Int) < ((R k).tl : Int) := by omega
            rw [h3] at g5
            clear c3 h3
            go_wp2
            all_goals try (go_ret; exact ⟨.inl rfl, rfl⟩)
            go_round
            case rel => exact ⟨j + 1, _, by omega, by go_num, rfl⟩
            case measure => simp [intOf]; omega
          · have hlj' : ¬ ((j : Int) < ((R k).tl : Int)) := by omega
            rcases hrd.own with ⟨h2, h2'⟩ | ⟨b2, o2, s2, h2, h2', c2⟩
            · rw [h2] at g6
              have H2 : Hid (∀ x, (R k).s.own = some x → x.size ≤ 1048576) := fun x hx => by rw [h2'] at hx; cases hx
              clear h2 h2'
              go_wp2
              go_round
              case rel => exact ⟨k + 1, _, by omega, by go_num, rfl, small_step HS.out ⟨by omega, by omega, by omega, by omega, H1.out, H2.out, by rw [← HT.out]; omega⟩⟩
              case measure => simp [intOf]; omega
            · rw [h2] at g6
              have H2 : Hid (s2.size ≤ 1048576 → ∀ x, (R k).s.own = some x → x.size ≤ 1048576) := fun hs x hx => by rw [h2'] at hx; cases hx; exact hs
              clear h2 h2'
              go_wp2
              all_goals try (go_ret; exact ⟨.inl rfl, rfl⟩)
              go_round
              case rel => exact ⟨k + 1, _, by omega, by go_num, rfl, small_step HS.out ⟨by omega, by omega, by omega, by omega, H1.out, H2.out (by omega), by rw [← HT.out]; omega⟩⟩
              case measure => simp [intOf]; omega
    · go_wp2
      all_goals try (go_ret; exact ⟨.inl rfl, rfl⟩)
      obtain rfl : k = n := by omega
      go_loop [7, 10] (fun z i => ∃ (j : Nat) (y2 : Int), j ≤ tn ∧ i = .int .i64 j ∧ z = .int .i64 y2) (fun _ i => tn - (intOf i).toNat)
      case atStart => exact ⟨0, _, Nat.zero_le _, rfl, rfl⟩
      case round =>
        obtain ⟨j, y2, hj, rfl, rfl⟩ := hrel
        by_cases hlj : j < tn
        · obtain ⟨b3, o3, rfl, c3⟩ := hT.2 (by omega)
          have gj := c3 j hlj
          have hlj' : (j : Int) < (tn : Int) := by omega
          clear c3
          go_wp2
          all_goals try (go_ret; exact ⟨.inl rfl, rfl⟩)
          go_round
          case rel => exact ⟨j + 1, _, by omega, by go_num, rfl⟩
          case measure => simp [intOf]; omega
        · go_wp2
          go_ret
          exact ⟨.inr ⟨rfl, HS.out⟩, rfl⟩
end Go.Proofs.Qxb6613557a
