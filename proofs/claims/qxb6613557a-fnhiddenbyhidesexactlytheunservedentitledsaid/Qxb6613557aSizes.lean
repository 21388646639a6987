/-
  zzAdd, zzOverStrings, zzOverSkill, zzCatalogBytes (some number comes back), zzRank. Own text.
-/
import Derived.Test.Qxb6613557aBase
namespace Go.Proofs.Qxb6613557a
open Go.RowKit
set_option linter.unusedVariables false

/-- Some int is returned. -/
def SomeInt (e : Ending) : Prop := ∃ z : Int, e = .returned (.int .i64 z)
/-- Some bool is returned. -/
def SomeBool (e : Ending) : Prop := ∃ r : Bool, e = .returned (.bool r)

theorem zzAdd (x y : Int) (w : World) : Calls Try.prog 29 #[.int .i64 x, .int .i64 y] w fun e w' => SomeInt e ∧ w = w' := by
  by_cases h : 1048576 < x
  · go_enter Try.func29, Try.ntmps29
    go_wp2
    all_goals (go_ret; exact ⟨⟨_, rfl⟩, rfl⟩)
  · go_enter Try.func29, Try.ntmps29
    go_wp2
    all_goals (go_ret; exact ⟨⟨_, rfl⟩, rfl⟩)

set_option maxHeartbeats 1000000 in
theorem zzOverStrings (x : Int) (a : Option Addr) (n c : Nat) (l : List ByteArray) (w : World) (hn : n ≤ 9223372036854775807) (hs : SStr w a n l) :
    Calls Try.prog 24 #[.int .i64 x, .slice a n c] w fun e w' => SomeInt e ∧ w = w' := by
  go_enter Try.func24, Try.ntmps24
  go_wp2
  go_loop [0, 5] (fun z i => ∃ (k : Nat) (y : Int), k ≤ n ∧ i = .int .i64 k ∧ z = .int .i64 y) (fun _ i => n - (intOf i).toNat)
  case atStart => exact ⟨0, _, Nat.zero_le _, rfl, rfl⟩
  case round =>
    obtain ⟨k, y, hk, rfl, rfl⟩ := hrel
    by_cases hlt : k < n
    · by_cases hy : y ≤ 1048576
      · obtain ⟨b, o, rfl, hc⟩ := hs.2 (by omega)
        have g := hc k hlt
        have hlt' : (k : Int) < (n : Int) := by omega
        clear hs hc
        go_wp2_with fail
        refine (zzAdd _ _ _).mono ?_
        rintro e w' ⟨⟨z, rfl⟩, rfl⟩
        go_wp2_with fail
        refine (zzAdd _ _ _).mono ?_
        rintro e w' ⟨⟨z2, rfl⟩, rfl⟩
        go_wp2
        go_round
        case rel => exact ⟨k + 1, _, by omega, by go_num, rfl⟩
        case measure => simp [intOf]; omega
      · have hlt' : (k : Int) < (n : Int) := by omega
        go_wp2
        go_ret
        exact ⟨⟨_, rfl⟩, rfl⟩
    · have hd : decide ((k : Int) < (n : Int)) = false := decide_eq_false (by omega)
      go_wp2
      go_ret
      exact ⟨⟨_, rfl⟩, rfl⟩

set_option maxHeartbeats 1000000 in
theorem zzOverSkill (x : Int) (r : Raw) (w : World) (hr : Rd w r) (ht : r.tl ≤ 9223372036854775807) :
    Calls Try.prog 8 #[.int .i64 x, r.valIn] w fun e w' => SomeInt e ∧ Ext w w' := by
  unfold Raw.valIn
  have hss := hr.tm.sstr
  rcases hr.sid with ⟨h1, _⟩ | ⟨b1, o1, s1, h1, _, g1⟩ <;> rcases hr.own with ⟨h2, _⟩ | ⟨b2, o2, s2, h2, _, g2⟩
  all_goals
    rw [h1, h2]
    clear h1 h2
    try have l1 := World.block_lt_of_cell? _ _ g1
    try have l2 := World.block_lt_of_cell? _ _ g2
    go_enter Try.func8, Try.ntmps8
    go_wp2_with (first | (go_at_call 29; refine (zzAdd _ _ _).mono ?_; rintro e w' ⟨⟨z, rfl⟩, rfl⟩) | (go_at_call 24; refine (zzOverStrings _ _ _ _ _ _ ht (hss.ext ((Ext.refl _).alloc _))).mono ?_; rintro e w' ⟨⟨z, rfl⟩, rfl⟩))
    go_ret
    exact ⟨⟨_, rfl⟩, (Ext.refl _).alloc _⟩

set_option maxHeartbeats 1000000 in
theorem zzCatalogBytes (a : Option Addr) (n c b o : Nat) (R : Nat → Raw) (u : ByteArray) (ta : Option Addr) (tn tc : Nat) (T : List ByteArray) (w : World) (hn : n ≤ 9223372036854775807) (htn : tn ≤ 9223372036854775807)
    (ha : 0 < n → a = some ⟨b, o, none⟩) (hl : Lst w b o n R) (ht : ∀ k, k < n → (R k).tl ≤ 9223372036854775807) (hT : SStr w ta tn T) :
    Calls Try.prog 9 #[.slice a n c, .string u, .slice ta tn tc] w fun e w' => SomeInt e ∧ Ext w w' := by
  go_enter Try.func9, Try.ntmps9
  go_wp2_with (first | (go_at_call 29; refine (zzAdd _ _ _).mono ?_; rintro e w' ⟨⟨z, rfl⟩, rfl⟩) | (go_at_call 24; refine (zzOverStrings _ _ _ _ _ _ htn hT).mono ?_; rintro e w' ⟨⟨z, rfl⟩, rfl⟩))
  go_loopw [7, 8] (fun z i wr => ∃ (k : Nat) (y : Int), k ≤ n ∧ i = .int .i64 k ∧ z = .int .i64 y ∧ Ext w wr) (fun _ i _ => n - (intOf i).toNat)
  case atStart => exact ⟨0, _, Nat.zero_le _, rfl, rfl, Ext.refl _⟩
  case round =>
    obtain ⟨k, y, hk, rfl, rfl, hx⟩ := hrel
    by_cases hlt : k < n
    · by_cases hy : y ≤ 1048576
      · obtain rfl := ha (by omega)
        obtain ⟨g0, g1, g2, g3, g4, g5, g6⟩ := (hl.ext hx).seven hlt
        have hrd := (hl.ext hx).rd k hlt
        have hlt' : (k : Int) < (n : Int) := by omega
        go_wp2_with fail
        refine (zzOverSkill _ (R k) _ hrd (ht k hlt)).mono ?_
        rintro e w' ⟨⟨z2, rfl⟩, hx2⟩
        have hx' := hx.trans hx2
        clear g0 g1 g2 g3 g4 g5 g6 hrd hx2 hx
        go_wp2
        go_roundw
        case rel => exact ⟨k + 1, _, by omega, by go_num, rfl, hx'⟩
        case measure => simp [intOf]; omega
      · have hlt' : (k : Int) < (n : Int) := by omega
        go_wp2
        go_ret
        exact ⟨⟨_, rfl⟩, hx⟩
    · have hd : decide ((k : Int) < (n : Int)) = false := decide_eq_false (by omega)
      go_wp2
      go_ret
      exact ⟨⟨_, rfl⟩, hx⟩

/-! ### zzRank -/
def isDefault (s : ByteArray) : Bool := s.toList == [100, 101, 102, 97, 117, 108, 116]
def isCustom (s : ByteArray) : Bool := s.toList == [97, 103, 101, 110, 116, 95, 115, 107, 105, 108, 108, 115]
def isHub (s : ByteArray) : Bool := s.toList == [104, 117, 98]
def isGlobal (s : ByteArray) : Bool := s.toList == [103, 108, 111, 98, 97, 108]
def isTeam (s : ByteArray) : Bool := s.toList == [116, 101, 97, 109]
def isPersonal (s : ByteArray) : Bool := s.toList == [112, 101, 114, 115, 111, 110, 97, 108]
def rank (s : ByteArray) : Int := if isDefault s then 0 else if isCustom s then 1 else if isHub s then 2 else -1

theorem zzRank (s : ByteArray) (w : World) : Calls Try.prog 11 #[.string s] w fun e w' => e = .returned (.int .i64 (rank s)) ∧ w = w' := by
  unfold rank
  cases h1 : isDefault s <;> cases h2 : isCustom s <;> cases h3 : isHub s
  all_goals
    unfold isDefault at h1
    unfold isCustom at h2
    unfold isHub at h3
    go_enter Try.func11, Try.ntmps11
    go_wp2
    go_ret
    exact ⟨rfl, rfl⟩
end Go.Proofs.Qxb6613557a
