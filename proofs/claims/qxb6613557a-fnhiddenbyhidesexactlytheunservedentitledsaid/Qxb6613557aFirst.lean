/-
  zzFirstCustom, zzFirstHub, zzGoesBefore. Own text.
-/
import Derived.Test.Qxb6613557aSizes
import Derived.Test.Qxb6613557aReach
import Derived.Deep.RegionHeld3
namespace Go.Proofs.Qxb6613557a
open Go.RowKit
set_option linter.unusedVariables false
set_option linter.unusedSimpArgs false

/-- The first place below k at which p holds; -1 if none. -/
def fstTo (p : Nat → Bool) : Nat → Int
  | 0 => -1
  | k + 1 => if 0 ≤ fstTo p k then fstTo p k else if p k then k else -1
theorem fstTo_none {p : Nat → Bool} : ∀ k, (∀ t, t < k → p t = false) → fstTo p k = -1
  | 0, _ => rfl
  | k + 1, h => by
    have := fstTo_none k (fun t ht => h t (by omega))
    rw [fstTo, this, h k (by omega)]; rfl
theorem fstTo_hit {p : Nat → Bool} {j : Nat} (hj : p j = true) (h : ∀ t, t < j → p t = false) : ∀ k, j < k → fstTo p k = j
  | 0, hk => by omega
  | k + 1, hk => by
    by_cases e : j = k
    · subst e
      rw [fstTo, fstTo_none j h, hj]; rfl
    · have := fstTo_hit hj h k (by omega)
      rw [fstTo, this, if_pos (by omega)]
theorem fstTo_cases (p : Nat → Bool) : ∀ k, (fstTo p k = -1 ∧ ∀ t, t < k → p t = false) ∨ ∃ j : Nat, fstTo p k = j ∧ j < k ∧ p j = true ∧ ∀ t, t < j → p t = false
  | 0 => .inl ⟨rfl, fun t ht => by omega⟩
  | k + 1 => by
    rcases fstTo_cases p k with ⟨h1, h2⟩ | ⟨j, h1, h2, h3, h4⟩
    · cases hp : p k with
      | true => exact .inr ⟨k, fstTo_hit hp h2 _ (by omega), by omega, hp, h2⟩
      | false =>
        have hall : ∀ t, t < k + 1 → p t = false := fun t ht => by
          by_cases e : t = k
          · subst e; exact hp
          · exact h2 t (by omega)
        exact .inl ⟨fstTo_none _ hall, hall⟩
    · exact .inr ⟨j, fstTo_hit h3 h4 _ (by omega), by omega, h3, h4⟩

/-- A custom skill of that id. -/
def cuP (S : Nat → Sk) (x : ByteArray) (k : Nat) : Bool := isCustom (S k).src && ((S k).id.toList == x.toList)
/-- The same text, if there is one. -/
def sidIs (s : Sk) (x : ByteArray) : Bool := match s.sid with
  | some y => y.toList == x.toList
  | none => false
/-- A hub skill of that hub. -/
def hbP (S : Nat → Sk) (x : ByteArray) (k : Nat) : Bool := isHub (S k).src && sidIs (S k) x

set_option maxHeartbeats 1000000 in
theorem firstCustom36 (a : Option Addr) (n c b o : Nat) (R : Nat → Raw) (x : ByteArray) (w : World) (hn : n ≤ 1048576) (ha : 0 < n → a = some ⟨b, o, none⟩) (hl : Lst w b o n R) :
    Calls Try.prog 36 #[.slice a n c, .string x] w fun e w' => e = .returned (.int .i64 (fstTo (cuP (fun k => (R k).s) x) n)) ∧ w = w' := by
  go_enter Try.func36, Try.ntmps36
  go_wp2
  go_loop [5] (fun i => ∃ k : Nat, k ≤ n ∧ i = .int .i64 k ∧ Hid (∀ t, t < k → cuP (fun k => (R k).s) x t = false)) (fun i => n - (intOf i).toNat)
  case atStart => exact ⟨0, Nat.zero_le _, rfl, fun t ht => absurd ht (Nat.not_lt_zero _)⟩
  case round =>
    obtain ⟨k, hk, rfl, HN⟩ := hrel
    by_cases hlt : k < n
    · obtain rfl := ha (by omega)
      obtain ⟨g0, g1, g2, g3, g4, g5, g6⟩ := hl.seven hlt
      have hlt' : (k : Int) < (n : Int) := by omega
      clear hl g1 g3 g4 g5 g6
      cases h1 : isCustom (R k).s.src with
      | false =>
        have HH : Hid (cuP (fun k => (R k).s) x k = false) := by show _ = _; simp [cuP, h1]
        unfold isCustom at h1
        go_wp2
        go_round
        case rel => exact ⟨k + 1, by omega, by go_num, fun t ht => by
          by_cases e : t = k
          · subst e; exact HH.out
          · exact HN.out t (by omega)⟩
        case measure => simp [intOf]; omega
      | true =>
      cases h2 : ((R k).s.id.toList == x.toList) with
      | false =>
        have HH : Hid (cuP (fun k => (R k).s) x k = false) := by show _ = _; simp only [cuP, h1, h2]; rfl
        unfold isCustom at h1
        go_wp2
        go_round
        case rel => exact ⟨k + 1, by omega, by go_num, fun t ht => by
          by_cases e : t = k
          · subst e; exact HH.out
          · exact HN.out t (by omega)⟩
        case measure => simp [intOf]; omega
      | true =>
        have HH : Hid (cuP (fun k => (R k).s) x k = true) := by show _ = _; simp only [cuP, h1, h2]; rfl
        unfold isCustom at h1
        go_wp2
        go_ret
        exact ⟨by rw [fstTo_hit HH.out HN.out n hlt]; rfl, rfl⟩
    · obtain rfl : n = k := by omega
      clear hl
      go_wp2
      go_ret
      exact ⟨by rw [fstTo_none n HN.out]; rfl, rfl⟩

set_option maxHeartbeats 1000000 in
theorem firstHub37 (a : Option Addr) (n c b o : Nat) (R : Nat → Raw) (x : ByteArray) (w : World) (hn : n ≤ 1048576) (ha : 0 < n → a = some ⟨b, o, none⟩) (hl : Lst w b o n R) :
    Calls Try.prog 37 #[.slice a n c, .string x] w fun e w' => e = .returned (.int .i64 (fstTo (hbP (fun k => (R k).s) x) n)) ∧ w = w' := by
  go_enter Try.func37, Try.ntmps37
  go_wp2
  go_loop [5] (fun i => ∃ k : Nat, k ≤ n ∧ i = .int .i64 k ∧ Hid (∀ t, t < k → hbP (fun k => (R k).s) x t = false)) (fun i => n - (intOf i).toNat)
  case atStart => exact ⟨0, Nat.zero_le _, rfl, fun t ht => absurd ht (Nat.not_lt_zero _)⟩
  case round =>
    obtain ⟨k, hk, rfl, HN⟩ := hrel
    by_cases hlt : k < n
    · obtain rfl := ha (by omega)
      obtain ⟨g0, g1, g2, g3, g4, g5, g6⟩ := hl.seven hlt
      have hrd := (hl.rd k hlt).sid
      have hlt' : (k : Int) < (n : Int) := by omega
      clear hl g0 g1 g4 g5 g6
      cases h1 : isHub (R k).s.src with
      | false =>
        have HH : Hid (hbP (fun k => (R k).s) x k = false) := by show _ = _; simp [hbP, h1]
        unfold isHub at h1
        clear hrd
        go_wp2
        go_round
        case rel => exact ⟨k + 1, by omega, by go_num, fun t ht => by
          by_cases e : t = k
          · subst e; exact HH.out
          · exact HN.out t (by omega)⟩
        case measure => simp [intOf]; omega
      | true =>
      rcases hrd with ⟨hp, hv⟩ | ⟨b1, o1, y, hp, hv, hcx⟩
      · have HH : Hid (hbP (fun k => (R k).s) x k = false) := by show _ = _; simp [hbP, h1, sidIs, hv]
        unfold isHub at h1
        rw [hp] at g3
        clear hp hv
        go_wp2
        go_round
        case rel => exact ⟨k + 1, by omega, by go_num, fun t ht => by
          by_cases e : t = k
          · subst e; exact HH.out
          · exact HN.out t (by omega)⟩
        case measure => simp [intOf]; omega
      rw [hp] at g3
      cases h2 : (y.toList == x.toList) with
      | false =>
        have HH : Hid (hbP (fun k => (R k).s) x k = false) := by show _ = _; simp only [hbP, h1, sidIs, hv, h2]; rfl
        unfold isHub at h1
        clear hp hv
        go_wp2
        go_round
        case rel => exact ⟨k + 1, by omega, by go_num, fun t ht => by
          by_cases e : t = k
          · subst e; exact HH.out
          · exact HN.out t (by omega)⟩
        case measure => simp [intOf]; omega
      | true =>
        have HH : Hid (hbP (fun k => (R k).s) x k = true) := by show _ = _; simp only [hbP, h1, sidIs, hv, h2]; rfl
        unfold isHub at h1
        clear hp hv
        go_wp2
        go_ret
        exact ⟨by rw [fstTo_hit HH.out HN.out n hlt]; rfl, rfl⟩
    · obtain rfl : n = k := by omega
      clear hl
      go_wp2
      go_ret
      exact ⟨by rw [fstTo_none n HN.out]; rfl, rfl⟩
end Go.Proofs.Qxb6613557a
