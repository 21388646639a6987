/-
  slices.Index, Contains, IndexFunc, ContainsFunc at []string; (Caller).entitledTo; zzEntitled. Own text.
-/
import Derived.Test.Qxb6613557aSizes
namespace Go.Proofs.Qxb6613557a
open Go.RowKit
set_option linter.unusedVariables false
set_option linter.unusedSimpArgs false

/-- The text x is among T. -/
def hit (T : List ByteArray) (x : ByteArray) : Bool := T.any (fun t => x.toList == t.toList)

/-- One of L is among T. -/
def anyHit (T L : List ByteArray) : Bool := L.any (hit T)

theorem getD_at {α : Type} (l : List α) (d : α) (k : Nat) (hk : k < l.length) : l.getD k d = l[k] := by simp [List.getD, hk]
theorem any_split {α : Type} (l : List α) (p : α → Bool) (d : α) (k : Nat) (hk : k < l.length) (h : p (l.getD k d) = true) : l.any p = true := by
  rw [List.any_eq_true]
  exact ⟨l.getD k d, by rw [getD_at l d k hk]; exact List.getElem_mem hk, h⟩
theorem any_none {α : Type} (l : List α) (p : α → Bool) (d : α) (h : ∀ k, k < l.length → p (l.getD k d) = false) : l.any p = false := by
  rw [List.any_eq_false]
  intro x hx
  obtain ⟨k, hk, rfl⟩ := List.getElem_of_mem hx
  have := h k hk
  rw [getD_at l d k hk] at this
  simp [this]

set_option maxHeartbeats 1000000 in
theorem index56 (a : Option Addr) (n c : Nat) (T : List ByteArray) (x : ByteArray) (w : World) (hn : n ≤ 9223372036854775807) (hs : SStr w a n T) :
    Calls Try.prog 56 #[.slice a n c, .string x] w fun e w' => (∃ z : Int, e = .returned (.int .i64 z) ∧ (z < 0 → hit T x = false) ∧ (0 ≤ z → hit T x = true)) ∧ w = w' := by
  go_enter Try.func56, Try.ntmps56
  go_wp2
  go_loop [8] (fun i => ∃ k : Nat, k ≤ n ∧ i = .int .i64 k ∧ Hid (∀ t, t < k → (x.toList == (T.getD t ⟨#[]⟩).toList) = false)) (fun i => n - (intOf i).toNat)
  case atStart => exact ⟨0, Nat.zero_le _, rfl, fun t ht => absurd ht (Nat.not_lt_zero _)⟩
  case round =>
    obtain ⟨k, hk, rfl, HN⟩ := hrel
    by_cases hlt : k < n
    · obtain ⟨b, o, rfl, hc⟩ := hs.2 (by omega)
      have g := hc k hlt
      have hlt' : (k : Int) < (n : Int) := by omega
      have HL : Hid (n = T.length) := hs.1
      clear hs hc
      cases hh : (x.toList == (T.getD k ⟨#[]⟩).toList) with
      | true =>
        have HH : Hid ((x.toList == (T.getD k ⟨#[]⟩).toList) = true) := hh
        generalize T.getD k ⟨#[]⟩ = y at g hh
        go_wp2
        go_ret
        exact ⟨⟨_, rfl, fun h => by omega, fun _ => any_split T _ ⟨#[]⟩ k (by have := HL.out; omega) HH.out⟩, rfl⟩
      | false =>
        have HH : Hid ((x.toList == (T.getD k ⟨#[]⟩).toList) = false) := hh
        generalize T.getD k ⟨#[]⟩ = y at g hh
        go_wp2
        go_round
        case rel => exact ⟨k + 1, by omega, by go_num, fun t ht => by
          by_cases e : t = k
          · subst e; exact HH.out
          · exact HN.out t (by omega)⟩
        case measure => simp [intOf]; omega
    · have HL : Hid (n = T.length) := hs.1
      clear hs
      go_wp2
      go_ret
      exact ⟨⟨_, rfl, fun _ => any_none T _ ⟨#[]⟩ (fun t ht => HN.out t (by have := HL.out; omega)), fun h => by omega⟩, rfl⟩

theorem contains52 (a : Option Addr) (n c : Nat) (T : List ByteArray) (x : ByteArray) (w : World) (hn : n ≤ 9223372036854775807) (hs : SStr w a n T) :
    Calls Try.prog 52 #[.slice a n c, .string x] w fun e w' => e = .returned (.bool (hit T x)) ∧ w = w' := by
  go_enter Try.func52, Try.ntmps52
  go_wp2_with fail
  refine (index56 a n c T x _ hn hs).mono ?_
  rintro e w' ⟨⟨z, rfl, h1, h2⟩, rfl⟩
  by_cases hz : 0 ≤ z
  · have HH : Hid (hit T x = true) := h2 hz
    clear h1 h2
    go_wp2
    go_ret
    exact ⟨by rw [HH.out]; simp [hz], rfl⟩
  · have HH : Hid (hit T x = false) := h1 (by omega)
    clear h1 h2
    go_wp2
    go_ret
    exact ⟨by rw [HH.out]; simp [hz], rfl⟩

/-- The closure of entitledTo: is the team among the caller's? -/
theorem closure51 (b o : Nat) (a : Option Addr) (n c : Nat) (T : List ByteArray) (x : ByteArray) (w : World) (hn : n ≤ 9223372036854775807) (hc : w.cell? ⟨b, o + 1, none⟩ = some (.slice a n c)) (hs : SStr w a n T) :
    Calls Try.prog 51 #[.string x, .pointer (some ⟨b, o, none⟩)] w fun e w' => e = .returned (.bool (hit T x)) ∧ w = w' := by
  go_enter Try.func51, Try.ntmps51
  go_wp2_with fail
  refine (contains52 a n c T x _ hn hs).mono ?_
  rintro e w' ⟨rfl, rfl⟩
  go_wp2
  go_ret
  exact ⟨rfl, rfl⟩

set_option maxHeartbeats 1000000 in
theorem indexFunc55 (sa : Option Addr) (sn sc : Nat) (L : List ByteArray) (b o : Nat) (a : Option Addr) (n c : Nat) (T : List ByteArray) (w : World) (hsn : sn ≤ 9223372036854775807) (hL : SStr w sa sn L) (hn : n ≤ 9223372036854775807)
    (hc : w.cell? ⟨b, o + 1, none⟩ = some (.slice a n c)) (hs : SStr w a n T) :
    Calls Try.prog 55 #[.slice sa sn sc, .func (.func 51) #[] #[.pointer (some ⟨b, o, none⟩)]] w fun e w' => (∃ z : Int, e = .returned (.int .i64 z) ∧ (z < 0 → anyHit T L = false) ∧ (0 ≤ z → anyHit T L = true)) ∧ w = w' := by
  go_enter Try.func55, Try.ntmps55
  go_wp2
  go_loop [8] (fun i => ∃ k : Nat, k ≤ sn ∧ i = .int .i64 k ∧ Hid (∀ t, t < k → hit T (L.getD t ⟨#[]⟩) = false)) (fun i => sn - (intOf i).toNat)
  case atStart => exact ⟨0, Nat.zero_le _, rfl, fun t ht => absurd ht (Nat.not_lt_zero _)⟩
  case round =>
    obtain ⟨k, hk, rfl, HN⟩ := hrel
    by_cases hlt : k < sn
    · obtain ⟨b2, o2, rfl, hcL⟩ := hL.2 (by omega)
      have g := hcL k hlt
      have hlt' : (k : Int) < (sn : Int) := by omega
      have HL : Hid (sn = L.length) := hL.1
      clear hL hcL
      obtain ⟨y, hy⟩ : ∃ y, L.getD k ⟨#[]⟩ = y := ⟨_, rfl⟩
      rw [hy] at g
      have HY : Hid (L.getD k ⟨#[]⟩ = y) := hy
      clear hy
      go_wp2_with fail
      refine (closure51 b o a n c T y _ hn hc hs).mono ?_
      rintro e w' ⟨rfl, rfl⟩
      cases hh : hit T y with
      | true =>
        have HH : Hid (hit T y = true) := hh
        clear hh
        go_wp2
        go_ret
        exact ⟨⟨_, rfl, fun h => by omega, fun _ => any_split L _ ⟨#[]⟩ k (by have := HL.out; omega) (by rw [HY.out]; exact HH.out)⟩, rfl⟩
      | false =>
        have HH : Hid (hit T y = false) := hh
        clear hh
        go_wp2
        go_round
        case rel => exact ⟨k + 1, by omega, by go_num, fun t ht => by
          by_cases e : t = k
          · subst e; rw [HY.out]; exact HH.out
          · exact HN.out t (by omega)⟩
        case measure => simp [intOf]; omega
    · have HL : Hid (sn = L.length) := hL.1
      clear hL
      go_wp2
      go_ret
      exact ⟨⟨_, rfl, fun _ => any_none L _ ⟨#[]⟩ (fun t ht => HN.out t (by have := HL.out; omega)), fun h => by omega⟩, rfl⟩

theorem containsFunc50 (sa : Option Addr) (sn sc : Nat) (L : List ByteArray) (b o : Nat) (a : Option Addr) (n c : Nat) (T : List ByteArray) (w : World) (hsn : sn ≤ 9223372036854775807) (hL : SStr w sa sn L) (hn : n ≤ 9223372036854775807)
    (hc : w.cell? ⟨b, o + 1, none⟩ = some (.slice a n c)) (hs : SStr w a n T) :
    Calls Try.prog 50 #[.slice sa sn sc, .func (.func 51) #[] #[.pointer (some ⟨b, o, none⟩)]] w fun e w' => e = .returned (.bool (anyHit T L)) ∧ w = w' := by
  go_enter Try.func50, Try.ntmps50
  go_wp2_with fail
  refine (indexFunc55 sa sn sc L b o a n c T _ hsn hL hn hc hs).mono ?_
  rintro e w' ⟨⟨z, rfl, h1, h2⟩, rfl⟩
  by_cases hz : 0 ≤ z
  · have HH : Hid (anyHit T L = true) := h2 hz
    clear h1 h2
    go_wp2
    go_ret
    exact ⟨by rw [HH.out]; simp [hz], rfl⟩
  · have HH : Hid (anyHit T L = false) := h1 (by omega)
    clear h1 h2
    go_wp2
    go_ret
    exact ⟨by rw [HH.out]; simp [hz], rfl⟩

/-- Is the owner the user? -/
def owns (u : ByteArray) (s : Sk) : Bool := match s.own with
  | some x => x.toList == u.toList
  | none => false
/-- The visibility rule. -/
def ent (u : ByteArray) (T : List ByteArray) (s : Sk) : Bool :=
  if isGlobal s.vis then true else if isTeam s.vis then anyHit T (s.teams.getD []) else if isPersonal s.vis then (!u.toList.isEmpty && owns u s) else false


set_option maxHeartbeats 2000000 in
theorem entitled42 (u : ByteArray) (a : Option Addr) (n c : Nat) (T : List ByteArray) (r : Raw) (w : World) (hn : n ≤ 9223372036854775807) (hs : SStr w a n T) (hr : Rd w r) (ht : r.tl ≤ 9223372036854775807) :
    Calls Try.prog 42 #[.agg #[.string u, .slice a n c], r.val] w fun e w' => e = .returned (.bool (ent u T r.s)) ∧ Ext w w' := by
  have k5 := r.get5
  have k6 := r.get6
  have k7 := r.get7
  have hx := ((Ext.refl w).alloc (.cells #[.string u, .slice a n c] 46)).alloc (.cells r.arr 42)
  cases h1 : isGlobal r.s.vis with
  | true =>
    have HE : Hid (ent u T r.s = true) := by show _ = _; simp [ent, h1]
    unfold isGlobal at h1
    go_enter Try.func42, Try.ntmps42
    go_wp2
    go_ret
    exact ⟨by rw [HE.out]; rfl, hx⟩
  | false =>
  cases h2 : isTeam r.s.vis with
  | true =>
    have HE : Hid (ent u T r.s = anyHit T (r.s.teams.getD [])) := by show _ = _; simp [ent, h1, h2]
    unfold isGlobal at h1
    unfold isTeam at h2
    have hss := hr.tm.sstr
    go_enter Try.func42, Try.ntmps42
    go_wp2_with fail
    refine (containsFunc50 r.tm r.tl r.tc (r.s.teams.getD []) w.heap.size 0 a n c T _ ht (hss.ext hx) hn (by simp) (hs.ext hx)).mono ?_
    rintro e w' ⟨rfl, rfl⟩
    go_wp2
    go_ret
    exact ⟨by rw [HE.out]; rfl, hx⟩
  | false =>
  cases h3 : isPersonal r.s.vis with
  | false =>
    have HE : Hid (ent u T r.s = false) := by show _ = _; simp [ent, h1, h2, h3]
    unfold isGlobal at h1
    unfold isTeam at h2
    unfold isPersonal at h3
    go_enter Try.func42, Try.ntmps42
    go_wp2
    go_ret
    exact ⟨by rw [HE.out]; rfl, hx⟩
  | true =>
  have HE : Hid (ent u T r.s = (!u.toList.isEmpty && owns u r.s)) := by show _ = _; simp [ent, h1, h2, h3]
  unfold isGlobal at h1
  unfold isTeam at h2
  unfold isPersonal at h3
  cases h4 : u.toList.isEmpty with
  | true =>
    rw [h4] at HE
    go_enter Try.func42, Try.ntmps42
    go_wp2
    go_quiet (fail)
    go_wp2
    go_ret
    exact ⟨by rw [HE.out]; rfl, hx.drewN _⟩
  | false =>
  rcases hr.own with ⟨h5, h5'⟩ | ⟨b5, o5, s5, h5, h5', g5⟩
  · have HE2 : Hid (owns u r.s = false) := by show _ = _; simp [owns, h5']
    rw [h5] at k7
    go_enter Try.func42, Try.ntmps42
    go_wp2
    go_quiet (fail)
    go_wp2
    go_ret
    exact ⟨by rw [HE.out, HE2.out, h4]; rfl, hx.drewN _⟩
  · have HE2 : Hid (owns u r.s = (s5.toList == u.toList)) := by show _ = _; simp [owns, h5']
    rw [h5] at k7
    have l5 := World.block_lt_of_cell? _ _ g5
    go_enter Try.func42, Try.ntmps42
    go_wp2
    go_quiet (fail)
    go_wp2
    go_ret
    exact ⟨by rw [HE.out, HE2.out, h4]; rfl, hx.drewN _⟩

set_option maxHeartbeats 2000000 in
theorem zzEntitled (u : ByteArray) (a : Option Addr) (n c : Nat) (T : List ByteArray) (r : Raw) (w : World) (hn : n ≤ 9223372036854775807) (hs : SStr w a n T) (hr : Rd w r) (ht : r.tl ≤ 9223372036854775807) :
    Calls Try.prog 15 #[.string u, .slice a n c, r.valIn] w fun e w' => e = .returned (.bool (ent u T r.s)) ∧ Ext w w' := by
  unfold Raw.valIn
  have hx := (Ext.refl w).alloc (.cells #[.string r.s.id, .string r.s.name, .string r.s.src, .pointer r.sid, .string r.s.vis, .slice r.tm r.tl r.tc, .pointer r.own] 26)
  cases h1 : isGlobal r.s.vis with
  | true =>
    have HE : Hid (ent u T r.s = true) := by show _ = _; simp [ent, h1]
    unfold isGlobal at h1
    go_enter Try.func15, Try.ntmps15
    go_wp2
    go_ret
    exact ⟨by rw [HE.out]; rfl, hx⟩
  | false =>
  cases h2 : isTeam r.s.vis with
  | true =>
    have HE : Hid (ent u T r.s = anyHit T (r.s.teams.getD [])) := by show _ = _; simp [ent, h1, h2]
    unfold isGlobal at h1
    unfold isTeam at h2
    have hss := hr.tm.sstr.ext hx
    replace hs := hs.ext hx
    have c5 : (w.alloc (.cells #[.string r.s.id, .string r.s.name, .string r.s.src, .pointer r.sid, .string r.s.vis, .slice r.tm r.tl r.tc, .pointer r.own] 26)).cell? ⟨w.heap.size, 5, none⟩ = some (.slice r.tm r.tl r.tc) := by simp
    go_enter Try.func15, Try.ntmps15
    go_wp2
    generalize w.alloc (.cells #[.string r.s.id, .string r.s.name, .string r.s.src, .pointer r.sid, .string r.s.vis, .slice r.tm r.tl r.tc, .pointer r.own] 26) = w1 at *
    generalize w.heap.size = N at c5 ⊢
    clear h1 h2 hr
    go_loopw [7] (fun i wr => ∃ k q : Nat, k ≤ r.tl ∧ i = .int .i64 k ∧ wr = w1.drewN q ∧ Hid (∀ t, t < k → hit T ((r.s.teams.getD []).getD t ⟨#[]⟩) = false)) (fun i _ => r.tl - (intOf i).toNat)
    case atStart => exact ⟨0, 0, Nat.zero_le _, rfl, rfl, fun t ht => absurd ht (Nat.not_lt_zero _)⟩
    case round =>
      obtain ⟨k, q, hk, rfl, rfl, HN⟩ := hrel
      by_cases hlt : k < r.tl
      · obtain ⟨b2, o2, hab, hcL⟩ := hss.2 (by omega)
        have g := hcL k hlt
        rw [hab] at c5
        have hlt' : (k : Int) < (r.tl : Int) := by omega
        have HL : Hid (r.tl = (r.s.teams.getD []).length) := hss.1
        clear hss hcL hab
        obtain ⟨y, hy⟩ : ∃ y, (r.s.teams.getD []).getD k ⟨#[]⟩ = y := ⟨_, rfl⟩
        rw [hy] at g
        have HY : Hid ((r.s.teams.getD []).getD k ⟨#[]⟩ = y) := hy
        clear hy
        go_wp2
        go_loopw [8] (fun i wr => ∃ j q : Nat, j ≤ n ∧ i = .int .i64 j ∧ wr = w1.drewN q ∧ Hid (∀ t, t < j → (y.toList == (T.getD t ⟨#[]⟩).toList) = false)) (fun i _ => n - (intOf i).toNat)
        case atStart => exact ⟨0, q, Nat.zero_le _, rfl, rfl, fun t ht => absurd ht (Nat.not_lt_zero _)⟩
        case round =>
          obtain ⟨j, q2, hj, rfl, rfl, HM⟩ := hrel
          by_cases hlj : j < n
          · obtain ⟨b3, o3, rfl, hcT⟩ := hs.2 (by omega)
            have g2 := hcT j hlj
            have hlj' : (j : Int) < (n : Int) := by omega
            have HL2 : Hid (n = T.length) := hs.1
            clear hs hcT
            obtain ⟨x, hxx⟩ : ∃ x, T.getD j ⟨#[]⟩ = x := ⟨_, rfl⟩
            rw [hxx] at g2
            have HX : Hid (T.getD j ⟨#[]⟩ = x) := hxx
            clear hxx
            cases hh : (y.toList == x.toList) with
            | true =>
              have HH : Hid ((y.toList == x.toList) = true) := hh
              go_wp2
              go_quiet (fail)
              go_wp2
              go_ret
              exact ⟨by rw [HE.out, show anyHit T (r.s.teams.getD []) = true from any_split _ _ ⟨#[]⟩ k (by have := HL.out; omega) (by rw [HY.out]; exact any_split T _ ⟨#[]⟩ j (by have := HL2.out; omega) (by rw [HX.out]; exact HH.out))]; rfl, (hx.drewN _).drewN _⟩
            | false =>
              have HH : Hid ((y.toList == x.toList) = false) := hh
              go_wp2
              go_quiet (fail)
              go_wp2
              go_roundw
              case rel => exact ⟨j + 1, _, by omega, by go_num, rfl, fun t ht => by
                by_cases e : t = j
                · subst e; rw [HX.out]; exact HH.out
                · exact HM.out t (by omega)⟩
              case measure => simp [intOf]; omega
          · have HL2 : Hid (n = T.length) := hs.1
            clear hs
            go_wp2
            go_roundw
            case rel => exact ⟨k + 1, _, by omega, by go_num, rfl, fun t ht => by
              by_cases e : t = k
              · subst e; rw [HY.out]; exact any_none T _ ⟨#[]⟩ (fun t ht => HM.out t (by have := HL2.out; omega))
              · exact HN.out t (by omega)⟩
            case measure => simp [intOf]; omega
      · have HL : Hid (r.tl = (r.s.teams.getD []).length) := hss.1
        clear hss
        go_wp2
        go_ret
        exact ⟨by rw [HE.out, show anyHit T (r.s.teams.getD []) = false from any_none _ _ ⟨#[]⟩ (fun t ht => HN.out t (by have := HL.out; omega))]; rfl, hx.drewN _⟩
  | false =>
  cases h3 : isPersonal r.s.vis with
  | false =>
    have HE : Hid (ent u T r.s = false) := by show _ = _; simp [ent, h1, h2, h3]
    unfold isGlobal at h1
    unfold isTeam at h2
    unfold isPersonal at h3
    go_enter Try.func15, Try.ntmps15
    go_wp2
    go_ret
    exact ⟨by rw [HE.out]; rfl, hx⟩
  | true =>
  have HE : Hid (ent u T r.s = (!u.toList.isEmpty && owns u r.s)) := by show _ = _; simp [ent, h1, h2, h3]
  unfold isGlobal at h1
  unfold isTeam at h2
  unfold isPersonal at h3
  cases h4 : u.toList.isEmpty with
  | true =>
    rw [h4] at HE
    go_enter Try.func15, Try.ntmps15
    go_wp2
    go_ret
    exact ⟨by rw [HE.out]; rfl, hx⟩
  | false =>
  rcases hr.own with ⟨h5, h5'⟩ | ⟨b5, o5, s5, h5, h5', g5⟩
  · have HE2 : Hid (owns u r.s = false) := by show _ = _; simp [owns, h5']
    rw [h5]
    rw [h5] at hx
    clear h5 h5' hr
    go_enter Try.func15, Try.ntmps15
    go_wp2
    go_ret
    exact ⟨by rw [HE.out, HE2.out, h4]; rfl, hx⟩
  · have HE2 : Hid (owns u r.s = (s5.toList == u.toList)) := by show _ = _; simp [owns, h5']
    rw [h5]
    rw [h5] at hx
    clear h5 h5' hr
    have l5 := World.block_lt_of_cell? _ _ g5
    go_enter Try.func15, Try.ntmps15
    go_wp2
    go_ret
    exact ⟨by rw [HE.out, HE2.out, h4]; rfl, hx⟩
end Go.Proofs.Qxb6613557a
