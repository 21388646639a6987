/-
  Source.rank, place, hubReportID; the closures of HiddenBy and SkillsFor and the slices functions that call them. Own text.
-/
import Derived.Test.Qxb6613557aBuild2
import Derived.Test.Qxb6613557aEnt
import Derived.Deep.RegionHeld3
namespace Go.Proofs.Qxb6613557a
open Go.RowKit
set_option linter.unusedVariables false

theorem build96 (w : World) : (Instr.buildSlice 96 3 #[(0, .string ⟨#[100, 101, 102, 97, 117, 108, 116]⟩), (1, .string ⟨#[97, 103, 101, 110, 116, 95, 115, 107, 105, 108, 108, 115]⟩), (2, .string ⟨#[104, 117, 98]⟩)]).run Try.prog w
    = .ok (.slice (some ⟨w.heap.size, 0, none⟩) 3 3) (w.alloc (.cells #[.string ⟨#[100, 101, 102, 97, 117, 108, 116]⟩, .string ⟨#[97, 103, 101, 110, 116, 95, 115, 107, 105, 108, 108, 115]⟩, .string ⟨#[104, 117, 98]⟩] 34)) := by kernel_rfl

set_option maxHeartbeats 1000000 in
theorem index54 (b : Nat) (x : ByteArray) (w : World) (h0 : w.cell? ⟨b, 0, none⟩ = some (.string ⟨#[100, 101, 102, 97, 117, 108, 116]⟩)) (h1 : w.cell? ⟨b, 1, none⟩ = some (.string ⟨#[97, 103, 101, 110, 116, 95, 115, 107, 105, 108, 108, 115]⟩)) (h2 : w.cell? ⟨b, 2, none⟩ = some (.string ⟨#[104, 117, 98]⟩)) :
    Calls Try.prog 54 #[.slice (some ⟨b, 0, none⟩) 3 3, .string x] w fun e w' => e = .returned (.int .i64 (rank x)) ∧ w = w' := by
  go_enter Try.func54, Try.ntmps54
  go_wp2
  go_loop [8] (fun i => ∃ k : Nat, k ≤ 3 ∧ i = .int .i64 k ∧ Hid ((0 < k → isDefault x = false) ∧ (1 < k → isCustom x = false) ∧ (2 < k → isHub x = false))) (fun i => 3 - (intOf i).toNat)
  case atStart => exact ⟨0, Nat.zero_le _, rfl, fun h => by omega, fun h => by omega, fun h => by omega⟩
  case round =>
    obtain ⟨k, hk, rfl, HN⟩ := hrel
    obtain rfl | rfl | rfl | rfl : k = 0 ∨ k = 1 ∨ k = 2 ∨ k = 3 := by omega
    · cases hh : isDefault x with
      | true =>
        have HR : Hid (rank x = 0) := by show _ = _; simp [rank, hh]
        unfold isDefault at hh
        go_wp2
        go_ret
        exact ⟨by rw [HR.out]; rfl, rfl⟩
      | false =>
        have HH : Hid (isDefault x = false) := hh
        unfold isDefault at hh
        go_wp2
        go_round
        case rel => exact ⟨1, by omega, by go_num, fun _ => by first | trivial | exact HH.out, fun h => by omega, fun h => by omega⟩
        case measure => simp [intOf]
    · have HD := HN.out.1 (by omega)
      cases hh : isCustom x with
      | true =>
        have HR : Hid (rank x = 1) := by show _ = _; simp [rank, hh, HD]
        clear HD
        unfold isCustom at hh
        go_wp2
        go_ret
        exact ⟨by rw [HR.out]; rfl, rfl⟩
      | false =>
        have HH : Hid (isCustom x = false) := hh
        have HD' : Hid (isDefault x = false) := HD
        clear HD
        unfold isCustom at hh
        go_wp2
        go_round
        case rel => exact ⟨2, by omega, by go_num, fun _ => by first | trivial | exact HD'.out, fun _ => by first | trivial | exact HH.out, fun h => by omega⟩
        case measure => simp [intOf]
    · have HD := HN.out.1 (by omega)
      have HC := HN.out.2.1 (by omega)
      cases hh : isHub x with
      | true =>
        have HR : Hid (rank x = 2) := by show _ = _; simp [rank, hh, HD, HC]
        clear HD HC
        unfold isHub at hh
        go_wp2
        go_ret
        exact ⟨by rw [HR.out]; rfl, rfl⟩
      | false =>
        have HH : Hid (isDefault x = false ∧ isCustom x = false ∧ isHub x = false) := ⟨HD, HC, hh⟩
        clear HD HC
        unfold isHub at hh
        go_wp2
        go_round
        case rel => exact ⟨3, by omega, by go_num, fun _ => by first | trivial | exact HH.out.1, fun _ => by first | trivial | exact HH.out.2.1, fun _ => by first | trivial | exact HH.out.2.2⟩
        case measure => simp [intOf]
    · have HR : Hid (rank x = -1) := by
        show _ = _
        simp [rank, HN.out.1, HN.out.2.1, HN.out.2.2]
      go_wp2
      go_ret
      exact ⟨by rw [HR.out]; rfl, rfl⟩

theorem rank46 (x : ByteArray) (w : World) :
    Calls Try.prog 46 #[.string x] w fun e w' => e = .returned (.int .i64 (rank x)) ∧ Ext w w' := by
  have hb := build96 w
  go_enter Try.func46, Try.ntmps46
  go_wp2_with (fail)
  refine (index54 w.heap.size x _ (by simp) (by simp) (by simp)).mono ?_
  rintro e w' ⟨rfl, rfl⟩
  go_wp2
  go_ret
  exact ⟨rfl, (Ext.refl w).alloc _⟩

theorem place47 (M n : Nat) (K : List (List UInt8)) (x : ByteArray) (w : World) (hM : MO w M n K) (hx : x.size ≤ 2147483648) :
    Calls Try.prog 47 #[.map (some M), .string x] w fun e w' => e = .returned (.int .i64 (K.idxOf x.toList : Nat)) ∧ w = w' := by
  cases hgt : K.contains x.toList with
  | true =>
    have HG : Hid (x.toList ∈ K) := by show _ ∈ _; simpa using hgt
    go_enter Try.func47, Try.ntmps47
    go_wp2_with (at_lookup; refine wp_lookO hM hx rfl rfl rfl rfl ?_; rw [hgt]; intro c0 hc0)
    go_ret
    exact ⟨by rw [hc0 HG.out]; rfl, rfl⟩
  | false =>
    have HG : Hid (x.toList ∉ K) := by show ¬ _; simpa using hgt
    go_enter Try.func47, Try.ntmps47
    go_wp2_with (first | (at_lookup; refine wp_lookO hM hx rfl rfl rfl rfl ?_; rw [hgt]; intro c0 hc0) | (at_len; refine wp_lenO hM rfl rfl rfl ?_))
    go_ret
    exact ⟨by rw [List.idxOf_eq_length HG.out]; rfl, rfl⟩

/-- A hub skill's key: its hub's, or the empty text. -/
def repKey (s : Sk) : List UInt8 := match s.sid with
  | some x => hubKey x
  | none => []
theorem hubReport48 (r : Raw) (w : World) (hr : Rd w r) (hs : Small r.s) :
    Calls Try.prog 48 #[r.val] w fun e w' => ∃ y : ByteArray, e = .returned (.string y) ∧ y.toList = repKey r.s ∧ y.size ≤ 2147483648 ∧ w' = w.alloc (.cells r.arr 42) := by
  have k4 := r.get4
  rcases hr.sid with ⟨h5, h5'⟩ | ⟨b5, o5, s5, h5, h5', g5⟩
  · have HE : Hid (repKey r.s = []) := by show _ = _; rw [repKey, h5']
    rw [h5] at k4
    go_enter Try.func48, Try.ntmps48
    go_wp2
    go_ret
    exact ⟨_, rfl, by rw [HE.out, ByteArray.toList_eq], by decide, rfl⟩
  · have HE : Hid (repKey r.s = hubKey s5) := by show _ = _; rw [repKey, h5']
    rw [h5] at k4
    have hx5 := hs.sid _ h5'
    have l5 := World.block_lt_of_cell? _ _ g5
    go_enter Try.func48, Try.ntmps48
    go_wp2_with (fail)
    refine (hubSourceID s5 _ hx5).mono ?_
    rintro e wy ⟨y, rfl, hy, hys, rfl⟩
    have HY : Hid (y.toList = hubKey s5) := hy
    clear hy
    go_wp2
    go_ret
    exact ⟨_, rfl, by rw [HE.out]; exact HY.out, hys, rfl⟩

theorem hid33 (r : Raw) (b : Nat) (x : ByteArray) (w : World) (hc : w.cell? ⟨b, 1, none⟩ = some (.string x)) :
    Calls Try.prog 33 #[r.val, .pointer (some ⟨b, 0, none⟩)] w fun e w' => e = .returned (.bool (r.s.name.toList == x.toList)) ∧ w' = w.alloc (.cells r.arr 42) := by
  have k1 := r.get1
  have l5 := World.block_lt_of_cell? _ _ hc
  go_enter Try.func33, Try.ntmps33
  go_wp2
  go_ret
  exact ⟨rfl, rfl⟩

/-- The first of L that bears the name, by its place in L; -1 if none does. -/
def Found (S : Nat → Sk) (L : List Nat) (x : List UInt8) (z : Int) : Prop :=
  (∃ j : Nat, z = j ∧ j < L.length ∧ ((S (L.getD j 0)).name.toList == x) = true ∧ ∀ t, t < j → ((S (L.getD t 0)).name.toList == x) = false) ∨ (z = -1 ∧ ∀ t, t < L.length → ((S (L.getD t 0)).name.toList == x) = false)

set_option maxHeartbeats 1000000 in
theorem indexFunc32 (sa : Option Addr) (sn sc : Nat) (L : List Nat) (Rs : Nat → Raw) (b : Nat) (x : ByteArray) (w : World) (hL : L.length = sn) (hsn : sn ≤ 1048576) (hS : SkSl w sa L Rs) (hc : w.cell? ⟨b, 1, none⟩ = some (.string x)) :
    Calls Try.prog 32 #[.slice sa sn sc, .func (.func 33) #[] #[.pointer (some ⟨b, 0, none⟩)]] w fun e w' => ∃ z : Int, e = .returned (.int .i64 z) ∧ Found (fun i => (Rs i).s) L x.toList z ∧ Ext w w' := by
  go_enter Try.func32, Try.ntmps32
  go_wp2
  go_loopw [8] (fun i wr => ∃ k : Nat, k ≤ sn ∧ i = .int .i64 k ∧ Ext w wr ∧ Hid (∀ t, t < k → ((Rs (L.getD t 0)).s.name.toList == x.toList) = false)) (fun i _ => sn - (intOf i).toNat)
  case atStart => exact ⟨0, Nat.zero_le _, rfl, Ext.refl _, fun t ht => absurd ht (Nat.not_lt_zero _)⟩
  case round =>
    obtain ⟨k, hk, rfl, hx, HN⟩ := hrel
    by_cases hlt : k < sn
    · obtain ⟨b2, o2, rfl, hcL⟩ := hS (by omega)
      have g := hx.range (hcL k (by omega))
      have hlt' : (k : Int) < (sn : Int) := by omega
      have HL : Hid (L.length = sn) := hL
      have hc' := hx.cellSome hc
      clear hS hcL hL hc
      obtain ⟨r, hr⟩ : ∃ r, Rs (L.getD k 0) = r := ⟨_, rfl⟩
      rw [hr] at g
      have HY : Hid (Rs (L.getD k 0) = r) := hr
      clear hr
      go_wp2_with ((with_reducible apply load42 r); exact rfl; exact rfl; exact rfl; exact g)
      refine (hid33 r b x _ hc').mono ?_
      rintro e w' ⟨rfl, rfl⟩
      have hx1 := hx.alloc (.cells r.arr 42)
      generalize wr.alloc (.cells r.arr 42) = w1 at *
      cases hh : (r.s.name.toList == x.toList) with
      | true =>
        have HH : Hid ((r.s.name.toList == x.toList) = true) := hh
        clear hh
        go_wp2
        go_ret
        exact ⟨_, rfl, .inl ⟨k, rfl, by rw [HL.out]; exact hlt, by show ((Rs (L.getD k 0)).s.name.toList == x.toList) = true; rw [HY.out]; exact HH.out, HN.out⟩, hx1⟩
      | false =>
        have HH : Hid ((r.s.name.toList == x.toList) = false) := hh
        clear hh
        go_wp2
        go_roundw
        case rel => exact ⟨k + 1, by omega, by go_num, hx1, fun t ht => by
          by_cases e : t = k
          · subst e; rw [HY.out]; exact HH.out
          · exact HN.out t (by omega)⟩
        case measure => simp [intOf]; omega
    · have HL : Hid (L.length = sn) := hL
      clear hL hS
      go_wp2
      go_ret
      exact ⟨_, rfl, .inr ⟨rfl, fun t ht => HN.out t (by have := HL.out; omega)⟩, hx⟩

/-! ### SkillsFor's closure -/
/-- A load of a whole Skill, left shut. -/
noncomputable def L42 (p : Value) : Sem Value := Instr.loadAt 42 p
theorem L42.shut (p : Value) : Instr.loadAt 42 p = L42 p := rfl
theorem L42.of {w : World} {b o : Nat} {r : Raw} (h : w.rangeAt b o r.cells) : (L42 (.pointer (some ⟨b, o, none⟩))).run Try.prog w = .ok r.val w := run_loadAt_mid w _ _ 42 _ _ h Try.underlying42 rfl info42
attribute [local go_sem ↓] L42.shut

set_option maxHeartbeats 1000000 in
theorem closure41 (k bc bp C Bs n : Nat) (u : ByteArray) (a : Option Addr) (m c : Nat) (T : List ByteArray) (Rs : Nat → Raw) (w : World) (hk : k < n) (hn : n ≤ 1048576) (hm : m ≤ 1048576)
    (h0 : w.cell? ⟨bc, 0, none⟩ = some (.string u)) (h1 : w.cell? ⟨bc, 1, none⟩ = some (.slice a m c)) (h2 : w.cell? ⟨bp, 0, none⟩ = some (.pointer (some ⟨C, 0, none⟩))) (h7 : w.cell? ⟨C, 7, none⟩ = some (.slice (some ⟨Bs, 0, none⟩) n n))
    (hR : w.rangeAt Bs (k * 77) (Rs k).cells) (hT : SStr w a m T) (hr : Rd w (Rs k)) (ht : (Rs k).tl ≤ 1048576) :
    Calls Try.prog 41 #[.int .i64 k, .pointer (some ⟨bc, 0, none⟩), .pointer (some ⟨bp, 0, none⟩)] w fun e w' => e = .returned (.bool (ent u T (Rs k).s)) ∧ Ext w w' := by
  have hk1 : (0 : Int) ≤ (k : Int) := by omega
  have hk2 : (k : Int) < (n : Int) := by omega
  have HC : ∃ vv, Hid ((Rs k).val = vv) := ⟨_, rfl⟩
  obtain ⟨vv, HC⟩ := HC
  have HK : Hid (∀ w' : World, Ext w w' → (Ext w w' ∧ w'.cell? ⟨bc, 0, none⟩ = some (.string u) ∧ w'.cell? ⟨bc, 1, none⟩ = some (.slice a m c) ∧ w'.cell? ⟨bp, 0, none⟩ = some (.pointer (some ⟨C, 0, none⟩)) ∧ w'.cell? ⟨C, 7, none⟩ = some (.slice (some ⟨Bs, 0, none⟩) n n) ∧ (L42 (.pointer (some ⟨Bs, k * 77, none⟩))).run Try.prog w' = .ok vv w')) :=
    fun w' e => ⟨e, e.cellSome h0, e.cellSome h1, e.cellSome h2, e.cellSome h7, by rw [← HC.out]; exact L42.of (e.range hR)⟩
  have HE : Hid (∀ w', Ext w w' → Calls Try.prog 42 #[.agg #[.string u, .slice a m c], vv] w' fun e w'' => e = .returned (.bool (ent u T (Rs k).s)) ∧ Ext w' w'') := fun w' e => by
    rw [← HC.out]
    exact entitled42 u a m c T (Rs k) w' (by omega) (hT.ext e) (hr.ext e) (by omega)
  clear hr hT h0 h1 h2 h7 hR
  go_enter Try.func41, Try.ntmps41
  go_wp2
  go_region_held3 (fun w' => Ext w w' ∧ w'.cell? ⟨bc, 0, none⟩ = some (.string u) ∧ w'.cell? ⟨bc, 1, none⟩ = some (.slice a m c) ∧ w'.cell? ⟨bp, 0, none⟩ = some (.pointer (some ⟨C, 0, none⟩)) ∧ w'.cell? ⟨C, 7, none⟩ = some (.slice (some ⟨Bs, 0, none⟩) n n) ∧ (L42 (.pointer (some ⟨Bs, k * 77, none⟩))).run Try.prog w' = .ok vv w')
    ((go_split_ands; refine HK.out _ ?_; first | assumption | exact (Ext.refl _).drew | (apply Ext.drew; assumption) | (refine Ext.trans ?_ (by assumption); assumption)))
    ((go_at_call 42; go_split_ands; refine (HE.out _ (by assumption)).mono ?_; rintro e w2 ⟨rfl, hx2⟩))
  go_split_ands
  go_wp2
  go_ret
  exact ⟨rfl, by assumption⟩
end Go.Proofs.Qxb6613557a
