/-
  zzReachable: what its yes says. Own text.
-/
import Derived.Test.Qxb6613557aSizes
import Derived.Test.Qxb6613557aMap
namespace Go.Proofs.Qxb6613557a
open Go.RowKit
set_option linter.unusedVariables false

/-! ### the plain part -/
theorem rank_hub {s : ByteArray} : rank s = 2 ↔ isHub s = true := by
  unfold rank
  cases h1 : isDefault s with
  | true =>
    have e : isHub s = false := by
      unfold isDefault at h1; unfold isHub
      rw [beq_iff_eq] at h1; rw [h1]; rfl
    simp [e]
  | false =>
    cases h2 : isCustom s with
    | true =>
      have e : isHub s = false := by
        unfold isCustom at h2; unfold isHub
        rw [beq_iff_eq] at h2; rw [h2]; rfl
      simp [e]
    | false => cases h3 : isHub s <;> simp
theorem rank_custom {s : ByteArray} : rank s = 1 ↔ isCustom s = true := by
  unfold rank
  cases h1 : isDefault s with
  | true =>
    have e : isCustom s = false := by
      unfold isDefault at h1; unfold isCustom
      rw [beq_iff_eq] at h1; rw [h1]; rfl
    simp [e]
  | false =>
    cases h2 : isCustom s with
    | true => simp
    | false => cases h3 : isHub s <;> simp
theorem rank_default {s : ByteArray} : rank s = 0 ↔ isDefault s = true := by
  unfold rank
  cases h1 : isDefault s with
  | true => simp
  | false => cases h2 : isCustom s <;> cases h3 : isHub s <;> simp
theorem rank_le {s : ByteArray} : rank s ≤ 2 := by
  unfold rank
  cases h1 : isDefault s <;> cases h2 : isCustom s <;> cases h3 : isHub s <;> simp
theorem custom_not_hub {s : ByteArray} (h : isCustom s = true) : isHub s = false := by
  have := rank_custom.2 h
  cases h3 : isHub s with
  | false => rfl
  | true => have := rank_hub.2 h3; omega

/-- The custom ids among the first k. -/
def custTo (S : Nat → Sk) : Nat → List UInt8 → Bool
  | 0, _ => false
  | k + 1, l => custTo S k l || (isCustom (S k).src && (S k).id.toList == l)
/-- A hub's id. -/
def sidL (s : Sk) : Option (List UInt8) := s.sid.map (·.toList)
/-- The hubs' ids among the first k. -/
def hubTo (S : Nat → Sk) : Nat → List UInt8 → Bool
  | 0, _ => false
  | k + 1, l => hubTo S k l || (isHub (S k).src && sidL (S k) == some l)

theorem custTo_of {S : Nat → Sk} {l : List UInt8} : ∀ {k t : Nat}, t < k → isCustom (S t).src = true → (S t).id.toList = l → custTo S k l = true
  | k + 1, t, ht, hc, hl => by
    unfold custTo
    by_cases e : t = k
    · subst e; simp [hc, hl]
    · simp [custTo_of (show t < k by omega) hc hl]
theorem hubTo_of {S : Nat → Sk} {l : List UInt8} : ∀ {k t : Nat}, t < k → isHub (S t).src = true → sidL (S t) = some l → hubTo S k l = true
  | k + 1, t, ht, hc, hl => by
    unfold hubTo
    by_cases e : t = k
    · subst e; simp [hc, hl]
    · simp [hubTo_of (show t < k by omega) hc hl]

/-- What zzReachable's yes says of the first k. -/
structure Reach (S : Nat → Sk) (k : Nat) : Prop where
  rk : ∀ t, t < k → 0 ≤ rank (S t).src
  so : ∀ t, t + 1 < k → rank (S t).src ≤ rank (S (t + 1)).src
  cu : ∀ i j, i < j → j < k → isCustom (S i).src = true → isCustom (S j).src = true → (S i).id.toList ≠ (S j).id.toList
  hs : ∀ t, t < k → isHub (S t).src = true → ∃ x, (S t).sid = some x
  hc : ∀ p f i, p < f → f < i → i < k → isHub (S p).src = true → isHub (S f).src = true → isHub (S i).src = true → sidL (S p) = sidL (S i) → sidL (S f) = sidL (S i)

/-- .. and what its variables hold then. -/
structure RInv (S : Nat → Sk) (k : Nat) (z : Int) (cu : ByteArray) (ib : Bool) : Prop where
  r : Reach S k
  z0 : 0 ≤ z
  zl : 0 < k → z = rank (S (k - 1)).src
  on : ib = true → 0 < k ∧ isHub (S (k - 1)).src = true ∧ sidL (S (k - 1)) = some cu.toList
  off : ib = false → ∀ t, t < k → isHub (S t).src = false

theorem RInv.start (S : Nat → Sk) (cu : ByteArray) : RInv S 0 0 cu false :=
  ⟨⟨fun t h => by omega, fun t h => by omega, fun i j h1 h2 => by omega, fun t h => by omega, fun p f i h1 h2 h3 => by omega⟩, Int.le_refl _, fun h => by omega, (fun h => by cases h), fun _ t h => by omega⟩

/-- One record more. -/
theorem RInv.next {S : Nat → Sk} {k : Nat} {z : Int} {cu cu' : ByteArray} {ib ib' : Bool} (h : RInv S k z cu ib) (hz : z ≤ rank (S k).src)
    (hcust : isCustom (S k).src = true → custTo S k (S k).id.toList = false)
    (hhub : isHub (S k).src = true → ∃ x, (S k).sid = some x ∧ ib' = true ∧ cu'.toList = x.toList ∧ ((ib = true ∧ x.toList = cu.toList) ∨ hubTo S k x.toList = false))
    (hnot : isHub (S k).src = false → cu' = cu ∧ ib' = ib) : RInv S (k + 1) (rank (S k).src) cu' ib' := by
  have hr := h.r
  refine ⟨⟨fun t ht => ?_, fun t ht => ?_, fun i j h1 h2 hci hcj e => ?_, fun t ht hh => ?_, fun p f i h1 h2 h3 hp hf hi e => ?_⟩, Int.le_trans h.z0 hz, fun _ => by rw [Nat.add_sub_cancel], fun hib => ?_, fun hib t ht => ?_⟩
  · by_cases e : t = k
    · subst e; have := h.z0; omega
    · exact hr.rk t (by omega)
  · by_cases e : t + 1 = k
    · have := h.zl (by omega)
      rw [← e] at this hz
      rw [Nat.add_sub_cancel] at this
      omega
    · exact hr.so t (by omega)
  · by_cases ej : j = k
    · subst ej
      have := custTo_of h1 hci e
      rw [hcust hcj] at this
      cases this
    · exact hr.cu i j h1 (by omega) hci hcj e
  · by_cases e : t = k
    · subst e
      obtain ⟨x, hx, _⟩ := hhub hh
      exact ⟨x, hx⟩
    · exact hr.hs t (by omega) hh
  · by_cases ei : i = k
    · subst ei
      obtain ⟨x, hx, _, _, hc⟩ := hhub hi
      have hxi : sidL (S i) = some x.toList := by simp [sidL, hx]
      rcases hc with ⟨hb, hxc⟩ | hn
      · obtain ⟨_, hl, hs⟩ := h.on hb
        by_cases ef : f = i - 1
        · subst ef
          rw [hs, hxi, hxc]
        · have := hr.hc p f (i - 1) h1 (by omega) (by omega) hp hf hl (by rw [e, hxi, hs, hxc])
          rw [this, hs, hxi, hxc]
      · have := hubTo_of (show p < i by omega) hp (e.trans hxi)
        rw [hn] at this
        cases this
    · exact hr.hc p f i h1 h2 (by omega) hp hf hi e
  · rw [Nat.add_sub_cancel]
    cases hh : isHub (S k).src with
    | true =>
      obtain ⟨x, hx, _, hcx, _⟩ := hhub hh
      exact ⟨by omega, rfl, by simp [sidL, hx, hcx]⟩
    | false =>
      obtain ⟨_, hib'⟩ := hnot hh
      rw [hib'] at hib
      obtain ⟨h0, hl, _⟩ := h.on hib
      have h1 := h.zl h0
      rw [rank_hub.2 hl] at h1
      have := rank_le (s := (S k).src)
      have h2 : rank (S k).src = 2 := by omega
      rw [rank_hub.1 h2] at hh
      cases hh
  · by_cases e : t = k
    · subst e
      cases hh : isHub (S t).src with
      | false => rfl
      | true =>
        obtain ⟨x, _, hb, _⟩ := hhub hh
        rw [hb] at hib
        cases hib
    · cases hh : isHub (S k).src with
      | true =>
        obtain ⟨x, _, hb, _⟩ := hhub hh
        rw [hb] at hib
        cases hib
      | false =>
        obtain ⟨_, hb⟩ := hnot hh
        rw [hb] at hib
        exact h.off hib t (by omega)

/-! ### the walk -/
theorem custTo_succ {S : Nat → Sk} {k : Nat} (h : isCustom (S k).src = true) (l : List UInt8) : (if l = (S k).id.toList then true else custTo S k l) = custTo S (k + 1) l := by
  rw [show custTo S (k + 1) l = (custTo S k l || (isCustom (S k).src && (S k).id.toList == l)) from rfl, h]
  by_cases e : l = (S k).id.toList
  · subst e; simp
  · have e' : ((S k).id.toList == l) = false := beq_eq_false_iff_ne.2 (fun h => e h.symm)
    simp [e, e']
theorem custTo_skip {S : Nat → Sk} {k : Nat} (h : isCustom (S k).src = false) (l : List UInt8) : custTo S k l = custTo S (k + 1) l := by
  rw [custTo, h]; simp
theorem hubTo_succ {S : Nat → Sk} {k : Nat} {x : ByteArray} (h : isHub (S k).src = true) (hx : (S k).sid = some x) (l : List UInt8) : (if l = x.toList then true else hubTo S k l) = hubTo S (k + 1) l := by
  have hs : sidL (S k) = some x.toList := by simp [sidL, hx]
  rw [hubTo, h, hs]
  by_cases e : l = x.toList
  · subst e; simp
  · have e' : (some x.toList == some l) = false := beq_eq_false_iff_ne.2 (fun h => e (by injection h with h; exact h.symm))
    simp [e, e']
theorem hubTo_skip {S : Nat → Sk} {k : Nat} (h : isHub (S k).src = false) (l : List UInt8) : hubTo S k l = hubTo S (k + 1) l := by
  rw [hubTo, h]; simp
theorem hubTo_seen {S : Nat → Sk} {k : Nat} {x : ByteArray} (hx : (S k).sid = some x) (hseen : hubTo S k x.toList = true) (l : List UInt8) : hubTo S k l = hubTo S (k + 1) l := by
  have hs : sidL (S k) = some x.toList := by simp [sidL, hx]
  rw [hubTo, hs]
  by_cases e : l = x.toList
  · subst e; simp [hseen]
  · have e' : (some x.toList == some l) = false := beq_eq_false_iff_ne.2 (fun h => e (by injection h with h; exact h.symm))
    simp [e']

theorem MB.mono {w : World} {b n m : Nat} {f : List UInt8 → Bool} (h : MB w b n f) (hm : n ≤ m) : MB w b m f := by
  obtain ⟨D, ho, hf⟩ := h
  exact ⟨D, ho.mono hm, hf⟩
theorem grown_other {w w' : World} {c b : Nat} (hg : w.grownBy w' (some c)) (hb : b < w.heap.size) (hne : b ≠ c) : w'.heap[b]? = w.heap[b]? := hg.block b hb (fun e => hne (by injection e))

/-- The answer: no; or yes, and 'Reach'. -/
def ReachOk (S : Nat → Sk) (n : Nat) (e : Ending) : Prop := e = .returned (.bool false) ∨ (e = .returned (.bool true) ∧ Reach S n)

/-- zzReachable's own memory. -/
structure RMem (w wr : World) (S : Nat → Sk) (Bc Bh k : Nat) : Prop where
  ext : Ext w wr
  mc : MB wr Bc k (custTo S k)
  mh : MB wr Bh k (hubTo S k)
  lc : w.heap.size ≤ Bc
  lh : w.heap.size ≤ Bh
  ne : Bc ≠ Bh

theorem RMem.call {w wr w' : World} {S : Nat → Sk} {Bc Bh k : Nat} (h : RMem w wr S Bc Bh k) (e : Ext wr w') : RMem w w' S Bc Bh k := ⟨h.ext.trans e, h.mc.ext e, h.mh.ext e, h.lc, h.lh, h.ne⟩

theorem RMem.putC {w w1 w2 : World} {S : Nat → Sk} {Bc Bh k : Nat} (h : RMem w w1 S Bc Bh k) (hM : MB w2 Bc (k + 1) (fun l => if l = (S k).id.toList then true else custTo S k l)) (hg : w1.grownBy w2 (some Bc)) (hc : isCustom (S k).src = true) : RMem w w2 S Bc Bh (k + 1) :=
  ⟨Below.grown h.ext hg h.ext.size (fun j hj => by injection hj with hj; rw [← hj]; exact h.lc), hM.congr (custTo_succ hc),
    (((h.mh.block (grown_other hg h.mh.lt (Ne.symm h.ne))).mono (Nat.le_succ _)).congr (hubTo_skip (custom_not_hub hc))), h.lc, h.lh, h.ne⟩
theorem hub_not_custom {s : ByteArray} (h : isHub s = true) : isCustom s = false := by
  cases e : isCustom s with
  | false => rfl
  | true => rw [custom_not_hub e] at h; cases h
theorem RMem.putH {w w1 w2 : World} {S : Nat → Sk} {Bc Bh k : Nat} {x : ByteArray} (h : RMem w w1 S Bc Bh k) (hM : MB w2 Bh (k + 1) (fun l => if l = x.toList then true else hubTo S k l)) (hg : w1.grownBy w2 (some Bh)) (hc : isHub (S k).src = true) (hx : (S k).sid = some x) : RMem w w2 S Bc Bh (k + 1) :=
  ⟨Below.grown h.ext hg h.ext.size (fun j hj => by injection hj with hj; rw [← hj]; exact h.lh), ((h.mc.block (grown_other hg h.mc.lt h.ne)).mono (Nat.le_succ _)).congr (custTo_skip (hub_not_custom hc)),
    hM.congr (hubTo_succ hc hx), h.lc, h.lh, h.ne⟩
theorem RMem.skip {w w1 : World} {S : Nat → Sk} {Bc Bh k : Nat} (h : RMem w w1 S Bc Bh k) (hc : isCustom (S k).src = false) (hh : ∀ l, hubTo S k l = hubTo S (k + 1) l) : RMem w w1 S Bc Bh (k + 1) :=
  ⟨h.ext, (h.mc.mono (Nat.le_succ _)).congr (custTo_skip hc), (h.mh.mono (Nat.le_succ _)).congr hh, h.lc, h.lh, h.ne⟩

/-- A SkillIn boxed in block P. -/
def InBox (w : World) (P : Nat) (r : Raw) : Prop := w.heap[P]? = some (.cells #[.string r.s.id, .string r.s.name, .string r.s.src, .pointer r.sid, .string r.s.vis, .slice r.tm r.tl r.tc, .pointer r.own] 26 (0, 0))
theorem InBox.new (w : World) (r : Raw) : InBox (w.alloc (.cells #[.string r.s.id, .string r.s.name, .string r.s.src, .pointer r.sid, .string r.s.vis, .slice r.tm r.tl r.tc, .pointer r.own] 26)) w.heap.size r := heap_alloc_last _ _
theorem InBox.cells {w : World} {P : Nat} {r : Raw} (h : InBox w P r) : w.cell? ⟨P, 0, none⟩ = some (.string r.s.id) ∧ w.cell? ⟨P, 1, none⟩ = some (.string r.s.name) ∧ w.cell? ⟨P, 2, none⟩ = some (.string r.s.src) ∧
    w.cell? ⟨P, 3, none⟩ = some (.pointer r.sid) ∧ w.cell? ⟨P, 4, none⟩ = some (.string r.s.vis) ∧ w.cell? ⟨P, 5, none⟩ = some (.slice r.tm r.tl r.tc) ∧ w.cell? ⟨P, 6, none⟩ = some (.pointer r.own) := by
  refine ⟨?_, ?_, ?_, ?_, ?_, ?_, ?_⟩ <;> (rw [cell_of_row _ _ _ _ _ _ h]; rfl)
theorem InBox.block {w w' : World} {P : Nat} {r : Raw} (h : InBox w P r) (e : w'.heap[P]? = w.heap[P]?) : InBox w' P r := e.trans h
theorem InBox.ext {w w' : World} {P : Nat} {r : Raw} (h : InBox w P r) (e : Ext w w') : InBox w' P r := e.blk h
theorem InBox.lt {w : World} {P : Nat} {r : Raw} (h : InBox w P r) : P < w.heap.size := (Array.getElem?_eq_some_iff.1 h).1

set_option maxHeartbeats 4000000 in
set_option maxRecDepth 100000 in
theorem zzReachable (a : Option Addr) (n c b o : Nat) (R : Nat → Raw) (w : World) (hn : n ≤ 1048576) (ha : 0 < n → a = some ⟨b, o, none⟩) (hl : Lst w b o n R) (hsm : ∀ k, k < n → Small (R k).s) :
    Calls Try.prog 10 #[.slice a n c] w fun e w' => ReachOk (fun k => (R k).s) n e ∧ Ext w w' := by
  have hmm := @run_makeMap Try.prog
  have M0 : RMem w ((w.alloc (.map #[] 0)).alloc (.map #[] 0)) (fun k => (R k).s) w.heap.size (w.heap.size + 1) 0 := by
    have h1 := (MB.made w).ext ((Ext.refl _).alloc (.map #[] 0))
    have h2 := MB.made (w.alloc (.map #[] 0))
    rw [show (w.alloc (.map #[] 0)).heap.size = w.heap.size + 1 by simp] at h2
    exact ⟨((Ext.refl w).alloc _).alloc _, h1, h2, by omega, by omega, by omega⟩
  go_enter Try.func10, Try.ntmps10
  go_wp2
  clear hmm
  generalize (w.alloc (.map #[] 0)).alloc (.map #[] 0) = w0 at *
  generalize w.heap.size + 1 = Bh at *
  generalize hBc : w.heap.size = Bc at M0 ⊢
  go_loopw [3, 6, 7, 8] (fun la cu ih i wr => ∃ (k : Nat) (z : Int) (cs : ByteArray) (ib : Bool), k ≤ n ∧ la = .int .i64 z ∧ cu = .string cs ∧ ih = .bool ib ∧ i = .int .i64 k ∧ RMem w wr (fun k => (R k).s) Bc Bh k ∧ Hid (RInv (fun k => (R k).s) k z cs ib)) (fun _ _ _ i _ => n - (intOf i).toNat)
  case atStart => exact ⟨0, 0, _, false, Nat.zero_le _, rfl, rfl, rfl, rfl, M0, RInv.start _ _⟩
  case round =>
    obtain ⟨k, z, cs, ib, hk, rfl, rfl, rfl, rfl, M, HI⟩ := hrel
    clear M0
    by_cases hlt : k < n
    · obtain rfl := ha (by omega)
      obtain ⟨g0, g1, g2, g3, g4, g5, g6⟩ := (hl.ext M.ext).seven hlt
      have hrd := (hl.ext M.ext).rd k hlt
      have hs := hsm k hlt
      have hlt' : (k : Int) < (n : Int) := by omega
      have M1 := M.call ((Ext.refl _).alloc (.cells #[.string (R k).s.id, .string (R k).s.name, .string (R k).s.src, .pointer (R k).sid, .string (R k).s.vis, .slice (R k).tm (R k).tl (R k).tc, .pointer (R k).own] 26))
      have hP := InBox.new wr (R k)
      have hPl : wr.heap.size ≠ Bc := by have := M.mc.lt; omega
      have hPh : wr.heap.size ≠ Bh := by have := M.mh.lt; omega
      go_wp2_with fail
      refine (zzRank _ _).mono ?_
      rintro e w' ⟨rfl, rfl⟩
      generalize wr.alloc (.cells #[.string (R k).s.id, .string (R k).s.name, .string (R k).s.src, .pointer (R k).sid, .string (R k).s.vis, .slice (R k).tm (R k).tl (R k).tc, .pointer (R k).own] 26) = w1 at *
      generalize wr.heap.size = P at *
      clear g0 g1 g2 g3 g4 g5 g6
      have hrd1 : Rd w1 (R k) := (hl.ext M1.ext).rd k hlt
      clear hrd M
      have hid : (R k).s.id.size ≤ 2147483648 := by have := hs.id; omega
      obtain ⟨c0, c1, c2, c3, c4, c5, c6⟩ := hP.cells
      obtain ⟨rz, hrz⟩ : ∃ rz, rank (R k).s.src = rz := ⟨_, rfl⟩
      rw [hrz]
      have HR : Hid (rank (R k).s.src = rz) := hrz
      clear hrz
      by_cases hlast : rz < z
      · go_wp2
        go_ret
        exact ⟨.inl rfl, M1.ext⟩
      have hv : (isGlobal (R k).s.vis = true ∨ (isGlobal (R k).s.vis = false ∧ isTeam (R k).s.vis = true) ∨ (isGlobal (R k).s.vis = false ∧ isTeam (R k).s.vis = false ∧ isPersonal (R k).s.vis = true)) ∨ (isGlobal (R k).s.vis = false ∧ isTeam (R k).s.vis = false ∧ isPersonal (R k).s.vis = false) := by
        cases isGlobal (R k).s.vis <;> cases isTeam (R k).s.vis <;> cases isPersonal (R k).s.vis <;> simp
      unfold isGlobal isTeam isPersonal at hv
      rcases hv with hv | ⟨v1, v2, v3⟩
      rotate_left
      · go_wp2
        go_ret
        exact ⟨.inl rfl, M1.ext⟩
      cases e1 : isCustom (R k).s.src with
      | true =>
        have e2 := custom_not_hub e1
        have E1 : Hid (isCustom (R k).s.src = true ∧ isHub (R k).s.src = false) := ⟨e1, e2⟩
        unfold isCustom at e1
        unfold isHub at e2
        cases hct : custTo (fun k => (R k).s) k (R k).s.id.toList with
        | true =>
          rcases hv with v1 | ⟨v1, v2⟩ | ⟨v1, v2, v3⟩
          all_goals
            go_wp2_with (at_lookup; refine wp_lookB M1.mc hid rfl rfl rfl rfl ?_; rw [hct])
            go_ret
            exact ⟨.inl rfl, M1.ext⟩
        | false =>
          have HC : Hid (custTo (fun k => (R k).s) k (R k).s.id.toList = false) := hct
          rcases hv with v1 | ⟨v1, v2⟩ | ⟨v1, v2, v3⟩
          all_goals
            go_wp2_with (first | (at_lookup; refine wp_lookB M1.mc hid rfl rfl rfl rfl ?_; rw [hct]) | (at_mapUpdate; refine wp_putB M1.mc (by omega) hid rfl rfl rfl rfl rfl ?_; intro w2 hM2 hg2; obtain ⟨d0, d1, d2, d3, d4, d5, d6⟩ := (hP.block (grown_other hg2 hP.lt hPl)).cells))
            go_roundw
            case rel => exact ⟨k + 1, rz, cs, ib, by omega, rfl, rfl, rfl, by go_num, M1.putC hM2 hg2 E1.out.1, by
              have := HI.out.next (cu' := cs) (ib' := ib) (by show z ≤ rank (R k).s.src; rw [HR.out]; omega) (fun _ => HC.out) (fun h => by rw [show isHub (R k).s.src = true from h] at E1; cases E1.out.2) (fun _ => ⟨rfl, rfl⟩)
              rw [show rank ((fun k => (R k).s) k).src = rz from HR.out] at this
              exact this⟩
            case measure => simp [intOf]; omega
      | false =>
      cases e2 : isHub (R k).s.src with
      | false =>
        have E1 : Hid (isCustom (R k).s.src = false ∧ isHub (R k).s.src = false) := ⟨e1, e2⟩
        unfold isCustom at e1
        unfold isHub at e2
        rcases hv with v1 | ⟨v1, v2⟩ | ⟨v1, v2, v3⟩
        all_goals
          go_wp2
          go_roundw
          case rel => exact ⟨k + 1, rz, cs, ib, by omega, rfl, rfl, rfl, by go_num, M1.skip E1.out.1 (hubTo_skip E1.out.2), by
            have := HI.out.next (cu' := cs) (ib' := ib) (by show z ≤ rank (R k).s.src; rw [HR.out]; omega) (fun h => by rw [show isCustom (R k).s.src = true from h] at E1; cases E1.out.1) (fun h => by rw [show isHub (R k).s.src = true from h] at E1; cases E1.out.2) (fun _ => ⟨rfl, rfl⟩)
            rw [show rank ((fun k => (R k).s) k).src = rz from HR.out] at this
            exact this⟩
          case measure => simp [intOf]; omega
      | true =>
        have E1 : Hid (isCustom (R k).s.src = false ∧ isHub (R k).s.src = true) := ⟨e1, e2⟩
        unfold isCustom at e1
        unfold isHub at e2
        rcases hrd1.sid with ⟨q1, q2⟩ | ⟨b1, o1, x, q1, q2, gx⟩
        · rw [q1] at c3
          clear q1 q2
          rcases hv with v1 | ⟨v1, v2⟩ | ⟨v1, v2, v3⟩
          all_goals
            go_wp2
            go_ret
            exact ⟨.inl rfl, M1.ext⟩
        · rw [q1] at c3
          have HX : Hid ((R k).s.sid = some x) := q2
          have hxs : x.size ≤ 2147483648 := by have := hs.sid x q2; omega
          clear q1 q2
          cases hib : ib with
          | true =>
            have HB : Hid (ib = true) := hib
            rw [hib] at HI
            cases hcx : (x.toList == cs.toList) with
            | true =>
              have HCX : Hid (x.toList = cs.toList) := beq_iff_eq.1 hcx
              have hseen : hubTo (fun k => (R k).s) k x.toList = true := by
                obtain ⟨h0, h1, h2⟩ := HI.out.on rfl
                exact hubTo_of (t := k - 1) (by omega) h1 (by rw [h2, HCX.out])
              have HSN : Hid (hubTo (fun k => (R k).s) k x.toList = true) := hseen
              clear hseen
              rcases hv with v1 | ⟨v1, v2⟩ | ⟨v1, v2, v3⟩
              all_goals
                go_wp2
                go_roundw
                case rel => exact ⟨k + 1, rz, cs, true, by omega, rfl, rfl, by first | rfl | rw [HB.out], by go_num, M1.skip E1.out.1 (hubTo_seen HX.out HSN.out), by
                  have := HI.out.next (cu' := cs) (ib' := true) (by show z ≤ rank (R k).s.src; rw [HR.out]; omega) (fun h => by rw [show isCustom (R k).s.src = true from h] at E1; cases E1.out.1) (fun _ => ⟨x, HX.out, rfl, HCX.out.symm, .inl ⟨rfl, HCX.out⟩⟩) (fun h => by rw [show isHub (R k).s.src = false from h] at E1; cases E1.out.2)
                  rw [show rank ((fun k => (R k).s) k).src = rz from HR.out] at this
                  exact this⟩
                case measure => simp [intOf]; omega
            | false =>
              cases hhs : hubTo (fun k => (R k).s) k x.toList with
              | true =>
                rcases hv with v1 | ⟨v1, v2⟩ | ⟨v1, v2, v3⟩
                all_goals
                  go_wp2_with (at_lookup; refine wp_lookB M1.mh hxs rfl rfl rfl rfl ?_; rw [hhs])
                  go_ret
                  exact ⟨.inl rfl, M1.ext⟩
              | false =>
                have HHS : Hid (hubTo (fun k => (R k).s) k x.toList = false) := hhs
                rcases hv with v1 | ⟨v1, v2⟩ | ⟨v1, v2, v3⟩
                all_goals
                  go_wp2_with (first | (at_lookup; refine wp_lookB M1.mh hxs rfl rfl rfl rfl ?_; rw [hhs]) | (at_mapUpdate; refine wp_putB M1.mh (by omega) hxs rfl rfl rfl rfl rfl ?_; intro w2 hM2 hg2))
                  go_roundw
                  case rel => exact ⟨k + 1, rz, x, true, by omega, rfl, rfl, rfl, by go_num, M1.putH hM2 hg2 E1.out.2 HX.out, by
                    have := HI.out.next (cu' := x) (ib' := true) (by show z ≤ rank (R k).s.src; rw [HR.out]; omega) (fun h => by rw [show isCustom (R k).s.src = true from h] at E1; cases E1.out.1) (fun _ => ⟨x, HX.out, rfl, rfl, .inr HHS.out⟩) (fun h => by rw [show isHub (R k).s.src = false from h] at E1; cases E1.out.2)
                    rw [show rank ((fun k => (R k).s) k).src = rz from HR.out] at this
                    exact this⟩
                  case measure => simp [intOf]; omega
          | false =>
            have HB : Hid (ib = false) := hib
            rw [hib] at HI
            cases hhs : hubTo (fun k => (R k).s) k x.toList with
            | true =>
              rcases hv with v1 | ⟨v1, v2⟩ | ⟨v1, v2, v3⟩
              all_goals
                go_wp2_with (at_lookup; refine wp_lookB M1.mh hxs rfl rfl rfl rfl ?_; rw [hhs])
                go_ret
                exact ⟨.inl rfl, M1.ext⟩
            | false =>
              have HHS : Hid (hubTo (fun k => (R k).s) k x.toList = false) := hhs
              rcases hv with v1 | ⟨v1, v2⟩ | ⟨v1, v2, v3⟩
              all_goals
                go_wp2_with (first | (at_lookup; refine wp_lookB M1.mh hxs rfl rfl rfl rfl ?_; rw [hhs]) | (at_mapUpdate; refine wp_putB M1.mh (by omega) hxs rfl rfl rfl rfl rfl ?_; intro w2 hM2 hg2))
                go_roundw
                case rel => exact ⟨k + 1, rz, x, true, by omega, rfl, rfl, rfl, by go_num, M1.putH hM2 hg2 E1.out.2 HX.out, by
                  have := HI.out.next (cu' := x) (ib' := true) (by show z ≤ rank (R k).s.src; rw [HR.out]; omega) (fun h => by rw [show isCustom (R k).s.src = true from h] at E1; cases E1.out.1) (fun _ => ⟨x, HX.out, rfl, rfl, .inr HHS.out⟩) (fun h => by rw [show isHub (R k).s.src = false from h] at E1; cases E1.out.2)
                  rw [show rank ((fun k => (R k).s) k).src = rz from HR.out] at this
                  exact this⟩
                case measure => simp [intOf]; omega
    · go_wp2
      go_ret
      obtain rfl : k = n := by omega
      exact ⟨.inr ⟨rfl, HI.out.r⟩, M.ext⟩
end Go.Proofs.Qxb6613557a
