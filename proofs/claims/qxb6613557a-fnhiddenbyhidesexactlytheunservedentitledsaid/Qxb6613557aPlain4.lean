/-
  The plain laws of the second statement. No Go in sight. Own text.
-/
import Derived.Test.Qxb6613557aHid3
import Derived.Test.Qxb6613557aTies
import Derived.Test.Qxb6613557aOrigin
namespace Go.Proofs.Qxb6613557a
open Go.RowKit
set_option linter.unusedVariables false

section
variable {u : ByteArray} {T : List ByteArray} {S : Nat → Sk} {n : Nat}

/-- How many the caller is entitled to. -/
def nE (u : ByteArray) (T : List ByteArray) (S : Nat → Sk) : Nat → Nat
  | 0 => 0
  | k + 1 => if ent u T (S k) then nE u T S k + 1 else nE u T S k
/-- .. and is not served. -/
def nH (u : ByteArray) (T : List ByteArray) (S : Nat → Sk) : Nat → Nat
  | 0 => 0
  | k + 1 => if ent u T (S k) && entTo u T S k (S k).name.toList then nH u T S k + 1 else nH u T S k
theorem nE_le : ∀ k, nE u T S k ≤ k
  | 0 => Nat.le_refl _
  | k + 1 => by have := nE_le k; rw [nE]; split <;> omega
theorem nH_add : ∀ k, nH u T S k + (feTo u T S k).length = nE u T S k
  | 0 => rfl
  | k + 1 => by
    have ih := nH_add k
    rw [nH, feTo, nE]
    cases ent u T (S k) with
    | false => simpa using ih
    | true =>
      cases entTo u T S k (S k).name.toList with
      | true => simp; omega
      | false => simp; omega
theorem entTo_succ {k : Nat} (h : ent u T (S k) = true) (l : List UInt8) : (if l = (S k).name.toList then true else entTo u T S k l) = entTo u T S (k + 1) l := by
  rw [show entTo u T S (k + 1) l = (entTo u T S k l || (ent u T (S k) && (S k).name.toList == l)) from rfl, h]
  by_cases e : l = (S k).name.toList
  · subst e; simp
  · have e' : ((S k).name.toList == l) = false := beq_eq_false_iff_ne.2 (fun h => e h.symm)
    simp [e, e']
theorem entTo_skip {k : Nat} (h : ent u T (S k) = false) (l : List UInt8) : entTo u T S k l = entTo u T S (k + 1) l := by
  rw [show entTo u T S (k + 1) l = (entTo u T S k l || (ent u T (S k) && (S k).name.toList == l)) from rfl, h]; simp
theorem entTo_seen {k : Nat} (h : entTo u T S k (S k).name.toList = true) (l : List UInt8) : entTo u T S k l = entTo u T S (k + 1) l := by
  rw [show entTo u T S (k + 1) l = (entTo u T S k l || (ent u T (S k) && (S k).name.toList == l)) from rfl]
  by_cases e : l = (S k).name.toList
  · subst e; simp [h]
  · have e' : ((S k).name.toList == l) = false := beq_eq_false_iff_ne.2 (fun h => e h.symm)
    simp [e']
theorem mem_fe_iff {i : Nat} (hi : i < n) (he : ent u T (S i) = true) : i ∈ feTo u T S n ↔ entTo u T S i (S i).name.toList = false := by
  rw [mem_feTo, ← Bool.not_eq_true, entTo_iff]
  constructor
  · rintro ⟨_, _, h⟩ ⟨j, hj, hje⟩; exact h j hj hje
  · intro h; exact ⟨hi, he, fun j hj hje => h ⟨j, hj, hje⟩⟩

theorem kinds {x : ByteArray} (h : 0 ≤ rank x) : isDefault x = true ∨ isCustom x = true ∨ isHub x = true := by
  unfold rank at h
  cases h1 : isDefault x <;> cases h2 : isCustom x <;> cases h3 : isHub x <;> simp [h1, h2, h3] at h ⊢

theorem rank_mono (hR : Reach S n) : ∀ d i, i + d < n → rank (S i).src ≤ rank (S (i + d)).src
  | 0, i, _ => Int.le_refl _
  | d + 1, i, h => Int.le_trans (rank_mono hR d i (by omega)) (hR.so (i + d) h)

theorem fst_ge {p : Nat → Bool} {i : Nat} (hi : i < n) (hp : p i = true) : ∃ j : Nat, fstTo p n = j ∧ j ≤ i ∧ p j = true := by
  rcases fstTo_cases p n with ⟨h, hn⟩ | ⟨j, h, hj, hpj, hn⟩
  · rw [hn i hi] at hp; cases hp
  · refine ⟨j, h, ?_, hpj⟩
    by_cases e : j ≤ i
    · exact e
    · rw [hn i (by omega)] at hp; cases hp

theorem cuP_self {i : Nat} (h : isCustom (S i).src = true) : cuP S (S i).id i = true := by simp [cuP, h]
theorem hbP_self {i : Nat} {x : ByteArray} (h : isHub (S i).src = true) (hx : (S i).sid = some x) : hbP S x i = true := by simp [hbP, h, sidIs, hx]
theorem hbP_out {i : Nat} {x : ByteArray} (h : hbP S x i = true) : isHub (S i).src = true ∧ sidL (S i) = some x.toList := by
  unfold hbP sidIs at h
  rw [Bool.and_eq_true] at h
  refine ⟨h.1, ?_⟩
  cases hs : (S i).sid with
  | none => rw [hs] at h; simp at h
  | some y => rw [hs] at h; simp [sidL, hs]; simpa using h.2

theorem gb_self (hR : Reach S n) {i : Nat} (hi : i < n) : gb S n (S i) (S i) = false := by
  unfold gb
  rw [if_pos rfl]
  cases hc : isCustom (S i).src with
  | true =>
    obtain ⟨j, h, _⟩ := fst_ge hi (cuP_self hc)
    simp only [if_true]
    rw [h]
    simp
  | false =>
    cases hh : isHub (S i).src with
    | false => rfl
    | true =>
      obtain ⟨x, hx⟩ := hR.hs i hi hh
      obtain ⟨j, h, _⟩ := fst_ge hi (hbP_self hh hx)
      have e : fsHub S n (S i) = j := by rw [fsHub, hx]; exact h
      simp only [if_true, e]
      simp

theorem gb_hide (hR : Reach S n) (hT : NoTies S n) {f i : Nat} (hf : f < i) (hi : i < n) (hnm : (S f).name.toList = (S i).name.toList) : gb S n (S f) (S i) = true := by
  have hrk : rank (S f).src ≤ rank (S i).src := by
    have := rank_mono hR (i - f) f (by omega)
    rwa [show f + (i - f) = i by omega] at this
  have r1 := hR.rk f (by omega)
  have r2 := hR.rk i hi
  unfold gb
  by_cases hr : rank (S f).src = rank (S i).src
  · rw [if_pos hr]
    have hsrc : (S f).src.toList = (S i).src.toList := by
      have := src_of_rank r1 r2
      rw [hr, decide_eq_true rfl] at this
      exact eq_of_beq this
    obtain ⟨hd, hh⟩ := hT f i hf hi hnm hsrc
    cases hc : isCustom (S f).src with
    | true =>
      have hci : isCustom (S i).src = true := rank_custom.1 (by rw [← hr]; exact rank_custom.2 hc)
      obtain ⟨j1, e1, l1, p1⟩ := fst_ge (n := n) (show f < n by omega) (cuP_self hc)
      obtain ⟨j2, e2, l2, p2⟩ := fst_ge hi (cuP_self hci)
      have hj2 : j2 = i := by
        unfold cuP at p2
        rw [Bool.and_eq_true, beq_iff_eq] at p2
        by_cases e : j2 = i
        · exact e
        · exact absurd p2.2 (hR.cu j2 i (by omega) hi p2.1 hci)
      simp only [if_true]
      rw [e1, e2, hj2, Bool.or_eq_true]
      exact .inr (decide_eq_true (by omega))
    | false =>
      cases hhf : isHub (S f).src with
      | false =>
        rcases kinds r1 with h | h | h
        · rw [hd] at h; cases h
        · rw [hc] at h; cases h
        · rw [hhf] at h; cases h
      | true =>
        have hhi : isHub (S i).src = true := rank_hub.1 (by rw [← hr]; exact rank_hub.2 hhf)
        obtain ⟨x, hx⟩ := hR.hs f (by omega) hhf
        obtain ⟨y, hy⟩ := hR.hs i hi hhi
        have hne := hh x y hhf hx hy
        obtain ⟨j1, e1, l1, p1⟩ := fst_ge (n := n) (show f < n by omega) (hbP_self hhf hx)
        obtain ⟨j2, e2, l2, p2⟩ := fst_ge hi (hbP_self hhi hy)
        obtain ⟨q1, s1⟩ := hbP_out p1
        obtain ⟨q2, s2⟩ := hbP_out p2
        have sf : sidL (S f) = some x.toList := by simp [sidL, hx]
        have si : sidL (S i) = some y.toList := by simp [sidL, hy]
        have hlt : j1 < j2 := by
          by_cases e : j1 < j2
          · exact e
          · exfalso
            by_cases e3 : j2 = f
            · subst e3; exact hne (Option.some.inj (sf.symm.trans s2))
            · have := hR.hc j2 f i (by omega) hf hi q2 hhf hhi (s2.trans si.symm)
              exact hne (Option.some.inj (sf.symm.trans (this.trans si)))
        have g1 : fsHub S n (S f) = j1 := by rw [fsHub, hx]; exact e1
        have g2 : fsHub S n (S i) = j2 := by rw [fsHub, hy]; exact e2
        simp only [Bool.false_eq_true, if_false, if_true]
        rw [g1, g2, Bool.or_eq_true]
        exact .inr (decide_eq_true (by omega))
  · rw [if_neg hr]
    exact decide_eq_true (by omega)

theorem first_of {i : Nat} (hi : i < n) (he : ent u T (S i) = true) : ∃ f : Nat, fstTo (neP u T S (S i).name.toList) n = f ∧ f ≤ i ∧ f < n ∧ f ∈ feTo u T S n ∧ (S f).name.toList = (S i).name.toList := by
  have hp : neP u T S (S i).name.toList i = true := by simp [neP, he]
  rcases fstTo_cases (neP u T S (S i).name.toList) n with ⟨h, hn⟩ | ⟨j, h, hj, hpj, hn⟩
  · rw [hn i hi] at hp; cases hp
  · have hpj' := hpj
    unfold neP at hpj'
    rw [Bool.and_eq_true, beq_iff_eq] at hpj'
    refine ⟨j, h, ?_, hj, (mem_feTo n).2 ⟨hj, hpj'.2, fun t ht ⟨h1, h2⟩ => ?_⟩, hpj'.1⟩
    · by_cases e : j ≤ i
      · exact e
      · rw [hn i (by omega)] at hp; cases hp
    · have := hn t ht
      unfold neP at this
      rw [h1, h2, hpj'.1] at this
      simp at this

/-- Of those served HiddenBy hides none. -/
theorem hid_first (hR : Reach S n) {Rs : Nat → Raw} {rr : Raw} {okb : Bool} {i : Nat} (hm : i ∈ feTo u T S n) (h : Hid3 u T S n Rs (S i) rr okb) : okb = false ∧ rr = zeroRaw := by
  obtain ⟨hi, he, hn⟩ := (mem_feTo n).1 hm
  obtain ⟨f, h1, h2, h3, h4, h5⟩ := first_of hi he
  have hfi : f = i := by
    by_cases e : f = i
    · exact e
    · exact absurd ⟨((mem_feTo n).1 h4).2.1, h5⟩ (hn f (by omega))
  subst hfi
  rcases h with ⟨_, j, hj, hf, hg, _⟩ | ⟨hok, hz, _⟩
  · obtain rfl : f = j := by omega
    rw [gb_self hR hj] at hg; cases hg
  · exact ⟨hok, hz⟩

/-- .. and those not served it hides by the served one of the name. -/
theorem hid_other (hR : Reach S n) (hT : NoTies S n) {Rs : Nat → Raw} {rr : Raw} {okb : Bool} {i : Nat} (hi : i < n) (he : ent u T (S i) = true) (hm : i ∉ feTo u T S n) (h : Hid3 u T S n Rs (S i) rr okb) :
    okb = true ∧ ∃ f, f ∈ feTo u T S n ∧ f < n ∧ rr = Rs f ∧ (S f).name.toList = (S i).name.toList := by
  obtain ⟨f, h1, h2, h3, h4, h5⟩ := first_of hi he
  have hfi : f < i := by
    by_cases e : f = i
    · subst e; exact absurd h4 hm
    · omega
  have hg := gb_hide hR hT hfi hi h5
  rcases h with ⟨hok, j, hj, hf, _, hr⟩ | ⟨_, _, hf | ⟨j, hj, hf, hg'⟩⟩
  · obtain rfl : f = j := by omega
    exact ⟨hok, f, h4, h3, hr, h5⟩
  · omega
  · obtain rfl : f = j := by omega
    rw [hg] at hg'; cases hg'

theorem org_self {i : Nat} (hm : i ∈ feTo u T S n) : orgIn S (feTo u T S n) (S i).id (S i).name (S i).src (S i).sid = true := by
  unfold orgIn
  rw [List.any_eq_true]
  exact ⟨i, hm, by simp [isOrg, sameO_self]⟩

theorem org_other (hR : Reach S n) (hT : NoTies S n) {i : Nat} (hi : i < n) (he : ent u T (S i) = true) (hm : i ∉ feTo u T S n) : orgIn S (feTo u T S n) (S i).id (S i).name (S i).src (S i).sid = false := by
  unfold orgIn
  rw [List.any_eq_false]
  intro g hg ho
  unfold isOrg at ho
  rw [Bool.and_eq_true, Bool.and_eq_true, Bool.and_eq_true, beq_iff_eq, beq_iff_eq, beq_iff_eq] at ho
  obtain ⟨h1, h2, h3, h4⟩ := ho
  obtain ⟨m1, m2, m3⟩ := (mem_feTo n).1 hg
  have hgi : g < i := by
    rcases Nat.lt_trichotomy g i with h | h | h
    · exact h
    · subst h; exact absurd hg hm
    · exact absurd ⟨he, h2.symm⟩ (m3 i h)
  obtain ⟨hd, hh⟩ := hT g i hgi hi h2 h3
  rcases kinds (hR.rk g m1) with k | k | k
  · rw [hd] at k; cases k
  · have ki : isCustom (S i).src = true := by unfold isCustom at k ⊢; rw [← h3]; exact k
    exact hR.cu g i hgi hi k ki h1
  · have ki : isHub (S i).src = true := by unfold isHub at k ⊢; rw [← h3]; exact k
    obtain ⟨x, hx⟩ := hR.hs g m1 k
    obtain ⟨y, hy⟩ := hR.hs i hi ki
    rw [hx, hy] at h4
    exact hh x y k hx hy (by simpa [sameO] using h4)
end
end Go.Proofs.Qxb6613557a
