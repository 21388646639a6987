/-
  The plain laws: whom SkillsFor serves; which goes before. No Go in sight. Own text.
-/
import Derived.Test.Qxb6613557aHidden
import Derived.Test.Qxb6613557aGoes
namespace Go.Proofs.Qxb6613557a
open Go.RowKit
set_option linter.unusedVariables false

/-! ### order of first appearance -/
def ordTo (κ : Nat → Option (List UInt8)) : Nat → List (List UInt8)
  | 0 => []
  | k + 1 => match κ k with
    | some l => if (ordTo κ k).contains l then ordTo κ k else ordTo κ k ++ [l]
    | none => ordTo κ k
/-- The key l is at place t. -/
def atK (κ : Nat → Option (List UInt8)) (l : List UInt8) (t : Nat) : Bool := decide (κ t = some l)

theorem mem_ordTo {κ : Nat → Option (List UInt8)} {l : List UInt8} : ∀ k, l ∈ ordTo κ k ↔ ∃ t, t < k ∧ κ t = some l
  | 0 => by simp [ordTo]
  | k + 1 => by
    have ih := mem_ordTo (κ := κ) (l := l) k
    rw [ordTo]
    constructor
    · intro h
      cases hk : κ k with
      | none =>
        rw [hk] at h
        obtain ⟨t, h1, h2⟩ := ih.1 h
        exact ⟨t, by omega, h2⟩
      | some m =>
        rw [hk] at h
        simp only at h
        split at h
        · obtain ⟨t, h1, h2⟩ := ih.1 h
          exact ⟨t, by omega, h2⟩
        · rcases List.mem_append.1 h with h | h
          · obtain ⟨t, h1, h2⟩ := ih.1 h
            exact ⟨t, by omega, h2⟩
          · simp at h
            subst h
            exact ⟨k, by omega, hk⟩
    · rintro ⟨t, h1, h2⟩
      by_cases e : t = k
      · subst e
        rw [h2]
        simp only
        split
        · rename_i hc; simpa using hc
        · simp
      · have hm := ih.2 ⟨t, by omega, h2⟩
        cases hk : κ k with
        | none => exact hm
        | some m =>
          simp only
          split
          · exact hm
          · exact List.mem_append_left _ hm

theorem fst_keep {p : Nat → Bool} {k : Nat} (h : 0 ≤ fstTo p k) : fstTo p (k + 1) = fstTo p k := by rw [fstTo, if_pos h]
theorem fst_lt (p : Nat → Bool) (k : Nat) : fstTo p k < k := by
  rcases fstTo_cases p k with ⟨h, _⟩ | ⟨j, h, hj, _⟩ <;> omega
theorem fst_mem {κ : Nat → Option (List UInt8)} {l : List UInt8} {k : Nat} : 0 ≤ fstTo (atK κ l) k ↔ l ∈ ordTo κ k := by
  rw [mem_ordTo]
  rcases fstTo_cases (atK κ l) k with ⟨h, hn⟩ | ⟨j, h, hj, hp, _⟩
  · constructor
    · intro h'; omega
    · rintro ⟨t, ht, hk⟩
      have := hn t ht
      simp [atK, hk] at this
  · constructor
    · intro _; exact ⟨j, hj, by simpa [atK] using hp⟩
    · intro _; omega

theorem ord_lt {κ : Nat → Option (List UInt8)} : ∀ k l m, l ∈ ordTo κ k → m ∈ ordTo κ k → ((ordTo κ k).idxOf l < (ordTo κ k).idxOf m ↔ fstTo (atK κ l) k < fstTo (atK κ m) k)
  | 0, l, m, hl, _ => by simp [ordTo] at hl
  | k + 1, l, m, hl, hm => by
    have ih := ord_lt (κ := κ) k
    have keep : ∀ x, x ∈ ordTo κ k → fstTo (atK κ x) (k + 1) = fstTo (atK κ x) k := fun x hx => fst_keep (fst_mem.2 hx)
    cases hk : κ k with
    | none =>
      have e : ordTo κ (k + 1) = ordTo κ k := by rw [ordTo, hk]
      rw [e] at hl hm ⊢
      rw [keep l hl, keep m hm]
      exact ih l m hl hm
    | some x =>
      by_cases hx : x ∈ ordTo κ k
      · have e : ordTo κ (k + 1) = ordTo κ k := by rw [ordTo, hk]; simp [hx]
        rw [e] at hl hm ⊢
        rw [keep l hl, keep m hm]
        exact ih l m hl hm
      · have e : ordTo κ (k + 1) = ordTo κ k ++ [x] := by rw [ordTo, hk]; simp [hx]
        have hfx : fstTo (atK κ x) (k + 1) = k := by
          have h1 : ¬ 0 ≤ fstTo (atK κ x) k := fun h => hx (fst_mem.1 h)
          rw [fstTo, if_neg h1, if_pos (by simp [atK, hk])]
        rw [e] at hl hm ⊢
        have hold : ∀ y, y ∈ ordTo κ k → (ordTo κ k ++ [x]).idxOf y = (ordTo κ k).idxOf y := fun y hy => by rw [List.idxOf_append, if_pos hy]
        have hnew : (ordTo κ k ++ [x]).idxOf x = (ordTo κ k).length := by rw [List.idxOf_append, if_neg hx]; simp
        have hlen : ∀ y, y ∈ ordTo κ k → (ordTo κ k).idxOf y < (ordTo κ k).length := fun y hy => List.idxOf_lt_length_of_mem hy
        rcases List.mem_append.1 hl with hl1 | hl1
        · rcases List.mem_append.1 hm with hm1 | hm1
          · rw [hold l hl1, hold m hm1, keep l hl1, keep m hm1]
            exact ih l m hl1 hm1
          · have hmx : m = x := by simpa using hm1
            rw [hmx, hold l hl1, hnew, keep l hl1, hfx]
            have := hlen l hl1
            have := fst_lt (atK κ l) k
            omega
        · have hlx : l = x := by simpa using hl1
          rcases List.mem_append.1 hm with hm1 | hm1
          · rw [hlx, hold m hm1, hnew, keep m hm1, hfx]
            have := hlen m hm1
            have := fst_lt (atK κ m) k
            omega
          · have hmx : m = x := by simpa using hm1
            rw [hlx, hmx]
            omega

theorem ord_before {κ : Nat → Option (List UInt8)} {k : Nat} {l m : List UInt8} (hl : l ∈ ordTo κ k) :
    decide ((ordTo κ k).idxOf l < (ordTo κ k).idxOf m) = (decide (fstTo (atK κ m) k < 0) || decide (fstTo (atK κ l) k < fstTo (atK κ m) k)) := by
  by_cases hm : m ∈ ordTo κ k
  · have h0 := fst_mem.2 hm
    have := ord_lt k l m hl hm
    rw [decide_eq_false (show ¬ fstTo (atK κ m) k < 0 by omega), Bool.false_or]
    exact decide_eq_decide.2 this
  · have h0 : fstTo (atK κ m) k < 0 := by
      have : ¬ 0 ≤ fstTo (atK κ m) k := fun h => hm (fst_mem.1 h)
      omega
    rw [decide_eq_true h0, Bool.true_or, decide_eq_true]
    rw [List.idxOf_eq_length hm]
    exact List.idxOf_lt_length_of_mem hl

def kCu (S : Nat → Sk) (k : Nat) : Option (List UInt8) := if isCustom (S k).src then some (S k).id.toList else none
def kHub (S : Nat → Sk) (k : Nat) : Option (List UInt8) := match isHub (S k).src, (S k).sid with
  | true, some x => some (hubKey x)
  | _, _ => none
theorem svTo_ord (S : Nat → Sk) : ∀ k, svTo S k = ordTo (kCu S) k
  | 0 => rfl
  | k + 1 => by
    rw [svTo, ordTo, svTo_ord S k, kCu]
    cases isCustom (S k).src with
    | false => rfl
    | true =>
      simp only [Bool.true_and, if_true]
      cases (ordTo (kCu S) k).contains (S k).id.toList <;> rfl
theorem ldTo_ord (S : Nat → Sk) : ∀ k, ldTo S k = ordTo (kHub S) k
  | 0 => rfl
  | k + 1 => by
    rw [ldTo, ordTo, ldTo_ord S k, kHub]
    cases isHub (S k).src with
    | false => cases (S k).sid <;> rfl
    | true => cases (S k).sid <;> rfl
theorem hubKey_inj {x y : ByteArray} : hubKey x = hubKey y ↔ x.toList = y.toList := by simp [hubKey]
theorem cuP_at (S : Nat → Sk) (x : ByteArray) : cuP S x = atK (kCu S) x.toList := by
  funext t
  unfold cuP atK kCu
  cases isCustom (S t).src with
  | false => simp
  | true =>
    by_cases e : (S t).id.toList = x.toList
    · simp [e]
    · simp [e]
theorem hbP_at (S : Nat → Sk) (x : ByteArray) : hbP S x = atK (kHub S) (hubKey x) := by
  funext t
  unfold hbP atK kHub sidIs
  cases isHub (S t).src with
  | false => cases (S t).sid <;> simp
  | true =>
    cases (S t).sid with
    | none => simp
    | some y =>
      by_cases e : y.toList = x.toList
      · simp [e, hubKey_inj]
      · simp [e, hubKey_inj]

/-! ### which goes before -/
theorem src_of_rank {x y : ByteArray} (hx : 0 ≤ rank x) (hy : 0 ≤ rank y) : (x.toList == y.toList) = decide (rank x = rank y) := by
  by_cases e : x.toList = y.toList
  · have : rank x = rank y := by unfold rank isDefault isCustom isHub; rw [e]
    simp [e, this]
  · have : rank x ≠ rank y := by
      intro h
      apply e
      have h3 : rank x = 0 ∨ rank x = 1 ∨ rank x = 2 := by
        unfold rank at hx ⊢
        cases h1 : isDefault x <;> cases h2 : isCustom x <;> cases h3 : isHub x <;> simp [h1, h2, h3] at hx ⊢
      rcases h3 with h3 | h3 | h3
      · have a := rank_default.1 h3
        have b := rank_default.1 (h ▸ h3)
        unfold isDefault at a b
        rw [eq_of_beq a, eq_of_beq b]
      · have a := rank_custom.1 h3
        have b := rank_custom.1 (h ▸ h3)
        unfold isCustom at a b
        rw [eq_of_beq a, eq_of_beq b]
      · have a := rank_hub.1 h3
        have b := rank_hub.1 (h ▸ h3)
        unfold isHub at a b
        rw [eq_of_beq a, eq_of_beq b]
    simp [e, this]

theorem bef_gb {S : Nat → Sk} {n i : Nat} (hR : Reach S n) (hi : i < n) (s : Sk) (hs : 0 ≤ rank s.src) : bef (svTo S n) (ldTo S n) (S i) s = gb S n (S i) s := by
  unfold bef gb
  rw [src_of_rank (hR.rk i hi) hs]
  by_cases hr : rank (S i).src = rank s.src
  · simp only [hr, decide_true, if_true]
    cases hc : isCustom (S i).src with
    | true =>
      simp only [if_true]
      rw [svTo_ord, cuP_at, cuP_at]
      exact ord_before ((mem_ordTo n).2 ⟨i, hi, by simp [kCu, hc]⟩)
    | false =>
      simp only [Bool.false_eq_true, if_false]
      cases hh : isHub (S i).src with
      | false => rfl
      | true =>
        simp only [if_true]
        obtain ⟨x, hx⟩ := hR.hs i hi hh
        have hm : hubKey x ∈ ordTo (kHub S) n := (mem_ordTo n).2 ⟨i, hi, by simp [kHub, hh, hx]⟩
        rw [ldTo_ord]
        have e1 : repKey (S i) = hubKey x := by rw [repKey, hx]
        have e2 : fsHub S n (S i) = fstTo (atK (kHub S) (hubKey x)) n := by rw [fsHub, hx]; show fstTo (hbP S x) n = _; rw [hbP_at]
        rw [e1, e2]
        cases hsd : s.sid with
        | some y =>
          have e3 : repKey s = hubKey y := by rw [repKey, hsd]
          have e4 : fsHub S n s = fstTo (atK (kHub S) (hubKey y)) n := by rw [fsHub, hsd]; show fstTo (hbP S y) n = _; rw [hbP_at]
          rw [e3, e4]
          exact ord_before hm
        | none =>
          have e3 : repKey s = [] := by rw [repKey, hsd]
          have e4 : fsHub S n s = -1 := by rw [fsHub, hsd]
          rw [e3, e4]
          have hn : ([] : List UInt8) ∉ ordTo (kHub S) n := fun h => by
            obtain ⟨t, _, ht⟩ := (mem_ordTo n).1 h
            unfold kHub at ht
            split at ht
            · simp [hubKey] at ht
            · cases ht
          rw [List.idxOf_eq_length hn, decide_eq_true (List.idxOf_lt_length_of_mem hm)]
          rfl
  · simp [hr]

/-! ### whom SkillsFor serves -/
/-- A caller's skill of that name among the first k. -/
def entTo (u : ByteArray) (T : List ByteArray) (S : Nat → Sk) : Nat → List UInt8 → Bool
  | 0, _ => false
  | k + 1, l => entTo u T S k l || (ent u T (S k) && (S k).name.toList == l)
/-- The first of each name. -/
def feTo (u : ByteArray) (T : List ByteArray) (S : Nat → Sk) : Nat → List Nat
  | 0 => []
  | k + 1 => if ent u T (S k) && !entTo u T S k (S k).name.toList then feTo u T S k ++ [k] else feTo u T S k
section
variable {u : ByteArray} {T : List ByteArray} {S : Nat → Sk}
theorem entTo_iff {l : List UInt8} : ∀ k, entTo u T S k l = true ↔ ∃ t, t < k ∧ ent u T (S t) = true ∧ (S t).name.toList = l
  | 0 => by simp [entTo]
  | k + 1 => by
    rw [entTo, Bool.or_eq_true, entTo_iff k, Bool.and_eq_true, beq_iff_eq]
    constructor
    · rintro (⟨t, h1, h2⟩ | h)
      · exact ⟨t, by omega, h2⟩
      · exact ⟨k, by omega, h⟩
    · rintro ⟨t, h1, h2⟩
      by_cases e : t = k
      · subst e; exact .inr h2
      · exact .inl ⟨t, by omega, h2⟩
theorem mem_feTo {i : Nat} : ∀ k, i ∈ feTo u T S k ↔ i < k ∧ ent u T (S i) = true ∧ ∀ j, j < i → ¬ (ent u T (S j) = true ∧ (S j).name.toList = (S i).name.toList)
  | 0 => by simp [feTo]
  | k + 1 => by
    have ih := mem_feTo (i := i) k
    have hnew : (ent u T (S k) && !entTo u T S k (S k).name.toList) = true ↔ ent u T (S k) = true ∧ ∀ j, j < k → ¬ (ent u T (S j) = true ∧ (S j).name.toList = (S k).name.toList) := by
      rw [Bool.and_eq_true, Bool.not_eq_true', ← Bool.not_eq_true, entTo_iff]
      constructor
      · rintro ⟨h1, h2⟩; exact ⟨h1, fun j hj h => h2 ⟨j, hj, h⟩⟩
      · rintro ⟨h1, h2⟩; exact ⟨h1, fun ⟨j, hj, h⟩ => h2 j hj h⟩
    rw [feTo]
    split
    · rename_i hc
      rw [List.mem_append, ih, List.mem_singleton]
      constructor
      · rintro (⟨h1, h2⟩ | rfl)
        · exact ⟨by omega, h2⟩
        · exact ⟨by omega, hnew.1 hc⟩
      · rintro ⟨h1, h2⟩
        by_cases e : i = k
        · exact .inr e
        · exact .inl ⟨by omega, h2⟩
    · rename_i hc
      rw [ih]
      constructor
      · rintro ⟨h1, h2⟩; exact ⟨by omega, h2⟩
      · rintro ⟨h1, h2⟩
        by_cases e : i = k
        · subst e; exact absurd (hnew.2 h2) hc
        · exact ⟨by omega, h2⟩
theorem mem_reTo {i : Nat} : ∀ k, i < k → isGlobal (S i).vis = false → i ∈ reTo S k
  | 0, h, _ => by omega
  | k + 1, h, hg => by
    rw [reTo]
    by_cases e : i = k
    · subst e; rw [hg]; simp
    · have := mem_reTo k (by omega) hg
      split
      · exact this
      · exact List.mem_append_left _ this
theorem ev_fe {n : Nat} (h : anyEnt u T S (reTo S n) = false) : ∀ k, k ≤ n → evTo S k = feTo u T S k ∧ ∀ l, gTo S k l = entTo u T S k l
  | 0, _ => ⟨rfl, fun _ => rfl⟩
  | k + 1, hk => by
    obtain ⟨h1, h2⟩ := ev_fe h k (by omega)
    have he : ent u T (S k) = isGlobal (S k).vis := by
      cases hg : isGlobal (S k).vis with
      | true => simp [ent, hg]
      | false =>
        have hm := mem_reTo n (show k < n by omega) hg
        unfold anyEnt at h
        rw [List.any_eq_false] at h
        simpa using h k hm
    refine ⟨?_, fun l => ?_⟩
    · rw [evTo, feTo, h1, h2, he]
    · rw [gTo, entTo, h2, he]
theorem cnt_ge {n : Nat} {l : List UInt8} : ∀ k, (∀ i j, i < j → j < k → (S i).name.toList = l → (S j).name.toList = l → 2 ≤ cntTo S k l) ∧ (∀ i, i < k → (S i).name.toList = l → 1 ≤ cntTo S k l)
  | 0 => ⟨fun i j _ h => by omega, fun i h => by omega⟩
  | k + 1 => by
    obtain ⟨h1, h2⟩ := cnt_ge (n := n) (l := l) k
    have hb := cntTo_le S l k
    constructor
    · intro i j hij hj hi hjl
      rw [cntTo]
      by_cases e : j = k
      · subst e
        rw [if_pos hjl.symm]
        have := h2 i hij hi
        omega
      · have := h1 i j hij (by omega) hi hjl
        split <;> omega
    · intro i hi hil
      rw [cntTo]
      by_cases e : i = k
      · subst e
        rw [if_pos hil.symm]; omega
      · have := h2 i (by omega) hil
        split <;> omega
theorem con_of {n : Nat} {l : List UInt8} : ∀ k, (∃ i, i < k ∧ (S i).name.toList = l ∧ 1 < cntTo S n l) → conTo S n k l = true
  | 0, ⟨i, h, _⟩ => by omega
  | k + 1, ⟨i, h, hl, hc⟩ => by
    rw [conTo]
    by_cases e : i = k
    · subst e; rw [hl, decide_eq_true hc]; simp
    · rw [con_of k ⟨i, by omega, hl, hc⟩]; rfl
theorem vs_fe {n : Nat} : ∀ k, k ≤ n → vsTo u T S (conTo S n n) k = feTo u T S k ∧ ∀ l, tkTo u T S (conTo S n n) k l = (conTo S n n l && entTo u T S k l)
  | 0, _ => ⟨rfl, fun l => by simp [tkTo, entTo]⟩
  | k + 1, hk => by
    obtain ⟨h1, h2⟩ := vs_fe (n := n) k (by omega)
    have hfree : conTo S n n (S k).name.toList = false → entTo u T S k (S k).name.toList = false := fun hc => by
      cases he : entTo u T S k (S k).name.toList with
      | false => rfl
      | true =>
        obtain ⟨t, ht, _, hn⟩ := (entTo_iff k).1 he
        have := (cnt_ge (S := S) (n := n) (l := (S k).name.toList) n).1 t k ht (by omega) hn rfl
        rw [con_of n ⟨k, by omega, rfl, by omega⟩] at hc
        cases hc
    refine ⟨?_, fun l => ?_⟩
    · rw [vsTo, feTo, h1, h2]
      cases hc : conTo S n n (S k).name.toList with
      | false => rw [hfree hc]; simp
      | true => simp
    · rw [tkTo, entTo, h2]
      by_cases e : (S k).name.toList = l
      · subst e
        cases conTo S n n (S k).name.toList <;> cases ent u T (S k) <;> simp
      · have : ((S k).name.toList == l) = false := beq_eq_false_iff_ne.2 e
        simp [this]
theorem served_fe (n : Nat) : served u T S n = feTo u T S n := by
  unfold served
  split
  · exact (vs_fe n (Nat.le_refl _)).1
  · rename_i h
    exact (ev_fe (by simpa using h) n (Nat.le_refl _)).1
theorem feTo_le : ∀ k, (feTo u T S k).length ≤ k
  | 0 => Nat.le_refl _
  | k + 1 => by
    have := feTo_le k
    unfold feTo
    split
    · simp; omega
    · omega

/-- The caller's first of that name. -/
def neP (u : ByteArray) (T : List ByteArray) (S : Nat → Sk) (x : List UInt8) (i : Nat) : Bool := ((S i).name.toList == x) && ent u T (S i)
theorem found_first {n : Nat} {x : List UInt8} {j : Nat} (h : Found S (feTo u T S n) x j) : fstTo (neP u T S x) n = ((feTo u T S n).getD j 0 : Nat) ∧ (feTo u T S n).getD j 0 < n := by
  rcases h with ⟨j', h1, h2, h3, h4⟩ | ⟨h1, _⟩
  · obtain rfl : j = j' := by omega
    have hm : (feTo u T S n).getD j 0 ∈ feTo u T S n := by rw [getD_at _ 0 j h2]; exact List.getElem_mem _
    obtain ⟨m1, m2, m3⟩ := (mem_feTo n).1 hm
    refine ⟨fstTo_hit (by rw [neP, h3, m2]; rfl) (fun t ht => ?_) n m1, m1⟩
    cases hp : neP u T S x t with
    | false => rfl
    | true =>
      rw [neP, Bool.and_eq_true, beq_iff_eq] at hp
      exact absurd ⟨hp.2, by rw [hp.1, eq_of_beq h3]⟩ (m3 t ht)
  · omega
theorem found_none {n : Nat} {x : List UInt8} (h : Found S (feTo u T S n) x (-1)) : fstTo (neP u T S x) n = -1 := by
  rcases h with ⟨j', h1, _⟩ | ⟨_, h2⟩
  · omega
  · rcases fstTo_cases (neP u T S x) n with ⟨h, _⟩ | ⟨j, h, hj, hp, hn⟩
    · exact h
    · rw [neP, Bool.and_eq_true, beq_iff_eq] at hp
      have hm : j ∈ feTo u T S n := (mem_feTo n).2 ⟨hj, hp.2, fun t ht ⟨he, hne⟩ => by
        have := hn t ht
        rw [neP, he, hne, hp.1] at this
        simp at this⟩
      obtain ⟨t, ht, rfl⟩ := List.getElem_of_mem hm
      have := h2 t ht
      rw [getD_at _ 0 t ht, hp.1] at this
      simp at this
end
end Go.Proofs.Qxb6613557a
