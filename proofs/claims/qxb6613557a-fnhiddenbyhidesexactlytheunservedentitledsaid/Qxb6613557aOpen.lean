/-
  A SkillIn, a slice of them, a slice of texts, opened: what the walks are told. Own text.
-/
import Derived.Test.Qxb6613557aBase
import Derived.Deep.Slices
import Derived.WideShapes
namespace Go.Proofs.Qxb6613557a
open Go.ChangeShapes Go.WideShapes Go.RowKit
set_option linter.unusedVariables false

theorem Try.cells26 : Try.prog.cellsOf 26 = 7 := by kernel_rfl
theorem Try.cells24 : Try.prog.cellsOf 24 = 1 := by kernel_rfl
theorem Try.cells23 : Try.prog.cellsOf 23 = 1 := by kernel_rfl
theorem Try.cells9 : Try.prog.cellsOf 9 = 1 := by kernel_rfl

section
variable {H : Type} {enc : TypeId × Value → H} {w : World} {base : Nat} {spare : Nat → Bool} {held : Bool}

theorem open24 {fuel : Nat} {v : Value} {x : DataW H × List MemPlace} (h : DataW.trod enc Try.prog w base spare held fuel 24 [v] = some x) :
    ∃ (p : Option Addr) (s : Option ByteArray), v = .pointer p ∧ PStr w p s := by
  rcases DataW.trod_pointer Try.underlying24 h with ⟨hcs, _⟩ | ⟨a, cs', y, n, _, hcs, _, hc, ht⟩
  · simp only [List.cons.injEq, and_true] at hcs
    exact ⟨none, none, hcs, .inl ⟨rfl, rfl⟩⟩
  · simp only [List.cons.injEq, and_true] at hcs
    rw [Try.cells9] at hc
    obtain ⟨s, rfl, _, _⟩ := DataW.trod_string Try.underlying9 ht
    obtain ⟨_, _, h4⟩ := World.cells?_some hc
    have h5 := h4 0 (by omega)
    obtain ⟨b, o, spot⟩ := a
    have hs : spot = none := by
      have h6 : w.cell? ((⟨b, o, spot⟩ : Addr).add 0) = some (.string s) := h5
      simpa [Addr.add] using World.cell?_spot h6
    subst hs
    rw [add_plain] at h5
    exact ⟨some ⟨b, o, none⟩, some s, hcs, .inr ⟨b, o, s, rfl, rfl, h5⟩⟩

theorem open23 {fuel : Nat} {a : Option Addr} {len cap : Nat} {x : DataW H × List MemPlace} (h : DataW.trod enc Try.prog w base spare held fuel 23 [.slice a len cap] = some x) :
    len ≤ 9223372036854775807 ∧ ∃ X, TStr w a len X := by
  rcases Deep.open_slice1 Try.underlying23 Try.cells9 h with ⟨hcs, _⟩ | ⟨y, l, c, m, n', V, D, Pl, hcs, _, hl, hm, hmm, _, hx⟩
  · simp only [List.cons.injEq, Value.slice.injEq, and_true] at hcs
    obtain ⟨rfl, rfl, rfl⟩ := hcs
    exact ⟨by omega, none, .inl ⟨rfl, rfl, rfl⟩⟩
  · simp only [List.cons.injEq, Value.slice.injEq, and_true] at hcs
    obtain ⟨rfl, rfl, rfl⟩ := hcs
    have hlm : len ≤ m := by rw [hmm]; split <;> omega
    refine ⟨by unfold maxLen at hm; omega, ?_⟩
    have hs : ∀ k, k < len → ∃ s : ByteArray, w.cell? (y.add k) = some (.string s) := fun k hk => by
      obtain ⟨h1, h2⟩ := hx k (by omega)
      obtain ⟨s, hs, _, _⟩ := DataW.trod_string Try.underlying9 h2
      simp only [List.cons.injEq, and_true] at hs
      rw [hs] at h1
      exact ⟨s, h1⟩
    obtain ⟨f, hf⟩ := @Deep.choose_lt ByteArray ⟨⟨#[]⟩⟩ len (fun k s => w.cell? (y.add k) = some (.string s)) hs
    refine ⟨some ((List.range len).map f), .inr ⟨y, _, rfl, rfl, by simp, fun h0 => ?_⟩⟩
    obtain ⟨b, o, spot⟩ := y
    have hsp : spot = none := by
      have h6 := hf 0 h0
      simpa [Addr.add] using World.cell?_spot h6
    subst hsp
    refine ⟨b, o, rfl, fun j hj => ?_⟩
    have := hf j hj
    rw [add_plain] at this
    rw [this]
    simp [List.getD, hj]

set_option maxRecDepth 100000 in
theorem open26 {fuel : Nat} {cs : List Value} {x : DataW H × List MemPlace} (h : DataW.trod enc Try.prog w base spare held fuel 26 cs = some x) :
    ∃ r : Raw, cs = [.string r.s.id, .string r.s.name, .string r.s.src, .pointer r.sid, .string r.s.vis, .slice r.tm r.tl r.tc, .pointer r.own] ∧ Rd w r ∧ r.tl ≤ 9223372036854775807 := by
  obtain ⟨xs, n, _, _, hl, hlen, hf⟩ := DataW.trod_struct Try.underlying26 h
  rw [Try.cells26] at hl
  match cs, hl with
  | [c0, c1, c2, c3, c4, c5, c6], _ =>
  match xs, hlen with
  | [x0, x1, x2, x3, x4, x5, x6], _ =>
  have f0 : DataW.trod enc Try.prog w base spare held n 9 (List.take (Try.prog.cellsOf 9) [c0, c1, c2, c3, c4, c5, c6]) = some x0 := hf 0 _ rfl
  rw [Try.cells9] at f0
  have f1 : DataW.trod enc Try.prog w base spare held n 9 (List.take (Try.prog.cellsOf 9) [c1, c2, c3, c4, c5, c6]) = some x1 := hf 1 _ rfl
  rw [Try.cells9] at f1
  have f2 : DataW.trod enc Try.prog w base spare held n 9 (List.take (Try.prog.cellsOf 9) [c2, c3, c4, c5, c6]) = some x2 := hf 2 _ rfl
  rw [Try.cells9] at f2
  have f3 : DataW.trod enc Try.prog w base spare held n 24 (List.take (Try.prog.cellsOf 24) [c3, c4, c5, c6]) = some x3 := hf 3 _ rfl
  rw [Try.cells24] at f3
  have f4 : DataW.trod enc Try.prog w base spare held n 9 (List.take (Try.prog.cellsOf 9) [c4, c5, c6]) = some x4 := hf 4 _ rfl
  rw [Try.cells9] at f4
  have f5 : DataW.trod enc Try.prog w base spare held n 23 (List.take (Try.prog.cellsOf 23) [c5, c6]) = some x5 := hf 5 _ rfl
  rw [Try.cells23] at f5
  have f6 : DataW.trod enc Try.prog w base spare held n 24 (List.take (Try.prog.cellsOf 24) [c6]) = some x6 := hf 6 _ rfl
  rw [Try.cells24] at f6
  simp only [List.take_succ_cons, List.take_zero] at f0 f1 f2 f3 f4 f5 f6
  obtain ⟨s0, e0, _, _⟩ := DataW.trod_string Try.underlying9 f0
  obtain ⟨s1, e1, _, _⟩ := DataW.trod_string Try.underlying9 f1
  obtain ⟨s2, e2, _, _⟩ := DataW.trod_string Try.underlying9 f2
  obtain ⟨s4, e4, _, _⟩ := DataW.trod_string Try.underlying9 f4
  obtain ⟨p3, v3, e3, h3⟩ := open24 f3
  obtain ⟨p6, v6, e6, h6⟩ := open24 f6
  have h5 : ∃ a l c, c5 = .slice a l c := by
    rcases DataW.trod_slice Try.underlying23 f5 with ⟨hh, _⟩ | ⟨a, l, c, _, _, _, _, hh, _⟩
    · simp only [List.cons.injEq, and_true] at hh
      exact ⟨_, _, _, hh⟩
    · simp only [List.cons.injEq, and_true] at hh
      exact ⟨_, _, _, hh⟩
  obtain ⟨ta, tl, tc, rfl⟩ := h5
  obtain ⟨htl, X, hX⟩ := open23 f5
  simp only [List.cons.injEq, and_true] at e0 e1 e2 e4
  subst e0 e1 e2 e3 e4 e6
  exact ⟨⟨⟨s0, s1, s2, s4, v3, v6, X⟩, p3, p6, ta, tl, tc⟩, rfl, ⟨h3, h6, hX⟩, htl⟩

def raw0 : Raw := ⟨⟨⟨#[]⟩, ⟨#[]⟩, ⟨#[]⟩, ⟨#[]⟩, none, none, none⟩, none, none, none, 0, 0⟩

theorem open22 {fuel : Nat} {a : Option Addr} {len cap : Nat} {x : DataW H × List MemPlace} (h : DataW.trod enc Try.prog w base spare held fuel 22 [.slice a len cap] = some x) :
    len ≤ 9223372036854775807 ∧ ∃ (b o : Nat) (R : Nat → Raw), (0 < len → a = some ⟨b, o, none⟩) ∧ Lst w b o len R ∧ ∀ k, k < len → (R k).tl ≤ 9223372036854775807 := by
  rcases Deep.open_slice Try.underlying22 h with ⟨hcs, _⟩ | ⟨y, l, c, m, n', D, Pl, hcs, _, hl, hm, hmm, _, hx⟩
  · simp only [List.cons.injEq, Value.slice.injEq, and_true] at hcs
    obtain ⟨rfl, rfl, rfl⟩ := hcs
    exact ⟨by omega, 0, 0, fun _ => raw0, fun h => by omega, ⟨fun k hk => absurd hk (Nat.not_lt_zero _), fun k hk => absurd hk (Nat.not_lt_zero _)⟩, fun k hk => absurd hk (Nat.not_lt_zero _)⟩
  · simp only [List.cons.injEq, Value.slice.injEq, and_true] at hcs
    obtain ⟨rfl, rfl, rfl⟩ := hcs
    have hlm : len ≤ m := by rw [hmm]; split <;> omega
    rw [Try.cells26] at hx
    refine ⟨by unfold maxLen at hm; omega, ?_⟩
    by_cases h0 : len = 0
    · subst h0
      exact ⟨0, 0, fun _ => raw0, fun h => by omega, ⟨fun k hk => absurd hk (Nat.not_lt_zero _), fun k hk => absurd hk (Nat.not_lt_zero _)⟩, fun k hk => absurd hk (Nat.not_lt_zero _)⟩
    obtain ⟨b, o, spot⟩ := y
    have hspot : spot = none := by
      obtain ⟨cs', h1, h2⟩ := hx 0 (by omega)
      obtain ⟨_, h3, h4⟩ := World.cells?_some h1
      have h5 := h4 0 (by omega)
      rw [List.getElem?_eq_getElem (by omega)] at h5
      simpa [Addr.add] using World.cell?_spot h5
    subst hspot
    have hu : ∀ k, k < len → ∃ r : Raw, (∀ t, t < 7 → w.cell? ⟨b, o + k * 7 + t, none⟩ = some (r.cellIn t)) ∧ Rd w r ∧ r.tl ≤ 9223372036854775807 := by
      intro k hk
      obtain ⟨cs', h1, h2⟩ := hx k (by omega)
      obtain ⟨_, h3, h4⟩ := World.cells?_some h1
      obtain ⟨r, rfl, hr, ht⟩ := open26 h2
      refine ⟨r, fun t ht => ?_, hr, ht⟩
      have h5 := h4 t ht
      rw [add_plain, add_plain] at h5
      rw [h5]
      match t, ht with
      | 0, _ => rfl
      | 1, _ => rfl
      | 2, _ => rfl
      | 3, _ => rfl
      | 4, _ => rfl
      | 5, _ => rfl
      | 6, _ => rfl
    obtain ⟨R, hR⟩ := @Deep.choose_lt Raw ⟨raw0⟩ len (fun k r => (∀ t, t < 7 → w.cell? ⟨b, o + k * 7 + t, none⟩ = some (r.cellIn t)) ∧ Rd w r ∧ r.tl ≤ 9223372036854775807) hu
    exact ⟨b, o, R, fun _ => rfl, ⟨fun k hk => (hR k hk).1, fun k hk => (hR k hk).2.1⟩, fun k hk => (hR k hk).2.2⟩
end
end Go.Proofs.Qxb6613557a
