/-
  A slice of Upd, opened: what the walks are told. Own text.
-/
import Derived.Test.Qxb6613657aUpd
import Derived.Deep.Slices
import Derived.WideShapes
namespace Go.Proofs.Qxb6613657a
open Go.ChangeShapes Go.WideShapes Go.RowKit

theorem Try.cells53 : Try.prog.cellsOf 53 = 7 := by kernel_rfl
theorem Try.cells3 : Try.prog.cellsOf 3 = 1 := by kernel_rfl
theorem Try.cells4 : Try.prog.cellsOf 4 = 1 := by kernel_rfl
theorem Try.cells9 : Try.prog.cellsOf 9 = 1 := by kernel_rfl

section
variable {H : Type} {enc : TypeId × Value → H} {w : World} {base : Nat} {spare : Nat → Bool} {held : Bool}

theorem open53 {fuel : Nat} {cs : List Value} {x : DataW H × List MemPlace} (h : DataW.trod enc Try.prog w base spare held fuel 53 cs = some x) :
    ∃ u : Rec, cs = [.int .i64 u.at_, .int .i64 u.rank, .bool u.off, .string u.name, .int .i64 u.af, .int .i64 u.rf, .string u.arg] := by
  obtain ⟨xs, n, _, _, hl, hlen, hf⟩ := DataW.trod_struct Try.underlying53 h
  rw [Try.cells53] at hl
  match cs, hl with
  | [c0, c1, c2, c3, c4, c5, c6], _ =>
  match xs, hlen with
  | [x0, x1, x2, x3, x4, x5, x6], _ =>
  have f0 : DataW.trod enc Try.prog w base spare held n 3 (List.take (Try.prog.cellsOf 3) [c0, c1, c2, c3, c4, c5, c6]) = some x0 := hf 0 _ rfl
  rw [Try.cells3] at f0
  have f1 : DataW.trod enc Try.prog w base spare held n 3 (List.take (Try.prog.cellsOf 3) [c1, c2, c3, c4, c5, c6]) = some x1 := hf 1 _ rfl
  rw [Try.cells3] at f1
  have f2 : DataW.trod enc Try.prog w base spare held n 4 (List.take (Try.prog.cellsOf 4) [c2, c3, c4, c5, c6]) = some x2 := hf 2 _ rfl
  rw [Try.cells4] at f2
  have f3 : DataW.trod enc Try.prog w base spare held n 9 (List.take (Try.prog.cellsOf 9) [c3, c4, c5, c6]) = some x3 := hf 3 _ rfl
  rw [Try.cells9] at f3
  have f4 : DataW.trod enc Try.prog w base spare held n 3 (List.take (Try.prog.cellsOf 3) [c4, c5, c6]) = some x4 := hf 4 _ rfl
  rw [Try.cells3] at f4
  have f5 : DataW.trod enc Try.prog w base spare held n 3 (List.take (Try.prog.cellsOf 3) [c5, c6]) = some x5 := hf 5 _ rfl
  rw [Try.cells3] at f5
  have f6 : DataW.trod enc Try.prog w base spare held n 9 (List.take (Try.prog.cellsOf 9) [c6]) = some x6 := hf 6 _ rfl
  rw [Try.cells9] at f6
  obtain ⟨a, e0, _, _⟩ := DataW.trod_int Try.underlying3 f0
  obtain ⟨b, e1, _, _⟩ := DataW.trod_int Try.underlying3 f1
  obtain ⟨c, e2, _⟩ := DataW.trod_bool Try.underlying4 f2
  obtain ⟨d, e3, _, _⟩ := DataW.trod_string Try.underlying9 f3
  obtain ⟨e, e4, _, _⟩ := DataW.trod_int Try.underlying3 f4
  obtain ⟨f, e5, _, _⟩ := DataW.trod_int Try.underlying3 f5
  obtain ⟨g, e6, _, _⟩ := DataW.trod_string Try.underlying9 f6
  simp only [List.take_succ_cons, List.take_zero, List.cons.injEq, and_true] at e0 e1 e2 e3 e4 e5 e6
  exact ⟨⟨a, b, c, d, e, f, g⟩, by simp [e0, e1, e2, e3, e4, e5, e6]⟩

theorem open38 {fuel : Nat} {a : Option Addr} {len cap : Nat} {x : DataW H × List MemPlace} (h : DataW.trod enc Try.prog w base spare held fuel 38 [.slice a len cap] = some x) :
    len ≤ 9223372036854775807 ∧ ∃ (b o : Nat) (u : Nat → Rec), (0 < len → a = some ⟨b, o, none⟩) ∧ Lies w b o len u := by
  rcases Deep.open_slice Try.underlying38 h with ⟨hcs, _⟩ | ⟨y, l, c, m, n', D, Pl, hcs, _, hl, hm, hmm, _, hx⟩
  · simp only [List.cons.injEq, Value.slice.injEq, and_true] at hcs
    obtain ⟨rfl, rfl, rfl⟩ := hcs
    exact ⟨by omega, 0, 0, fun _ => ⟨0, 0, false, ⟨#[]⟩, 0, 0, ⟨#[]⟩⟩, fun h => by omega, fun k hk => absurd hk (Nat.not_lt_zero _)⟩
  · simp only [List.cons.injEq, Value.slice.injEq, and_true] at hcs
    obtain ⟨rfl, rfl, rfl⟩ := hcs
    have hlm : len ≤ m := by rw [hmm]; split <;> omega
    rw [Try.cells53] at hx
    refine ⟨by unfold maxLen at hm; omega, ?_⟩
    by_cases h0 : len = 0
    · subst h0
      exact ⟨0, 0, fun _ => ⟨0, 0, false, ⟨#[]⟩, 0, 0, ⟨#[]⟩⟩, fun h => by omega, fun k hk => absurd hk (Nat.not_lt_zero _)⟩
    obtain ⟨b, o, spot⟩ := y
    have hspot : spot = none := by
      obtain ⟨cs', h1, h2⟩ := hx 0 (by omega)
      obtain ⟨_, h3, h4⟩ := World.cells?_some h1
      have h5 := h4 0 (by omega)
      rw [List.getElem?_eq_getElem (by omega)] at h5
      simpa [Addr.add] using World.cell?_spot h5
    subst hspot
    have hu : ∀ k, k < len → ∃ u : Rec, ∀ t, t < 7 → w.cell? ⟨b, o + k * 7 + t, none⟩ = some (u.cell t) := by
      intro k hk
      obtain ⟨cs', h1, h2⟩ := hx k (by omega)
      obtain ⟨_, h3, h4⟩ := World.cells?_some h1
      obtain ⟨u, rfl⟩ := open53 h2
      refine ⟨u, fun t ht => ?_⟩
      have h5 := h4 t ht
      rw [add_plain, add_plain] at h5
      rw [h5]
      match t, ht with
      | 0, _ => rfl
      | 1, _ => rfl
      | 2, _ => rfl
      | 3, _ => rfl
      | 4, _ => rfl
      | 5, _ => rfl
      | 6, _ => rfl
    obtain ⟨u, hu'⟩ := @Deep.choose_lt Rec ⟨⟨0, 0, false, ⟨#[]⟩, 0, 0, ⟨#[]⟩⟩⟩ len (fun k u => ∀ t, t < 7 → w.cell? ⟨b, o + k * 7 + t, none⟩ = some (u.cell t)) hu
    exact ⟨b, o, u, fun _ => rfl, hu'⟩
end
end Go.Proofs.Qxb6613657a
