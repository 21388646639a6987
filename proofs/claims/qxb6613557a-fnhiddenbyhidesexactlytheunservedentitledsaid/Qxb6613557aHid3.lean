/-
  What HiddenBy answers, by the first entitled namesake. Own text.
-/
import Derived.Test.Qxb6613557aPlain
namespace Go.Proofs.Qxb6613557a
open Go.RowKit
set_option linter.unusedVariables false

/-- What HiddenBy answers, by the first entitled namesake. -/
def Hid3 (u : ByteArray) (T : List ByteArray) (S : Nat → Sk) (n : Nat) (Rs : Nat → Raw) (s : Sk) (rr : Raw) (okb : Bool) : Prop :=
  (okb = true ∧ ∃ i : Nat, i < n ∧ fstTo (neP u T S s.name.toList) n = i ∧ gb S n (S i) s = true ∧ rr = Rs i) ∨
  (okb = false ∧ rr = zeroRaw ∧ (fstTo (neP u T S s.name.toList) n = -1 ∨ ∃ i : Nat, i < n ∧ fstTo (neP u T S s.name.toList) n = i ∧ gb S n (S i) s = false))

theorem HidBy.split {u : ByteArray} {T : List ByteArray} {S : Nat → Sk} {n : Nat} {Rs : Nat → Raw} {s : Sk} {e : Ending} (h : HidBy S n Rs (served u T S n) s e) (hR : Reach S n) (hs : 0 ≤ rank s.src) :
    ∃ rr okb, e = .returned (.tuple #[rr.val, .bool okb]) ∧ Hid3 u T S n Rs s rr okb := by
  rw [served_fe] at h
  rcases h with ⟨j, hj, hf, hb, rfl⟩ | ⟨hf | ⟨j, hj, hf, hb⟩, rfl⟩
  · obtain ⟨h1, h2⟩ := found_first hf
    exact ⟨_, _, rfl, .inl ⟨rfl, _, h2, h1, by rw [← bef_gb hR h2 s hs]; exact hb, rfl⟩⟩
  · exact ⟨_, _, rfl, .inr ⟨rfl, rfl, .inl (found_none hf)⟩⟩
  · obtain ⟨h1, h2⟩ := found_first hf
    exact ⟨_, _, rfl, .inr ⟨rfl, rfl, .inr ⟨_, h2, h1, by rw [← bef_gb hR h2 s hs]; exact hb⟩⟩⟩

end Go.Proofs.Qxb6613557a
