/-
  'Rows.FnUpdateAtAgreesOnTheCutThatHoldsItSaid' ('example.com/visar/visar/zzlaws_root_b1.FnUpdateAtAgreesOnTheCutThatHoldsIt'): the row over the walk. After the guide's own way for a law over slices (the shells of this seat's two other laws).
-/
import Derived.Test.Qxb6613657aRows
import Derived.Test.Qxb6613657aLaw8
import Derived.Test.Qxb6613657aOpen
import Derived.WalkKit
import Derived.ProofKit
import Derived.OpenShut
import Derived.ShutString
import Derived.ChangeOld
import Derived.Below
namespace Go.Proofs.Qxb6613657a.fnUpdateAtAgreesOnTheCutThatHoldsIt
open Go.ChangeShapes Go.WideShapes Go.ChangeAt Go.RowKit
set_option linter.unusedVariables false

theorem own : ownKnob Try.prog.godebug = none := by kernel_rfl
theorem laidOut : laidOutB Try.prog = true := by kernel_rfl

/-- THE WALK: the Go text returns true and writes nothing that was there. -/
theorem walk (a0 : Option Addr) (len0 cap0 b o : Nat) (u : Nat → Rec) (a1 : Int) (a2 : Int) (w : World) (hn : len0 ≤ 9223372036854775807) (ha : 0 < len0 → a0 = some ⟨b, o, none⟩) (hl : Lies w b o len0 u) (w1 : (Lit.int .i64 a1).wf = true) (w2 : (Lit.int .i64 a2).wf = true) :
    Calls Try.prog 8 #[.slice a0 len0 cap0, .int .i64 a1, .int .i64 a2] w fun e w' => e = .returned (.bool true) ∧ Below w.heap.size w w' := by
  by_cases h : a2 < 0 ∨ (len0 : Int) < a2
  · exact early8 a0 len0 cap0 b o a1 a2 u w hn ha hl h
  obtain ⟨y, rfl⟩ := Int.eq_ofNat_of_zero_le (a := a2) (by omega)
  exact core8 a0 len0 cap0 b o a1 y u w hn (by omega) ha hl

set_option maxRecDepth 100000 in
theorem lifted (os : Os) (started : os.Started) (H : Type) (enc : TypeId × Value → H) :
    ReturnsInHanded {} Try.checked os 8 .any (Rows.fnUpdateAtAgreesOnTheCutThatHoldsItSpec.pre6 enc Try.prog Try.f8 Rows.fnUpdateAtAgreesOnTheCutThatHoldsItRow.domain false) (Rows.fnUpdateAtAgreesOnTheCutThatHoldsItSpec.post enc Try.prog Try.f8 false true false false) := by
  refine returnsInHanded_of_change (C := Try.checked) own started (by kernel_rfl) Try.func8
    (ChangeSpec.witness6 (enc := enc) (C := Try.checked) false ⟨#[], #[.slice none 0 0, .int .i64 0, .int .i64 0], []⟩ 8 (by kernel_rfl) (by kernel_rfl) (by kernel_rfl) (by kernel_rfl)) ?_
  intro W base args ds gs before hval0 hW hcnd _
  have hval : ∀ (j : Nat) t v, Try.f8.params[j]? = some t → args[j]? = some v → Value.okWide Try.prog W .any base t v := hval0
  have hW' := hW
  obtain ⟨p, q, hA0, hV, rfl, hfz, hnd⟩ := hW
  have hA : DataW.TrodAll enc Try.prog W 0 (fun _ => true) true Try.f8.params.toList args.toList ds p := hA0
  rw [Try.params8] at hA hval
  obtain ⟨v0, vs0, d0, ds0, p0, q0, hargs, rfl, rfl, h0, r0⟩ := trodAll_cons hA
  obtain ⟨v1, vs1, d1, ds1, p1, q1, rfl, rfl, rfl, h1, r1⟩ := trodAll_cons r0
  obtain ⟨v2, vs2, d2, ds2, p2, q2, rfl, rfl, rfl, h2, r2⟩ := trodAll_cons r1
  obtain ⟨rfl, rfl, rfl⟩ := trodAll_nil r2
  obtain rfl : args = #[v0, v1, v2] := by cases args; simp_all
  obtain ⟨rfl, rfl⟩ := trodVars_none hV
  obtain ⟨a0, len0, cap0, rfl⟩ := okWide_slice Try.underlying38 (hval 0 38 v0 rfl rfl)
  have k0 := h0
  have lt0 : ∀ x ∈ p0, x.block < W.heap.size := by obtain ⟨m, hm⟩ := k0; exact DataW.trod_lt m _ _ _ hm
  obtain ⟨hn, b, o, u, ha, hl⟩ : len0 ≤ 9223372036854775807 ∧ ∃ (b o : Nat) (u : Nat → Rec), (0 < len0 → a0 = some ⟨b, o, none⟩) ∧ Lies W b o len0 u := by
    obtain ⟨fuel, hf⟩ := h0
    exact open38 hf
  obtain ⟨a1, rfl, rfl, rfl, w1⟩ := open_int Try.underlying3 (hval 1 3 v1 rfl rfl) h1
  obtain ⟨a2, rfl, rfl, rfl, w2⟩ := open_int Try.underlying3 (hval 2 3 v2 rfl rfl) h2
  clear hA0 hval0
  refine (walk a0 len0 cap0 b o u a1 a2 W hn ha hl w1 w2).mono fun e W' ⟨he, bel⟩ => ?_
  subst he
  exact ⟨_, rfl, _, _, _, [], _, [], hW', trodAll_mk1 (shut_bool Try.underlying4 _), (trodAll_cons_mk (Below.trod laidOut (by kernel_rfl) (of_decide_eq_true (by kernel_rfl)) k0 bel lt0) (trodAll_cons_mk (shut_int Try.underlying3 w1) (trodAll_cons_mk (shut_int Try.underlying3 w2) trodAll_mk0))), rfl, bel.frame _, fun h => by cases h⟩

theorem over : Rows.fnUpdateAtAgreesOnTheCutThatHoldsItRow.holds Try.pinned (OpenSpec.ofChange Rows.fnUpdateAtAgreesOnTheCutThatHoldsItSpec) :=
  OpenClaim.holds_of_wide 8 Try.f8 rfl rfl rfl rfl rfl rfl rfl ⟨rfl, rfl, rfl, rfl, rfl⟩ rfl rfl rfl rfl rfl (by kernel_rfl) Try.func8 (by kernel_rfl)
    (of_decide_eq_true (by kernel_rfl)) (by unfold Func.isWrapper; first | (rw [if_pos (by decide +kernel)]; kernel_rfl) | (rw [if_neg (by decide +kernel)]; exact ⟨rfl, rfl⟩))
    (fun os started H enc _ => lifted os started H enc)

/-- THE STATEMENT -/
theorem proved : Rows.FnUpdateAtAgreesOnTheCutThatHoldsItSaid := over
#print axioms proved
end Go.Proofs.Qxb6613657a.fnUpdateAtAgreesOnTheCutThatHoldsIt
