/-
  ZZnewCatalog, HubSourceID; zzBuild's own memory. Own text.
-/
import Derived.Test.Qxb6613557aBuildP
import Derived.Deep.Upon
namespace Go.Proofs.Qxb6613557a
open Go.RowKit
set_option linter.unusedVariables false

theorem newCatalog (a1 a2 a3 : Option Addr) (n1 c1 n2 c2 n3 c3 m1 m2 m3 : Nat) (w : World) :
    Calls Try.prog 31 #[.slice a1 n1 c1, .slice a2 n2 c2, .slice a3 n3 c3, .map (some m1), .map (some m2), .map (some m3)] w fun e w' => e = .returned (.pointer (some ⟨w.heap.size, 0, none⟩)) ∧
      w'.cell? ⟨w.heap.size, 7, none⟩ = some (.slice a1 n1 c1) ∧ w'.cell? ⟨w.heap.size, 8, none⟩ = some (.slice a2 n2 c2) ∧ w'.cell? ⟨w.heap.size, 9, none⟩ = some (.slice a3 n3 c3) ∧
      w'.cell? ⟨w.heap.size, 10, none⟩ = some (.map (some m1)) ∧ w'.cell? ⟨w.heap.size, 11, none⟩ = some (.map (some m2)) ∧ w'.cell? ⟨w.heap.size, 12, none⟩ = some (.map (some m3)) ∧ Ext w w' := by
  go_enter Try.func31, Try.ntmps31
  go_wp2
  go_ret
  exact ⟨rfl, by simp, by simp, by simp, by simp, by simp, by simp, (Ext.refl _).alloc _⟩

theorem hubSourceID (x : ByteArray) (w : World) (hx : x.size ≤ 1048576) :
    Calls Try.prog 30 #[.string x] w fun e w' => ∃ y : ByteArray, e = .returned (.string y) ∧ y.toList = hubKey x ∧ y.size ≤ 2147483648 ∧ w = w' := by
  go_enter Try.func30, Try.ntmps30
  go_wp2
  go_ret
  refine ⟨_, rfl, ?_, ?_, rfl⟩
  · rw [ByteArray.toList_eq, ByteArray.data_append, Array.toList_append, ← ByteArray.toList_eq x]; rfl
  · rw [ByteArray.size_append]
    have : (⟨#[104, 117, 98, 58]⟩ : ByteArray).size = 4 := rfl
    omega

/-- What a call leaves of the other blocks: a row or a map that is not written stays. -/
theorem notRow {w : World} {b n : Nat} {H : Type} {P : Program} {k : TypeId} {R : Value → Option (DataW H × List MemPlace)} {D : DataW H} (h : w.ownsMap P k R b n D) {c : Array Value} {t : TypeId} {fr : Nat × Nat} : w.heap[b]? ≠ some (.cells c t fr) := by
  obtain ⟨es, cl, hb, _⟩ := h
  rw [hb]
  intro e
  cases e

/-- zzBuild's own memory in the second loop: two rows and four maps, all from block B on; nothing of w2 has turned. -/
structure BM (w2 wr : World) (Rs : Nat → Raw) (B : Nat) (ev rv : Value) (E L : List Nat) (Mc nc : Nat) (fc : List UInt8 → Int) (Mg ng : Nat) (fg : List UInt8 → Bool) (Ms ns : Nat) (Ks : List (List UInt8)) (Ml nl : Nat) (Kl : List (List UInt8)) : Prop where
  ext : Ext w2 wr
  eB : B = w2.heap.size
  oe : wr.ownsRow B 42 77 ev E.length (E.flatMap (fun i => (Rs i).cells))
  orr : wr.ownsRow B 3 1 rv L.length (L.map (fun i : Nat => Value.int .i64 (i : Int)))
  mc : MI wr Mc nc fc
  mg : MB wr Mg ng fg
  ms : MO wr Ms ns Ks
  ml : MO wr Ml nl Kl
  lc : B ≤ Mc
  lg : B ≤ Mg
  ls : B ≤ Ms
  ll : B ≤ Ml
  d1 : Mc ≠ Mg
  d2 : Mc ≠ Ms
  d3 : Mc ≠ Ml
  d4 : Mg ≠ Ms
  d5 : Mg ≠ Ml
  d6 : Ms ≠ Ml

theorem ownsRow_keep {w w' : World} {base : Nat} {e : TypeId} {size : Nat} {v : Value} {n : Nat} {xs : List Value} (h : w.ownsRow base e size v n xs) (k : ∀ (g : Nat) (c : Array Value), w.heap[g]? = some (Obj.cells c e (0, 0)) → w'.heap[g]? = w.heap[g]?) : w'.ownsRow base e size v n xs := by
  obtain ⟨h1, h2⟩ := h
  refine ⟨h1, ?_⟩
  rcases h2 with h2 | ⟨g, cap, cur, hv, hg, hh, r⟩
  · exact .inl h2
  · exact .inr ⟨g, cap, cur, hv, hg, (k g cur hh).trans hh, r⟩
theorem ownBlock_of {w : World} {base : Nat} {e : TypeId} {size : Nat} {v : Value} {n : Nat} {xs : List Value} (h : w.ownsRow base e size v n xs) {g : Nat} (hg : v.ownBlock = some g) : base ≤ g ∧ ∃ c, w.heap[g]? = some (Obj.cells c e (0, 0)) := by
  obtain ⟨h1, h2⟩ := h
  rcases h2 with ⟨h2, _⟩ | ⟨g', cap, cur, hv, hb, hh, r⟩
  · subst h2; simp [Value.ownBlock] at hg
  · subst hv
    simp only [Value.ownBlock, Option.some.injEq] at hg
    subst hg
    exact ⟨hb, _, hh⟩

section
variable {w2 wr w' : World} {Rs : Nat → Raw} {B : Nat} {ev rv : Value} {E L : List Nat} {Mc nc : Nat} {fc : List UInt8 → Int} {Mg ng : Nat} {fg : List UInt8 → Bool} {Ms ns : Nat} {Ks : List (List UInt8)} {Ml nl : Nat} {Kl : List (List UInt8)}

theorem keep_map {b : Nat} {es : Array MapEntry} {cl : Nat} (hb : wr.heap[b]? = some (.map es cl)) (hg : wr.grownBy w' (some b)) {e : TypeId} : ∀ (g : Nat) (c : Array Value), wr.heap[g]? = some (Obj.cells c e (0, 0)) → w'.heap[g]? = wr.heap[g]? := fun g c h =>
  hg.block g (Array.getElem?_eq_some_iff.1 h).1 (fun e' => by injection e' with e'; subst e'; rw [hb] at h; cases h)
theorem MI.obj {b n : Nat} {f : List UInt8 → Int} (h : MI wr b n f) : ∃ es cl, wr.heap[b]? = some (.map es cl) := by obtain ⟨D, ⟨es, cl, hb, _⟩, _⟩ := h; exact ⟨es, cl, hb⟩
theorem MB.obj {b n : Nat} {f : List UInt8 → Bool} (h : MB wr b n f) : ∃ es cl, wr.heap[b]? = some (.map es cl) := by obtain ⟨D, ⟨es, cl, hb, _⟩, _⟩ := h; exact ⟨es, cl, hb⟩
theorem MO.obj {b n : Nat} {K : List (List UInt8)} (h : MO wr b n K) : ∃ es cl, wr.heap[b]? = some (.map es cl) := by obtain ⟨D, ⟨es, cl, hb, _⟩, _⟩ := h; exact ⟨es, cl, hb⟩

theorem BM.call (h : BM w2 wr Rs B ev rv E L Mc nc fc Mg ng fg Ms ns Ks Ml nl Kl) (e : Ext wr w') : BM w2 w' Rs B ev rv E L Mc nc fc Mg ng fg Ms ns Ks Ml nl Kl :=
  ⟨h.ext.trans e, h.eB, ownsRow_keep h.oe (fun g c hg => Below.block e g (Array.getElem?_eq_some_iff.1 hg).1), ownsRow_keep h.orr (fun g c hg => Below.block e g (Array.getElem?_eq_some_iff.1 hg).1),
    h.mc.ext e, h.mg.ext e, h.ms.ext e, h.ml.ext e, h.lc, h.lg, h.ls, h.ll, h.d1, h.d2, h.d3, h.d4, h.d5, h.d6⟩

theorem BM.putC {nc' : Nat} {fc' : List UInt8 → Int} (h : BM w2 wr Rs B ev rv E L Mc nc fc Mg ng fg Ms ns Ks Ml nl Kl) (hM : MI w' Mc nc' fc') (hg : wr.grownBy w' (some Mc)) : BM w2 w' Rs B ev rv E L Mc nc' fc' Mg ng fg Ms ns Ks Ml nl Kl := by
  obtain ⟨es, cl, hb⟩ := h.mc.obj
  exact ⟨Below.grown h.ext hg h.ext.size (fun j hj => by injection hj with hj; rw [← hj, ← h.eB]; exact h.lc), h.eB, ownsRow_keep h.oe (keep_map hb hg), ownsRow_keep h.orr (keep_map hb hg), hM,
    h.mg.block (grown_other hg h.mg.lt (Ne.symm h.d1)), h.ms.block (grown_other hg h.ms.lt (Ne.symm h.d2)), h.ml.block (grown_other hg h.ml.lt (Ne.symm h.d3)), h.lc, h.lg, h.ls, h.ll, h.d1, h.d2, h.d3, h.d4, h.d5, h.d6⟩
theorem BM.putG {ng' : Nat} {fg' : List UInt8 → Bool} (h : BM w2 wr Rs B ev rv E L Mc nc fc Mg ng fg Ms ns Ks Ml nl Kl) (hM : MB w' Mg ng' fg') (hg : wr.grownBy w' (some Mg)) : BM w2 w' Rs B ev rv E L Mc nc fc Mg ng' fg' Ms ns Ks Ml nl Kl := by
  obtain ⟨es, cl, hb⟩ := h.mg.obj
  exact ⟨Below.grown h.ext hg h.ext.size (fun j hj => by injection hj with hj; rw [← hj, ← h.eB]; exact h.lg), h.eB, ownsRow_keep h.oe (keep_map hb hg), ownsRow_keep h.orr (keep_map hb hg),
    h.mc.block (grown_other hg h.mc.lt h.d1), hM, h.ms.block (grown_other hg h.ms.lt (Ne.symm h.d4)), h.ml.block (grown_other hg h.ml.lt (Ne.symm h.d5)), h.lc, h.lg, h.ls, h.ll, h.d1, h.d2, h.d3, h.d4, h.d5, h.d6⟩
theorem BM.putS {ns' : Nat} {Ks' : List (List UInt8)} (h : BM w2 wr Rs B ev rv E L Mc nc fc Mg ng fg Ms ns Ks Ml nl Kl) (hM : MO w' Ms ns' Ks') (hg : wr.grownBy w' (some Ms)) : BM w2 w' Rs B ev rv E L Mc nc fc Mg ng fg Ms ns' Ks' Ml nl Kl := by
  obtain ⟨es, cl, hb⟩ := h.ms.obj
  exact ⟨Below.grown h.ext hg h.ext.size (fun j hj => by injection hj with hj; rw [← hj, ← h.eB]; exact h.ls), h.eB, ownsRow_keep h.oe (keep_map hb hg), ownsRow_keep h.orr (keep_map hb hg),
    h.mc.block (grown_other hg h.mc.lt h.d2), h.mg.block (grown_other hg h.mg.lt h.d4), hM, h.ml.block (grown_other hg h.ml.lt (Ne.symm h.d6)), h.lc, h.lg, h.ls, h.ll, h.d1, h.d2, h.d3, h.d4, h.d5, h.d6⟩
theorem BM.putL {nl' : Nat} {Kl' : List (List UInt8)} (h : BM w2 wr Rs B ev rv E L Mc nc fc Mg ng fg Ms ns Ks Ml nl Kl) (hM : MO w' Ml nl' Kl') (hg : wr.grownBy w' (some Ml)) : BM w2 w' Rs B ev rv E L Mc nc fc Mg ng fg Ms ns Ks Ml nl' Kl' := by
  obtain ⟨es, cl, hb⟩ := h.ml.obj
  exact ⟨Below.grown h.ext hg h.ext.size (fun j hj => by injection hj with hj; rw [← hj, ← h.eB]; exact h.ll), h.eB, ownsRow_keep h.oe (keep_map hb hg), ownsRow_keep h.orr (keep_map hb hg),
    h.mc.block (grown_other hg h.mc.lt h.d3), h.mg.block (grown_other hg h.mg.lt h.d5), h.ms.block (grown_other hg h.ms.lt h.d6), hM, h.lc, h.lg, h.ls, h.ll, h.d1, h.d2, h.d3, h.d4, h.d5, h.d6⟩

theorem keep_app {base : Nat} {e e2 : TypeId} {size n : Nat} {v : Value} {xs : List Value} (ho : wr.ownsRow base e size v n xs) (hg : wr.grownBy w' v.ownBlock) (hne : e ≠ e2) : ∀ (g : Nat) (c : Array Value), wr.heap[g]? = some (Obj.cells c e2 (0, 0)) → w'.heap[g]? = wr.heap[g]? := fun g c h =>
  hg.block g (Array.getElem?_eq_some_iff.1 h).1 (fun e' => by
    obtain ⟨_, c', hc'⟩ := ownBlock_of ho e'.symm
    rw [h] at hc'
    injection hc' with hc'
    injection hc' with _ hc' _
    exact hne hc'.symm)
theorem keep_app_map {base : Nat} {e : TypeId} {size n : Nat} {v : Value} {xs : List Value} (ho : wr.ownsRow base e size v n xs) (hg : wr.grownBy w' v.ownBlock) {b : Nat} (hb : ∃ es cl, wr.heap[b]? = some (.map es cl)) : w'.heap[b]? = wr.heap[b]? := by
  obtain ⟨es, cl, hb⟩ := hb
  refine hg.block b (Array.getElem?_eq_some_iff.1 hb).1 (fun e' => ?_)
  obtain ⟨_, c', hc'⟩ := ownBlock_of ho e'.symm
  rw [hb] at hc'
  cases hc'
theorem BM.appE {ev' : Value} {i : Nat} (h : BM w2 wr Rs B ev rv E L Mc nc fc Mg ng fg Ms ns Ks Ml nl Kl) (ho : w'.ownsRow B 42 77 ev' (E.length + 1) (E.flatMap (fun i => (Rs i).cells) ++ (Rs i).cells)) (hg : wr.grownBy w' ev.ownBlock) : BM w2 w' Rs B ev' rv (E ++ [i]) L Mc nc fc Mg ng fg Ms ns Ks Ml nl Kl :=
  ⟨Below.grown h.ext hg h.ext.size (fun j hj => by rw [← h.eB]; exact (ownBlock_of h.oe hj).1), h.eB, by simpa using ho, ownsRow_keep h.orr (keep_app h.oe hg (by decide)),
    h.mc.block (keep_app_map h.oe hg h.mc.obj), h.mg.block (keep_app_map h.oe hg h.mg.obj), h.ms.block (keep_app_map h.oe hg h.ms.obj), h.ml.block (keep_app_map h.oe hg h.ml.obj), h.lc, h.lg, h.ls, h.ll, h.d1, h.d2, h.d3, h.d4, h.d5, h.d6⟩
theorem BM.appR {rv' : Value} {i : Nat} (h : BM w2 wr Rs B ev rv E L Mc nc fc Mg ng fg Ms ns Ks Ml nl Kl) (ho : w'.ownsRow B 3 1 rv' (L.length + 1) (L.map (fun i : Nat => Value.int .i64 (i : Int)) ++ [.int .i64 (i : Int)])) (hg : wr.grownBy w' rv.ownBlock) : BM w2 w' Rs B ev rv' E (L ++ [i]) Mc nc fc Mg ng fg Ms ns Ks Ml nl Kl :=
  ⟨Below.grown h.ext hg h.ext.size (fun j hj => by rw [← h.eB]; exact (ownBlock_of h.orr hj).1), h.eB, ownsRow_keep h.oe (keep_app h.orr hg (by decide)), by simpa using ho,
    h.mc.block (keep_app_map h.orr hg h.mc.obj), h.mg.block (keep_app_map h.orr hg h.mg.obj), h.ms.block (keep_app_map h.orr hg h.ms.obj), h.ml.block (keep_app_map h.orr hg h.ml.obj), h.lc, h.lg, h.ls, h.ll, h.d1, h.d2, h.d3, h.d4, h.d5, h.d6⟩
end

end Go.Proofs.Qxb6613557a
