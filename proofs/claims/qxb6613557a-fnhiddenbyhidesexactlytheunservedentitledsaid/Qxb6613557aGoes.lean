/-
  zzGoesBefore. Own text.
-/
import Derived.Test.Qxb6613557aFirst
import Derived.Deep.DeepCutAuto
namespace Go.Proofs.Qxb6613557a
open Go.RowKit
set_option linter.unusedVariables false
set_option linter.unusedSimpArgs false

/-- Where s's hub comes first; -1 if it does not, or if s names none. -/
def fsHub (S : Nat → Sk) (n : Nat) (s : Sk) : Int := match s.sid with
  | some y => fstTo (hbP S y) n
  | none => -1
/-- Does x go strictly before s (zzGoesBefore). -/
def gb (S : Nat → Sk) (n : Nat) (x s : Sk) : Bool :=
  if rank x.src = rank s.src then
    (if isCustom x.src then (decide (fstTo (cuP S s.id) n < 0) || decide (fstTo (cuP S x.id) n < fstTo (cuP S s.id) n))
     else if isHub x.src then (decide (fsHub S n s < 0) || decide (fsHub S n x < fsHub S n s)) else false)
  else decide (rank x.src < rank s.src)

set_option maxHeartbeats 2000000 in
theorem goesBefore16 (a : Option Addr) (n c b o : Nat) (R : Nat → Raw) (i : Nat) (s : Raw) (w : World) (hn : n ≤ 1048576) (ha : 0 < n → a = some ⟨b, o, none⟩) (hl : Lst w b o n R) (hi : i < n) (hs : Rd w s) (hsid : isHub (R i).s.src = true → (R i).s.sid ≠ none) :
    Calls Try.prog 16 #[.slice a n c, .int .i64 i, s.valIn] w fun e w' => e = .returned (.bool (gb (fun k => (R k).s) n (R i).s s.s)) ∧ Ext w w' := by
  unfold Raw.valIn
  obtain rfl := ha (by omega)
  have hx0 := (Ext.refl w).alloc (.cells #[.string s.s.id, .string s.s.name, .string s.s.src, .pointer s.sid, .string s.s.vis, .slice s.tm s.tl s.tc, .pointer s.own] 26)
  have hP0 := InBox.new w s
  have hi' : (i : Int) < (n : Int) := by omega
  go_enter Try.func16, Try.ntmps16
  go_upto_region 1 with fail
  have hl0 := hl.ext hx0
  replace hs := hs.ext hx0
  clear hl
  generalize w.alloc (.cells #[.string s.s.id, .string s.s.name, .string s.s.src, .pointer s.sid, .string s.s.vis, .slice s.tm s.tl s.tc, .pointer s.own] 26) = w0 at *
  generalize w.heap.size = P at *
  obtain ⟨g0, g1, g2, g3, g4, g5, g6⟩ := hl0.seven hi
  go_upto_region 2 with fail
  have hx1 : Ext w0 (w0.alloc (.cells #[.string (R i).s.id, .string (R i).s.name, .string (R i).s.src, .pointer (R i).sid, .string (R i).s.vis, .slice (R i).tm (R i).tl (R i).tc, .pointer (R i).own] 26)) := (Ext.refl w0).alloc _
  have hQ := InBox.new w0 (R i)
  generalize w0.alloc (.cells #[.string (R i).s.id, .string (R i).s.name, .string (R i).s.src, .pointer (R i).sid, .string (R i).s.vis, .slice (R i).tm (R i).tl (R i).tc, .pointer (R i).own] 26) = w1 at *
  generalize w0.heap.size = Q at *
  have hl1 := hl0.ext hx1
  have hs1 := hs.ext hx1
  have hP1 := hP0.ext hx1
  clear hl0 hs hP0 g0 g1 g2 g3 g4 g5 g6
  have HP : Hid (∀ w', Ext w1 w' → w'.cell? ⟨P, 0, none⟩ = some (.string s.s.id) ∧ w'.cell? ⟨P, 1, none⟩ = some (.string s.s.name) ∧ w'.cell? ⟨P, 2, none⟩ = some (.string s.s.src) ∧ w'.cell? ⟨P, 3, none⟩ = some (.pointer s.sid) ∧ w'.cell? ⟨P, 4, none⟩ = some (.string s.s.vis) ∧ w'.cell? ⟨P, 5, none⟩ = some (.slice s.tm s.tl s.tc) ∧ w'.cell? ⟨P, 6, none⟩ = some (.pointer s.own)) := fun w' e => (hP1.ext e).cells
  have HQ : Hid (∀ w', Ext w1 w' → w'.cell? ⟨Q, 0, none⟩ = some (.string (R i).s.id) ∧ w'.cell? ⟨Q, 1, none⟩ = some (.string (R i).s.name) ∧ w'.cell? ⟨Q, 2, none⟩ = some (.string (R i).s.src) ∧ w'.cell? ⟨Q, 3, none⟩ = some (.pointer (R i).sid) ∧ w'.cell? ⟨Q, 4, none⟩ = some (.string (R i).s.vis) ∧ w'.cell? ⟨Q, 5, none⟩ = some (.slice (R i).tm (R i).tl (R i).tc) ∧ w'.cell? ⟨Q, 6, none⟩ = some (.pointer (R i).own)) := fun w' e => (hQ.ext e).cells
  clear hP1 hQ
  have HK : Hid (∀ w' : World, Ext w1 w' → (Ext w1 w' ∧ w'.cell? ⟨Q, 2, none⟩ = some (.string (R i).s.src) ∧ w'.cell? ⟨P, 2, none⟩ = some (.string s.s.src))) := fun w' e => ⟨e, (HQ.out w' e).2.2.1, (HP.out w' e).2.2.1⟩
  go_region_held3 (fun w' => Ext w1 w' ∧ w'.cell? ⟨Q, 2, none⟩ = some (.string (R i).s.src) ∧ w'.cell? ⟨P, 2, none⟩ = some (.string s.s.src))
    ((go_split_ands; refine HK.out _ ?_; first | assumption | exact (Ext.refl _).drew | (apply Ext.drew; assumption) | (refine Ext.trans ?_ (by assumption); assumption)))
    ((go_at_call 11; refine (zzRank _ _).mono ?_; rintro e w2 ⟨rfl, rfl⟩))
  go_split_ands
  have hx2 : Ext w1 w1.drew := (Ext.refl w1).drew
  have hl2 := hl1.ext hx2
  have hs2 := hs1.ext hx2
  obtain ⟨p0, -, p2, p3, -, -, -⟩ := HP.out _ hx2
  obtain ⟨q0, -, q2, q3, -, -, -⟩ := HQ.out _ hx2
  have hxa := (hx0.trans hx1).trans hx2
  clear hl1 hs1 HK HP HQ hx0 hx1
  generalize w1.drew = w2 at *
  by_cases hrk : rank (R i).s.src = rank s.s.src
  · cases hcu : isCustom (R i).s.src with
    | true =>
      have HB : Hid (gb (fun k => (R k).s) n (R i).s s.s = (decide (fstTo (cuP (fun k => (R k).s) s.s.id) n < 0) || decide (fstTo (cuP (fun k => (R k).s) (R i).s.id) n < fstTo (cuP (fun k => (R k).s) s.s.id) n))) := by show _ = _; rw [gb, if_pos hrk, hcu]; rfl
      unfold isCustom at hcu
      go_wp2_with fail
      refine (firstCustom36 _ n c b o R s.s.id w2 hn (fun _ => rfl) hl2).mono ?_
      rintro e w3 ⟨rfl, rfl⟩
      by_cases hf : fstTo (cuP (fun k => (R k).s) s.s.id) n < 0
      · have HB2 : Hid (gb (fun k => (R k).s) n (R i).s s.s = true) := by show _ = _; rw [HB.out]; simp [hf]
        clear HB
        go_wp2
        go_ret
        exact ⟨by rw [HB2.out]; rfl, hxa⟩
      · have HB2 := HB
        clear HB
        go_wp2_with fail
        refine (firstCustom36 _ n c b o R (R i).s.id w2 hn (fun _ => rfl) hl2).mono ?_
        rintro e w3 ⟨rfl, rfl⟩
        go_wp2
        go_ret
        exact ⟨by rw [HB2.out]; rfl, hxa⟩
    | false =>
    cases hhu : isHub (R i).s.src with
    | false =>
      have HB : Hid (gb (fun k => (R k).s) n (R i).s s.s = false) := by show _ = _; rw [gb, if_pos hrk, hcu, hhu]; rfl
      unfold isCustom at hcu
      unfold isHub at hhu
      go_wp2
      go_ret
      exact ⟨by rw [HB.out]; rfl, hxa⟩
    | true =>
      have HB : Hid (gb (fun k => (R k).s) n (R i).s s.s = (decide (fsHub (fun k => (R k).s) n s.s < 0) || decide (fsHub (fun k => (R k).s) n (R i).s < fsHub (fun k => (R k).s) n s.s))) := by show _ = _; rw [gb, if_pos hrk, hcu, hhu]; rfl
      have hsid' := hsid hhu
      unfold isCustom at hcu
      unfold isHub at hhu
      rcases (hl2.rd i hi).sid with ⟨hp, hv⟩ | ⟨b1, o1, x, hp, hv, hcx⟩
      · exact absurd hv hsid'
      have HX : Hid (fsHub (fun k => (R k).s) n (R i).s = fstTo (hbP (fun k => (R k).s) x) n) := by show _ = _; rw [fsHub, hv]
      rw [hp] at q3
      clear hp hv hsid' hsid
      rcases hs2.sid with ⟨hp, hv⟩ | ⟨b3, o3, y, hp, hv, hcy⟩
      · have HB2 : Hid (gb (fun k => (R k).s) n (R i).s s.s = true) := by show _ = _; rw [HB.out, show fsHub (fun k => (R k).s) n s.s = -1 by rw [fsHub, hv]]; rfl
        rw [hp] at p3
        clear hp hv HB
        go_wp2
        go_ret
        exact ⟨by rw [HB2.out]; rfl, hxa⟩
      have hY : fsHub (fun k => (R k).s) n s.s = fstTo (hbP (fun k => (R k).s) y) n := by rw [fsHub, hv]
      rw [hY, HX.out] at HB
      rw [hp] at p3
      clear hp hv hY HX
      go_wp2_with fail
      refine (firstHub37 _ n c b o R y w2 hn (fun _ => rfl) hl2).mono ?_
      rintro e w3 ⟨rfl, rfl⟩
      by_cases hf : fstTo (hbP (fun k => (R k).s) y) n < 0
      · have HB2 : Hid (gb (fun k => (R k).s) n (R i).s s.s = true) := by show _ = _; rw [HB.out]; simp [hf]
        clear HB
        go_wp2
        go_ret
        exact ⟨by rw [HB2.out]; rfl, hxa⟩
      · have HB2 := HB
        clear HB
        go_wp2_with fail
        refine (firstHub37 _ n c b o R x w2 hn (fun _ => rfl) hl2).mono ?_
        rintro e w3 ⟨rfl, rfl⟩
        go_wp2
        go_ret
        exact ⟨by rw [HB2.out]; rfl, hxa⟩
  · have HB : Hid (gb (fun k => (R k).s) n (R i).s s.s = decide (rank (R i).s.src < rank s.s.src)) := by show _ = _; rw [gb, if_neg hrk]
    go_wp2
    go_ret
    exact ⟨by rw [HB.out]; rfl, hxa⟩
end Go.Proofs.Qxb6613557a
