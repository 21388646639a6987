/-
  SkillsFor, before. Own text.
-/
import Derived.Test.Qxb6613557aServe3
namespace Go.Proofs.Qxb6613557a
open Go.RowKit
set_option linter.unusedVariables false
set_option linter.unusedSimpArgs false
attribute [local go_sem ↓] L42.shut

/-- Those that SkillsFor serves. -/
def served (u : ByteArray) (T : List ByteArray) (S : Nat → Sk) (n : Nat) : List Nat := if anyEnt u T S (reTo S n) then vsTo u T S (conTo S n n) n else evTo S n

set_option maxHeartbeats 1000000 in
theorem skillsFor21 (C n : Nat) (Rs : Nat → Raw) (S : Nat → Sk) (Bs : Nat) (ea : Option Addr) (ec : Nat) (ra : Option Addr) (rc Mc Ms Ml : Nat) (u : ByteArray) (a : Option Addr) (m c : Nat) (T : List ByteArray) (w : World)
    (hn : n ≤ 4096) (hm : m ≤ 1048576) (hC : Cat w C n Rs S Bs ea ec ra rc Mc Ms Ml) (hT : SStr w a m T) (hnm : ∀ k, k < n → (S k).name.size ≤ 1048576) :
    Calls Try.prog 21 #[.pointer (some ⟨C, 0, none⟩), .agg #[.string u, .slice a m c]] w fun e w' => ∃ sa sc, e = .returned (.slice sa (served u T S n).length sc) ∧ SkSl w' sa (served u T S n) Rs ∧ Ext w w' := by
  have hx1 : Ext w ((w.alloc (.cells #[.pointer (some ⟨C, 0, none⟩)] 32)).alloc (.cells #[.string u, .slice a m c] 46)) := ((Ext.refl w).alloc _).alloc _
  have hC1 := hC.ext hx1
  have hT1 := hT.ext hx1
  have c9 := hC1.c9
  have h46 := heap_alloc_last (w.alloc (.cells #[.pointer (some ⟨C, 0, none⟩)] 32)) (.cells #[.string u, .slice a m c] 46)
  have h32 := ((Ext.refl _).alloc (.cells #[.string u, .slice a m c] 46)).blk (heap_alloc_last w (.cells #[.pointer (some ⟨C, 0, none⟩)] 32))
  simp only [World.size_alloc] at h46
  have hre := reTo_le S n
  have HLn : Hid (∀ i, i ∈ reTo S n → i < n) := reTo_lt S n
  have HC : Hid (Cat ((w.alloc (.cells #[.pointer (some ⟨C, 0, none⟩)] 32)).alloc (.cells #[.string u, .slice a m c] 46)) C n Rs S Bs ea ec ra rc Mc Ms Ml) := hC1
  clear hC hT hC1
  go_enter Try.func21, Try.ntmps21
  go_wp2_with fail
  generalize (w.alloc (.cells #[.pointer (some ⟨C, 0, none⟩)] 32)).alloc (.cells #[.string u, .slice a m c] 46) = w1 at *
  have p0 : w1.cell? ⟨w.heap.size + 1, 0, none⟩ = some (.string u) := by rw [cell_of_row _ _ _ _ _ _ h46]; rfl
  have p1 : w1.cell? ⟨w.heap.size + 1, 1, none⟩ = some (.slice a m c) := by rw [cell_of_row _ _ _ _ _ _ h46]; rfl
  have p2 : w1.cell? ⟨w.heap.size, 0, none⟩ = some (.pointer (some ⟨C, 0, none⟩)) := by rw [cell_of_row _ _ _ _ _ _ h32]; rfl
  generalize w.heap.size + 1 = P46 at *
  generalize hP32 : w.heap.size = P32 at p2 ⊢
  refine (containsFunc40 ra (reTo S n).length rc (reTo S n) P46 P32 C n Rs S Bs ea ec ra rc Mc Ms Ml u a m c T w1 rfl (by omega) HC.out.re HLn.out (by omega) hm HC.out hT1 p0 p1 p2).mono ?_
  rintro e w2 ⟨rfl, hx2⟩
  have HC2 : Hid (Cat w2 C n Rs S Bs ea ec ra rc Mc Ms Ml) := HC.out.ext hx2
  have hT2 := hT1.ext hx2
  have c8 := HC2.out.c8
  replace p0 := hx2.cellSome p0
  replace p1 := hx2.cellSome p1
  replace p2 := hx2.cellSome p2
  clear c9 h32 h46 hP32 hT1
  cases hany : anyEnt u T S (reTo S n) with
  | false =>
    have HS : Hid (served u T S n = evTo S n) := by show _ = _; rw [served, hany]; rfl
    clear hany
    go_wp2
    go_ret
    rw [HS.out]
    exact ⟨ea, ec, rfl, HC2.out.ev, hx1.trans hx2⟩
  | true =>
    have HS : Hid (served u T S n = vsTo u T S (conTo S n n) n) := by show _ = _; rw [served, hany]; rfl
    clear hany
    go_wp2_with fail
    refine (servedTo43 C n Rs S Bs ea ec ra rc Mc Ms Ml u a m c T w2 hn hm HC2.out hT2 hnm).mono ?_
    rintro e w3 ⟨sa, sc, rfl, hs3, hx3⟩
    go_wp2
    go_ret
    rw [HS.out]
    exact ⟨sa, sc, rfl, hs3, (hx1.trans hx2).trans hx3⟩

/-! ### before -/
/-- Does x go before s: by kind; by the place of the id, of the hub's key. -/
def bef (Ks Kl : List (List UInt8)) (x s : Sk) : Bool :=
  if x.src.toList == s.src.toList then
    (if isCustom x.src then decide (Ks.idxOf x.id.toList < Ks.idxOf s.id.toList)
     else if isHub x.src then decide (Kl.idxOf (repKey x) < Kl.idxOf (repKey s)) else false)
  else decide (rank x.src < rank s.src)

set_option maxHeartbeats 2000000 in
theorem before34 (C n : Nat) (Rs : Nat → Raw) (S : Nat → Sk) (Bs : Nat) (ea : Option Addr) (ec : Nat) (ra : Option Addr) (rc Mc Ms Ml : Nat) (x s : Raw) (w : World)
    (hn : n ≤ 4096) (hC : Cat w C n Rs S Bs ea ec ra rc Mc Ms Ml) (hx : Rd w x) (hs : Rd w s) (hxs : Small x.s) (hss : Small s.s) :
    Calls Try.prog 34 #[.pointer (some ⟨C, 0, none⟩), x.val, s.val] w fun e w' => e = .returned (.bool (bef (svTo S n) (ldTo S n) x.s s.s)) ∧ Ext w w' := by
  have hx1 : Ext w ((w.alloc (.cells x.arr 42)).alloc (.cells s.arr 42)) := ((Ext.refl w).alloc _).alloc _
  have hA := ((Ext.refl _).alloc (.cells s.arr 42)).blk (heap_alloc_last w (.cells x.arr 42))
  have hB := heap_alloc_last (w.alloc (.cells x.arr 42)) (.cells s.arr 42)
  simp only [World.size_alloc] at hB
  have HC : Hid (Cat ((w.alloc (.cells x.arr 42)).alloc (.cells s.arr 42)) C n Rs S Bs ea ec ra rc Mc Ms Ml) := hC.ext hx1
  have HX : Hid (Rd ((w.alloc (.cells x.arr 42)).alloc (.cells s.arr 42)) x) := hx.ext hx1
  have HS : Hid (Rd ((w.alloc (.cells x.arr 42)).alloc (.cells s.arr 42)) s) := hs.ext hx1
  clear hC hx hs
  go_enter Try.func34, Try.ntmps34
  go_upto_region 1 with fail
  generalize (w.alloc (.cells x.arr 42)).alloc (.cells s.arr 42) = w1 at *
  generalize w.heap.size + 1 = PB at *
  generalize w.heap.size = PA at *
  have a0 : w1.cell? ⟨PA, 0, none⟩ = some (.string x.s.id) := by rw [cell_of_row _ _ _ _ _ _ hA]; rfl
  have a3 : w1.cell? ⟨PA, 3, none⟩ = some (.string x.s.src) := by rw [cell_of_row _ _ _ _ _ _ hA]; rfl
  have b0 : w1.cell? ⟨PB, 0, none⟩ = some (.string s.s.id) := by rw [cell_of_row _ _ _ _ _ _ hB]; rfl
  have b3 : w1.cell? ⟨PB, 3, none⟩ = some (.string s.s.src) := by rw [cell_of_row _ _ _ _ _ _ hB]; rfl
  have HRa : Hid (w1.rangeAt PA 0 x.cells) := range_of_blk hA
  have HRb : Hid (w1.rangeAt PB 0 s.cells) := range_of_blk hB
  clear hA hB
  cases heq : (x.s.src.toList == s.s.src.toList) with
  | false =>
    have HB : Hid (bef (svTo S n) (ldTo S n) x.s s.s = decide (rank x.s.src < rank s.s.src)) := by show _ = _; rw [bef, heq]; rfl
    have HK : Hid (∀ w' : World, Ext w1 w' → (Ext w1 w' ∧ w'.cell? ⟨PA, 3, none⟩ = some (.string x.s.src) ∧ w'.cell? ⟨PB, 3, none⟩ = some (.string s.s.src))) := fun w' e => ⟨e, e.cellSome a3, e.cellSome b3⟩
    go_wp2
    go_region_held3 (fun w' => Ext w1 w' ∧ w'.cell? ⟨PA, 3, none⟩ = some (.string x.s.src) ∧ w'.cell? ⟨PB, 3, none⟩ = some (.string s.s.src))
      ((go_split_ands; refine HK.out _ ?_; first | assumption | exact (Ext.refl _).drew | (apply Ext.drew; assumption) | (refine Ext.trans ?_ (by assumption); assumption)))
      ((go_at_call 46; refine (rank46 _ _).mono ?_; rintro e w2 ⟨rfl, hx2⟩))
    go_split_ands
    go_wp2
    go_ret
    exact ⟨by rw [HB.out]; rfl, hx1.trans (by assumption)⟩
  | true =>
  cases hcu : isCustom x.s.src with
  | true =>
    have HB : Hid (bef (svTo S n) (ldTo S n) x.s s.s = decide ((svTo S n).idxOf x.s.id.toList < (svTo S n).idxOf s.s.id.toList)) := by show _ = _; rw [bef, heq, hcu]; rfl
    unfold isCustom at hcu
    have hi1 : x.s.id.size ≤ 2147483648 := by have := hxs.id; omega
    have hi2 : s.s.id.size ≤ 2147483648 := by have := hss.id; omega
    have HK : Hid (∀ w' : World, Ext w1 w' → (Ext w1 w' ∧ w'.cell? ⟨C, 11, none⟩ = some (.map (some Ms)) ∧ w'.cell? ⟨PA, 0, none⟩ = some (.string x.s.id) ∧ w'.cell? ⟨PB, 0, none⟩ = some (.string s.s.id))) := fun w' e => ⟨e, e.cellSome HC.out.c11, e.cellSome a0, e.cellSome b0⟩
    have HP : Hid (∀ (w' : World) (y : ByteArray), y.size ≤ 2147483648 → Ext w1 w' → Calls Try.prog 47 #[.map (some Ms), .string y] w' fun e w'' => e = .returned (.int .i64 ((svTo S n).idxOf y.toList : Nat)) ∧ Ext w' w'') := fun w' y hy e =>
      (place47 Ms n (svTo S n) y w' (HC.out.ms.ext e) hy).mono (by rintro e w'' ⟨rfl, rfl⟩; exact ⟨rfl, Ext.refl _⟩)
    go_wp2
    go_region_held3 (fun w' => Ext w1 w' ∧ w'.cell? ⟨C, 11, none⟩ = some (.map (some Ms)) ∧ w'.cell? ⟨PA, 0, none⟩ = some (.string x.s.id) ∧ w'.cell? ⟨PB, 0, none⟩ = some (.string s.s.id))
      ((go_split_ands; refine HK.out _ ?_; first | assumption | exact (Ext.refl _).drew | (apply Ext.drew; assumption) | (refine Ext.trans ?_ (by assumption); assumption)))
      ((go_at_call 47; go_split_ands; refine (HP.out _ _ (by assumption) (by assumption)).mono ?_; rintro e w2 ⟨rfl, hx2⟩))
    go_split_ands
    go_wp2
    go_ret
    exact ⟨by rw [HB.out]; rfl, hx1.trans (by assumption)⟩
  | false =>
  cases hhu : isHub x.s.src with
  | false =>
    have HB : Hid (bef (svTo S n) (ldTo S n) x.s s.s = false) := by show _ = _; rw [bef, heq, hcu, hhu]; rfl
    unfold isCustom at hcu
    unfold isHub at hhu
    go_wp2
    go_ret
    exact ⟨by rw [HB.out]; rfl, hx1⟩
  | true =>
    have HB : Hid (bef (svTo S n) (ldTo S n) x.s s.s = decide ((ldTo S n).idxOf (repKey x.s) < (ldTo S n).idxOf (repKey s.s))) := by show _ = _; rw [bef, heq, hcu, hhu]; rfl
    unfold isCustom at hcu
    unfold isHub at hhu
    have HP : Hid (∀ (w' : World) (y : ByteArray), y.size ≤ 2147483648 → Ext w1 w' → Calls Try.prog 47 #[.map (some Ml), .string y] w' fun e w'' => e = .returned (.int .i64 ((ldTo S n).idxOf y.toList : Nat)) ∧ Ext w' w'') := fun w' y hy e =>
      (place47 Ml n (ldTo S n) y w' (HC.out.ml.ext e) hy).mono (by rintro e w'' ⟨rfl, rfl⟩; exact ⟨rfl, Ext.refl _⟩)
    have H48 : ∀ r : Raw, Rd w1 r → Small r.s → ∀ w', Ext w1 w' → Calls Try.prog 48 #[r.val] w' fun e w'' => ∃ y : ByteArray, e = .returned (.string y) ∧ Hid (y.toList = repKey r.s) ∧ y.size ≤ 2147483648 ∧ Ext w' w'' := fun r h1 h2 w' e =>
      (hubReport48 r w' (h1.ext e) h2).mono (by rintro e w'' ⟨y, rfl, hy, hys, rfl⟩; exact ⟨y, rfl, hy, hys, (Ext.refl _).alloc _⟩)
    have hvx : ∃ vx, Hid (x.val = vx) := ⟨_, rfl⟩
    have hvs : ∃ vs, Hid (s.val = vs) := ⟨_, rfl⟩
    obtain ⟨vx, HVX⟩ := hvx
    obtain ⟨vs, HVS⟩ := hvs
    have HX48 := H48 x HX.out hxs
    have HS48 := H48 s HS.out hss
    have HK : Hid (∀ w' : World, Ext w1 w' → (Ext w1 w' ∧ w'.cell? ⟨C, 12, none⟩ = some (.map (some Ml)) ∧ (L42 (.pointer (some ⟨PA, 0, none⟩))).run Try.prog w' = .ok vx w' ∧ (L42 (.pointer (some ⟨PB, 0, none⟩))).run Try.prog w' = .ok vs w')) := fun w' e =>
      ⟨e, e.cellSome HC.out.c12, by rw [← HVX.out]; exact L42.of (e.range HRa.out), by rw [← HVS.out]; exact L42.of (e.range HRb.out)⟩
    rw [HVX.out] at HX48
    rw [HVS.out] at HS48
    have GX : Hid (∀ w', Ext w1 w' → Calls Try.prog 48 #[vx] w' fun e w'' => ∃ y : ByteArray, e = .returned (.string y) ∧ Hid (y.toList = repKey x.s) ∧ y.size ≤ 2147483648 ∧ Ext w' w'') := HX48
    have GS : Hid (∀ w', Ext w1 w' → Calls Try.prog 48 #[vs] w' fun e w'' => ∃ y : ByteArray, e = .returned (.string y) ∧ Hid (y.toList = repKey s.s) ∧ y.size ≤ 2147483648 ∧ Ext w' w'') := HS48
    clear H48 HX48 HS48
    go_wp2
    go_region_held3 (fun w' => Ext w1 w' ∧ w'.cell? ⟨C, 12, none⟩ = some (.map (some Ml)) ∧ (L42 (.pointer (some ⟨PA, 0, none⟩))).run Try.prog w' = .ok vx w' ∧ (L42 (.pointer (some ⟨PB, 0, none⟩))).run Try.prog w' = .ok vs w')
      ((go_split_ands; refine HK.out _ ?_; first | assumption | exact (Ext.refl _).drew | (apply Ext.drew; assumption) | (refine Ext.trans ?_ (by assumption); assumption)))
      (first
        | (go_at_call 47; go_split_ands; refine (HP.out _ _ (by assumption) (by assumption)).mono ?_; rintro e w2 ⟨rfl, hx2⟩)
        | (go_at_call_of 48 vx; go_split_ands; refine (GX.out _ (by assumption)).mono ?_; rintro e w2 ⟨y1, rfl, HY1, hys1, hx2⟩)
        | (go_at_call_of 48 vs; go_split_ands; refine (GS.out _ (by assumption)).mono ?_; rintro e w2 ⟨y2, rfl, HY2, hys2, hx2⟩))
    go_split_ands
    go_wp2
    go_ret
    exact ⟨by rw [HB.out, ← HY1.out, ← HY2.out]; rfl, hx1.trans (by assumption)⟩
end Go.Proofs.Qxb6613557a
