/-
  HiddenBy. Own text.
-/
import Derived.Test.Qxb6613557aServe4
namespace Go.Proofs.Qxb6613557a
open Go.RowKit
set_option linter.unusedVariables false
set_option linter.unusedSimpArgs false
attribute [local go_sem ↓] L42.shut

/-- The zero Skill. -/
def zeroRaw : Raw := ⟨⟨⟨#[]⟩, ⟨#[]⟩, ⟨#[]⟩, ⟨#[]⟩, none, none, none⟩, none, none, none, 0, 0⟩

/-- What HiddenBy answers. -/
def HidBy (S : Nat → Sk) (n : Nat) (Rs : Nat → Raw) (L : List Nat) (s : Sk) (e : Ending) : Prop :=
  (∃ j : Nat, j < L.length ∧ Found S L s.name.toList j ∧ bef (svTo S n) (ldTo S n) (S (L.getD j 0)) s = true ∧ e = .returned (.tuple #[(Rs (L.getD j 0)).val, .bool true])) ∨
  ((Found S L s.name.toList (-1) ∨ ∃ j : Nat, j < L.length ∧ Found S L s.name.toList j ∧ bef (svTo S n) (ldTo S n) (S (L.getD j 0)) s = false) ∧ e = .returned (.tuple #[zeroRaw.val, .bool false]))

theorem build42 (w : World) : (Instr.build 42 #[]).run Try.prog w = .ok zeroRaw.val w := by kernel_rfl

theorem results_cell_slot {P : Program} {fn : Func} {p q : Tmp} {ty : TypeId} (h : fn.results = #[.cell p ty, .tmp q]) (tmps : Array Value) (w : World) (g : Nat) (t : TypeId) (cs : Array Value) (fr : Nat × Nat) (d : TypeDesc) (b : Value)
    (hp : tmps.getD p undef = .pointer (some ⟨g, 0, none⟩)) (hq : tmps.getD q undef = b) (hg : w.heap[g]? = some (.cells cs t fr))
    (hu : P.underlying ty = some d) (hd : (match d with | .struct _ | .array _ _ => true | _ => false) = true) (hi : (P.info? ty).map (·.size) = some cs.size) :
    (results fn tmps).run P w = .ok (.tuple #[.agg cs, b]) w := by
  have hp' : tmps[p]?.getD undef = .pointer (some ⟨g, 0, none⟩) := by simpa using hp
  have hq' : tmps[q]?.getD undef = b := by simpa using hq
  simp [results, h, hp', hq', asAddr, run_loadVar_row w g t ty cs fr d hg hu hd hi]

theorem Found.congr {S S' : Nat → Sk} {L : List Nat} {x : List UInt8} {z : Int} (h : Found S L x z) (e : ∀ i, i ∈ L → S i = S' i) : Found S' L x z := by
  have e' : ∀ t, t < L.length → S (L.getD t 0) = S' (L.getD t 0) := fun t ht => e _ (by rw [getD_at L 0 t ht]; exact List.getElem_mem _)
  rcases h with ⟨j, h1, h2, h3, h4⟩ | ⟨h1, h2⟩
  · exact .inl ⟨j, h1, h2, by rw [← e' j h2]; exact h3, fun t ht => by rw [← e' t (by omega)]; exact h4 t ht⟩
  · exact .inr ⟨h1, fun t ht => by rw [← e' t ht]; exact h2 t ht⟩

set_option maxHeartbeats 2000000 in
theorem hiddenBy13 (C n : Nat) (Rs : Nat → Raw) (S : Nat → Sk) (Bs : Nat) (ea : Option Addr) (ec : Nat) (ra : Option Addr) (rc Mc Ms Ml : Nat) (u : ByteArray) (a : Option Addr) (m c : Nat) (T : List ByteArray) (s : Raw) (w : World)
    (hn : n ≤ 4096) (hm : m ≤ 1048576) (hC : Cat w C n Rs S Bs ea ec ra rc Mc Ms Ml) (hT : SStr w a m T) (hsm : ∀ k, k < n → Small (S k)) (hs : Rd w s) (hss : Small s.s) (hL : ∀ i, i ∈ served u T S n → i < n) (hLl : (served u T S n).length ≤ n) :
    Calls Try.prog 13 #[.pointer (some ⟨C, 0, none⟩), .agg #[.string u, .slice a m c], s.val] w fun e w' => HidBy S n Rs (served u T S n) s.s e ∧ Ext w w' := by
  have hx1 : Ext w (((w.alloc (.cells #[.string u, .slice a m c] 46)).alloc (.cells s.arr 42)).alloc (.cells Try.zeroCells42 42)) := (((Ext.refl w).alloc _).alloc _).alloc _
  have HC : Hid (Cat (((w.alloc (.cells #[.string u, .slice a m c] 46)).alloc (.cells s.arr 42)).alloc (.cells Try.zeroCells42 42)) C n Rs S Bs ea ec ra rc Mc Ms Ml) := hC.ext hx1
  have HS : Hid (Rd (((w.alloc (.cells #[.string u, .slice a m c] 46)).alloc (.cells s.arr 42)).alloc (.cells Try.zeroCells42 42)) s) := hs.ext hx1
  have hT1 := hT.ext hx1
  have h3 := heap_alloc3 w (.cells #[.string u, .slice a m c] 46) (.cells s.arr 42) (.cells Try.zeroCells42 42)
  have hb := build42
  clear hC hs hT
  go_enter Try.func13, Try.ntmps13
  go_upto_region 1 with fail
  generalize ((w.alloc (.cells #[.string u, .slice a m c] 46)).alloc (.cells s.arr 42)).alloc (.cells Try.zeroCells42 42) = w1 at *
  obtain ⟨hP1, hP2, hP3'⟩ := h3
  have hP3 : w1.heap[w.heap.size + 1 + 1]? = some (.cells Try.zeroCells42 42 (0, 0)) := hP3'
  have hw3 : w.heap.size ≤ w.heap.size + 1 + 1 := by omega
  clear hP3'
  generalize w.heap.size + 1 + 1 = PH at *
  generalize w.heap.size + 1 = PS at *
  generalize hPC : w.heap.size = PC at *
  have p0 : w1.cell? ⟨PC, 0, none⟩ = some (.string u) := by rw [cell_of_row _ _ _ _ _ _ hP1]; rfl
  have p1 : w1.cell? ⟨PC, 1, none⟩ = some (.slice a m c) := by rw [cell_of_row _ _ _ _ _ _ hP1]; rfl
  have HSM : Hid (∀ k, k < n → Small (S k)) := hsm
  have hnm : ∀ k, k < n → (S k).name.size ≤ 1048576 := fun k hk => (hsm k hk).name
  have HL : Hid (∀ i, i ∈ served u T S n → i < n) := hL
  clear hsm hL
  go_wp2_with fail
  refine (skillsFor21 C n Rs S Bs ea ec ra rc Mc Ms Ml u a m c T w1 hn hm HC.out hT1 hnm).mono ?_
  rintro e w2 ⟨sa, sc, rfl, hsl, hx2⟩
  have p4 : w2.cell? ⟨PS, 1, none⟩ = some (.string s.s.name) := by rw [cell_of_row _ _ _ _ _ _ (hx2.blk hP2)]; rfl
  have HSL : Hid (SkSl w2 sa (served u T S n) Rs) := hsl
  clear p0 p1 hP1 hT1 hnm hsl
  go_wp2_with fail
  refine (indexFunc32 sa (served u T S n).length sc (served u T S n) Rs PS s.s.name w2 rfl (by omega) HSL.out p4).mono ?_
  rintro e w3 ⟨z, rfl, hz, hx3⟩
  have HF : Hid (Found S (served u T S n) s.s.name.toList z) := hz.congr (fun i hi => (HC.out.rd i (HL.out i hi)).1)
  have hx13 := hx2.trans hx3
  replace hP2 := hx13.blk hP2
  replace hP3 := hx13.blk hP3
  have hxw := hx1.trans hx13
  clear p4 hz
  have hz2 : z = -1 ∨ ∃ j : Nat, z = j ∧ j < (served u T S n).length := by
    rcases HF.out with ⟨j, h1, h2, _⟩ | ⟨h1, _⟩
    · exact .inr ⟨j, h1, h2⟩
    · exact .inl h1
  rcases hz2 with rfl | ⟨j, rfl, hj⟩
  · go_wp2
    go_quiet (fail)
    go_wp2_with ((with_reducible apply store42_blk zeroRaw); exact rfl; exact rfl; exact rfl; exact rfl; exact (Ext.drewN (Ext.refl _) _).blk hP3; exact zero42_size; intro w8 h8 ho8 hs8 hb8)
    refine bodyPost_ret (v := .tuple #[zeroRaw.val, .bool false]) (results_cell_slot Try.results13 _ _ PH 42 _ (0, 0) _ _ rfl rfl h8 Try.underlying42 rfl info42) rfl ⟨.inr ⟨.inl HF.out, rfl⟩, ?_⟩
    exact Below.trans (hxw.drewN _) (hb8 _ (by omega))
  · obtain ⟨b2, o2, rfl, hcL⟩ := HSL.out (by omega)
    have hRj := hx3.range (hcL j hj)
    have hi : (served u T S n).getD j 0 < n := HL.out _ (by rw [getD_at _ 0 j hj]; exact List.getElem_mem _)
    obtain ⟨i, hie⟩ : ∃ i, (served u T S n).getD j 0 = i := ⟨_, rfl⟩
    have HI : Hid ((served u T S n).getD j 0 = i) := hie
    rw [hie] at hi hRj
    clear hie hcL
    have HC3 : Hid (Cat w3 C n Rs S Bs ea ec ra rc Mc Ms Ml) := HC.out.ext hx13
    have hRsi : (Rs i).s = S i := (HC.out.rd i hi).1
    have hvr : ∃ vr, Hid ((Rs i).val = vr) := ⟨_, rfl⟩
    have hvs : ∃ vs, Hid (s.val = vs) := ⟨_, rfl⟩
    obtain ⟨vr, HVR⟩ := hvr
    obtain ⟨vs, HVS⟩ := hvs
    have HBf : Hid (∀ w', Ext w3 w' → Calls Try.prog 34 #[.pointer (some ⟨C, 0, none⟩), vr, vs] w' fun e w'' => e = .returned (.bool (bef (svTo S n) (ldTo S n) (S i) s.s)) ∧ Ext w' w'') := fun w' e => by
      rw [← HVR.out, ← HVS.out, ← hRsi]
      exact before34 C n Rs S Bs ea ec ra rc Mc Ms Ml (Rs i) s w' hn (HC3.out.ext e) ((HC3.out.ext e).rd i hi).2.2 (HS.out.ext (hx13.trans e)) (by rw [hRsi]; exact HSM.out i hi) hss
    have HRS : Hid (w3.rangeAt PS 0 s.cells) := range_of_blk hP2
    have HRJ : Hid (w3.rangeAt b2 (o2 + j * 77) (Rs i).cells) := hRj
    have HK : Hid (∀ w' : World, Ext w3 w' → (Ext w3 w' ∧ (L42 (.pointer (some ⟨b2, o2 + j * 77, none⟩))).run Try.prog w' = .ok vr w' ∧ (L42 (.pointer (some ⟨PS, 0, none⟩))).run Try.prog w' = .ok vs w')) := fun w' e =>
      ⟨e, by rw [← HVR.out]; exact L42.of (e.range HRJ.out), by rw [← HVS.out]; exact L42.of (e.range HRS.out)⟩
    have hj' : (j : Int) < ((served u T S n).length : Int) := by omega
    have hj0 : (0 : Int) ≤ (j : Int) := by omega
    have hj1 : decide ((j : Int) < 0) = false := decide_eq_false (by omega)
    clear hRj hP2 hRsi
    cases hbf : bef (svTo S n) (ldTo S n) (S i) s.s with
    | false =>
      have HBB : Hid (bef (svTo S n) (ldTo S n) (S i) s.s = false) := hbf
      rw [hbf] at HBf
      clear hbf
      go_wp2
      go_region_held3 (fun w' => Ext w3 w' ∧ (L42 (.pointer (some ⟨b2, o2 + j * 77, none⟩))).run Try.prog w' = .ok vr w' ∧ (L42 (.pointer (some ⟨PS, 0, none⟩))).run Try.prog w' = .ok vs w')
        ((go_split_ands; refine HK.out _ ?_; first | assumption | exact (Ext.refl _).drew | (apply Ext.drew; assumption) | (refine Ext.trans ?_ (by assumption); assumption)))
        ((go_at_call 34; go_split_ands; refine (HBf.out _ (by assumption)).mono ?_; rintro e w4 ⟨rfl, hx4⟩))
      go_split_ands
      have hx34 : Ext w3 w4 := by assumption
      have hP4 := hx34.blk hP3
      go_wp2_with ((with_reducible apply store42_blk zeroRaw); exact rfl; exact rfl; exact rfl; exact rfl; exact hP4; exact zero42_size; intro w8 h8 ho8 hs8 hb8)
      refine bodyPost_ret (v := .tuple #[zeroRaw.val, .bool false]) (results_cell_slot Try.results13 _ _ PH 42 _ (0, 0) _ _ rfl rfl h8 Try.underlying42 rfl info42) rfl ⟨.inr ⟨.inr ⟨j, hj, HF.out, by rw [HI.out]; exact HBB.out⟩, rfl⟩, ?_⟩
      exact Below.trans (hxw.trans hx34) (hb8 _ (by omega))
    | true =>
      have HBB : Hid (bef (svTo S n) (ldTo S n) (S i) s.s = true) := hbf
      rw [hbf] at HBf
      clear hbf
      go_wp2
      go_region_held3 (fun w' => Ext w3 w' ∧ (L42 (.pointer (some ⟨b2, o2 + j * 77, none⟩))).run Try.prog w' = .ok vr w' ∧ (L42 (.pointer (some ⟨PS, 0, none⟩))).run Try.prog w' = .ok vs w')
        ((go_split_ands; refine HK.out _ ?_; first | assumption | exact (Ext.refl _).drew | (apply Ext.drew; assumption) | (refine Ext.trans ?_ (by assumption); assumption)))
        ((go_at_call 34; go_split_ands; refine (HBf.out _ (by assumption)).mono ?_; rintro e w4 ⟨rfl, hx4⟩))
      go_split_ands
      have hx34 : Ext w3 w4 := by assumption
      have hP4 := hx34.blk hP3
      have hR4 := hx34.range HRJ.out
      go_wp2_with (first | ((with_reducible apply load42 (Rs i)); exact rfl; exact rfl; exact rfl; exact hR4) | ((with_reducible apply store42_blk (Rs i)); exact rfl; exact rfl; exact rfl; exact rfl; exact hP4; exact zero42_size; intro w8 h8 ho8 hs8 hb8))
      refine bodyPost_ret (v := .tuple #[(Rs i).val, .bool true]) (results_cell_slot Try.results13 _ _ PH 42 _ (0, 0) _ _ rfl rfl h8 Try.underlying42 rfl info42) rfl ⟨.inl ⟨j, hj, HF.out, by rw [HI.out]; exact HBB.out, by rw [HI.out]⟩, ?_⟩
      exact Below.trans (hxw.trans hx34) (hb8 _ (by omega))
end Go.Proofs.Qxb6613557a
