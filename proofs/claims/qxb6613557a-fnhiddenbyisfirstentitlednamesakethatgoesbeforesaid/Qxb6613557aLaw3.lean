/-
  FnHiddenByIsFirstEntitledNamesakeThatGoesBefore: it answers true. Own text.
-/
import Derived.Test.Qxb6613557aPlain
import Derived.Test.Qxb6613557aSame
import Derived.Test.Qxb6613557aBytes2
namespace Go.Proofs.Qxb6613557a
open Go.RowKit
set_option linter.unusedVariables false
set_option linter.unusedSimpArgs false
attribute [local go_sem ↓] L42.shut

/-- What HiddenBy answers, by the first entitled namesake. -/
def Hid3 (u : ByteArray) (T : List ByteArray) (S : Nat → Sk) (n : Nat) (Rs : Nat → Raw) (s : Sk) (rr : Raw) (okb : Bool) : Prop :=
  (okb = true ∧ ∃ i : Nat, i < n ∧ fstTo (neP u T S s.name.toList) n = i ∧ gb S n (S i) s = true ∧ rr = Rs i) ∨
  (okb = false ∧ rr = zeroRaw ∧ (fstTo (neP u T S s.name.toList) n = -1 ∨ ∃ i : Nat, i < n ∧ fstTo (neP u T S s.name.toList) n = i ∧ gb S n (S i) s = false))

theorem HidBy.split {u : ByteArray} {T : List ByteArray} {S : Nat → Sk} {n : Nat} {Rs : Nat → Raw} {s : Sk} {e : Ending} (h : HidBy S n Rs (served u T S n) s e) (hR : Reach S n) (hs : 0 ≤ rank s.src) :
    ∃ rr okb, e = .returned (.tuple #[rr.val, .bool okb]) ∧ Hid3 u T S n Rs s rr okb := by
  rw [served_fe] at h
  rcases h with ⟨j, hj, hf, hb, rfl⟩ | ⟨hf | ⟨j, hj, hf, hb⟩, rfl⟩
  · obtain ⟨h1, h2⟩ := found_first hf
    exact ⟨_, _, rfl, .inl ⟨rfl, _, h2, h1, by rw [← bef_gb hR h2 s hs]; exact hb, rfl⟩⟩
  · exact ⟨_, _, rfl, .inr ⟨rfl, rfl, .inl (found_none hf)⟩⟩
  · obtain ⟨h1, h2⟩ := found_first hf
    exact ⟨_, _, rfl, .inr ⟨rfl, rfl, .inr ⟨_, h2, h1, by rw [← bef_gb hR h2 s hs]; exact hb⟩⟩⟩

theorem fst_mono {p : Nat → Bool} {k n : Nat} (h : 0 ≤ fstTo p k) (hk : k ≤ n) : fstTo p n = fstTo p k := by
  rcases fstTo_cases p k with ⟨h1, _⟩ | ⟨j, h1, h2, h3, h4⟩
  · omega
  · rw [h1, fstTo_hit h3 h4 n (by omega)]

set_option maxHeartbeats 4000000 in
set_option maxRecDepth 100000 in
theorem law3 (a : Option Addr) (n c b o : Nat) (R : Nat → Raw) (u : ByteArray) (ta : Option Addr) (tn tc : Nat) (T : List ByteArray) (r : Raw) (w : World) (hn : n ≤ 9223372036854775807) (htn : tn ≤ 9223372036854775807)
    (ha : 0 < n → a = some ⟨b, o, none⟩) (hl : Lst w b o n R) (ht : ∀ k, k < n → (R k).tl ≤ 9223372036854775807) (hT : SStr w ta tn T) (hr : Rd w r) (hrt : r.tl ≤ 9223372036854775807) :
    Calls Try.prog 3 #[.slice a n c, .string u, .slice ta tn tc, r.valIn] w fun e w' => e = .returned (.bool true) ∧ Ext w w' := by
  unfold Raw.valIn
  have hx0 := (Ext.refl w).alloc (.cells #[.string r.s.id, .string r.s.name, .string r.s.src, .pointer r.sid, .string r.s.vis, .slice r.tm r.tl r.tc, .pointer r.own] 26)
  have hP0 := InBox.new w r
  have Hl : Hid (Lst _ b o n R) := hl.ext hx0
  have HT : Hid (SStr _ ta tn T) := hT.ext hx0
  have HR : Hid (Rd _ r) := hr.ext hx0
  have Hha : Hid (0 < n → a = some ⟨b, o, none⟩) := ha
  have Hht : Hid (∀ k, k < n → (R k).tl ≤ 9223372036854775807) := ht
  clear hl hT hr ha ht
  go_enter Try.func3, Try.ntmps3
  go_upto_region 1 with fail
  generalize w.alloc (.cells #[.string r.s.id, .string r.s.name, .string r.s.src, .pointer r.sid, .string r.s.vis, .slice r.tm r.tl r.tc, .pointer r.own] 26) = w0 at *
  generalize w.heap.size = P at *
  have HP : Hid (InBox w0 P r) := hP0
  obtain ⟨p0, p1, p2, p3, p4, p5, p6⟩ := hP0.cells
  clear hP0
  go_wp2_with fail
  refine (bytes7 a n c b o R u ta tn tc T r w0 hn htn Hha.out Hl.out Hht.out HT.out HR.out hrt).mono ?_
  rintro e w1 ⟨hb, hx1⟩
  have hxa := hx0.trans hx1
  rcases hb with rfl | ⟨rfl, hsm, hss⟩
  · go_wp2
    go_ret
    exact ⟨rfl, hxa⟩
  have HSM : Hid (∀ k, k < n → Small (R k).s) := hsm
  have HSS : Hid (Small r.s) := hss
  clear hsm hss p0 p1 p2 p3 p4 p5 p6
  by_cases hn1 : (4096 : Int) < (n : Int)
  · go_wp2
    go_ret
    exact ⟨rfl, hxa⟩
  by_cases htn1 : (256 : Int) < (tn : Int)
  · go_wp2
    go_ret
    exact ⟨rfl, hxa⟩
  have hP1 := HP.out.ext hx1
  have HC1 : Hid (∀ w', Ext w1 w' → w'.cell? ⟨P, 0, none⟩ = some (.string r.s.id) ∧ w'.cell? ⟨P, 1, none⟩ = some (.string r.s.name) ∧ w'.cell? ⟨P, 2, none⟩ = some (.string r.s.src) ∧ w'.cell? ⟨P, 3, none⟩ = some (.pointer r.sid) ∧ w'.cell? ⟨P, 4, none⟩ = some (.string r.s.vis) ∧ w'.cell? ⟨P, 5, none⟩ = some (.slice r.tm r.tl r.tc) ∧ w'.cell? ⟨P, 6, none⟩ = some (.pointer r.own)) := fun w' e => (hP1.ext e).cells
  have HK : Hid (∀ w', Ext w1 w' → Ext w1 w' ∧ w'.cell? ⟨P, 0, none⟩ = some (.string r.s.id) ∧ w'.cell? ⟨P, 1, none⟩ = some (.string r.s.name) ∧ w'.cell? ⟨P, 2, none⟩ = some (.string r.s.src) ∧ w'.cell? ⟨P, 3, none⟩ = some (.pointer r.sid) ∧ w'.cell? ⟨P, 4, none⟩ = some (.string r.s.vis) ∧ w'.cell? ⟨P, 5, none⟩ = some (.slice r.tm r.tl r.tc) ∧ w'.cell? ⟨P, 6, none⟩ = some (.pointer r.own)) := fun w' e => ⟨e, (hP1.ext e).cells⟩
  replace Hl : Hid (Lst w1 b o n R) := Hl.out.ext hx1
  replace HT : Hid (SStr w1 ta tn T) := HT.out.ext hx1
  replace HR : Hid (Rd w1 r) := HR.out.ext hx1
  have H9 : Hid (∀ w', Ext w1 w' → Calls Try.prog 9 #[.slice a n c, .string u, .slice ta tn tc] w' fun e w'' => SomeInt e ∧ Ext w' w'') := fun w' e => zzCatalogBytes a n c b o R u ta tn tc T w' hn htn Hha.out (Hl.out.ext e) Hht.out (HT.out.ext e)
  have H8 : Hid (∀ w' z, Ext w1 w' → Calls Try.prog 8 #[.int .i64 z, r.valIn] w' fun e w'' => SomeInt e ∧ Ext w' w'') := fun w' z e => zzOverSkill z r w' (HR.out.ext e) hrt
  clear hP1
  go_wp2
  go_region_held3 (fun w' => Ext w1 w' ∧ w'.cell? ⟨P, 0, none⟩ = some (.string r.s.id) ∧ w'.cell? ⟨P, 1, none⟩ = some (.string r.s.name) ∧ w'.cell? ⟨P, 2, none⟩ = some (.string r.s.src) ∧ w'.cell? ⟨P, 3, none⟩ = some (.pointer r.sid) ∧ w'.cell? ⟨P, 4, none⟩ = some (.string r.s.vis) ∧ w'.cell? ⟨P, 5, none⟩ = some (.slice r.tm r.tl r.tc) ∧ w'.cell? ⟨P, 6, none⟩ = some (.pointer r.own))
    ((go_split_ands; refine HK.out _ ?_; first | assumption | exact (Ext.refl _).drew | (apply Ext.drew; assumption) | (refine Ext.trans ?_ (by assumption); assumption)))
    (first
      | (go_at_call 9; go_split_ands; refine (H9.out _ (by assumption)).mono ?_; rintro e w2 ⟨⟨z1, rfl⟩, hx2⟩)
      | (go_at_call 8; go_split_ands; refine (H8.out _ _ (by assumption)).mono ?_; rintro e w2 ⟨⟨z2, rfl⟩, hx2⟩))
  go_split_ands
  have hx12 : Ext w1 w2 := by assumption
  clear H8 H9 HK
  by_cases hz2 : 1048576 < z2
  · go_wp2
    go_ret
    exact ⟨rfl, hxa.trans hx12⟩
  go_wp2_with fail
  refine (zzReachable a n c b o R w2 (by omega) Hha.out (Hl.out.ext hx12) HSM.out).mono ?_
  rintro e w3 ⟨hb, hx3⟩
  have hx13 := hx12.trans hx3
  clear hx12
  rcases hb with rfl | ⟨rfl, hre⟩
  · go_wp2
    go_ret
    exact ⟨rfl, hxa.trans hx13⟩
  have HRe : Hid (Reach (fun k => (R k).s) n) := hre
  clear hre
  obtain ⟨p0, p1, p2, p3, p4, p5, p6⟩ := HC1.out w3 hx13
  go_wp2_with fail
  refine (zzRank r.s.src w3).mono ?_
  rintro e w3' ⟨rfl, rfl⟩
  by_cases hrk : rank r.s.src < 0
  · go_wp2
    go_ret
    exact ⟨rfl, hxa.trans hx13⟩
  go_wp2_with fail
  refine (zzBuild a n c b o R w3 (by omega) Hha.out (Hl.out.ext hx13) HSM.out).mono ?_
  rintro e w4 ⟨C, Rs, Bs, ea, ec, ra, rc, Mc, Ms, Ml, rfl, hC, hx4⟩
  have hx14 := hx13.trans hx4
  have HC : Hid (Cat w4 C n Rs (fun k => (R k).s) Bs ea ec ra rc Mc Ms Ml) := hC
  clear hC hx13 p0 p1 p2 p3 p4 p5 p6
  obtain ⟨p0, p1, p2, p3, p4, p5, p6⟩ := HC1.out w4 hx14
  have hrt2 : r.tl ≤ 1048576 := by have h1 := HR.out.tm.sstr.1; have h2 := HSS.out.teams; omega
  go_wp2_with fail
  refine (toSkill r w4 (HR.out.ext hx14) hrt2).mono ?_
  rintro e w5 ⟨r', rfl, hs5, hN5, htl5, hx5⟩
  have HS5 : Hid (r'.s = r.s) := hs5
  have HN5 : Hid (Rd w5 r') := hN5.rd
  clear hs5 hN5 htl5 p0 p1 p2 p3 p4 p5 p6
  have hx15 := hx14.trans hx5
  go_wp2_with fail
  refine (hiddenBy13 C n Rs (fun k => (R k).s) Bs ea ec ra rc Mc Ms Ml u ta tn tc T r' w5 (by omega) (by omega) (HC.out.ext hx5) (HT.out.ext hx15) HSM.out HN5.out (by rw [HS5.out]; exact HSS.out) (by rw [served_fe]; exact fun i hi => ((mem_feTo n).1 hi).1) (by rw [served_fe]; exact feTo_le n)).mono ?_
  rintro e w6 ⟨hb, hx6⟩
  rw [HS5.out] at hb
  obtain ⟨rr, okb, rfl, h3⟩ := hb.split HRe.out (by omega)
  have H3 : Hid (Hid3 u T (fun k => (R k).s) n Rs r.s rr okb) := h3
  have hx16 := hx15.trans hx6
  clear hb h3
  go_upto_region 11 with ((with_reducible apply store42_blk rr); exact rfl; exact rfl; exact rfl; exact rfl; exact heap_alloc_last _ _; exact zero42_size; intro w7 h7 ho7 hs7 hb7)
  have hx7 : Ext w6 w7 := Below.trans ((Ext.refl w6).alloc (.cells Try.zeroCells42 42)) (hb7 _ (Nat.le_refl _))
  have hx17 := hx16.trans hx7
  have HL7 : Hid (Lst w7 b o n R) := Hl.out.ext hx17
  have HT7 : Hid (SStr w7 ta tn T) := HT.out.ext hx17
  have HR7 : Hid (Rd w7 r) := HR.out.ext hx17
  have HRs : Hid (∀ k, k < n → (Rs k).s = (R k).s ∧ (Rs k).tl ≤ 1048576 ∧ Rd w7 (Rs k)) := ((HC.out.ext hx5).ext (hx6.trans hx7)).rd
  have HG7 : Hid (w7.rangeAt w6.heap.size 0 rr.cells) := range_of_blk h7
  have HC7 : Hid (∀ w', Ext w7 w' → w'.cell? ⟨P, 0, none⟩ = some (.string r.s.id) ∧ w'.cell? ⟨P, 1, none⟩ = some (.string r.s.name) ∧ w'.cell? ⟨P, 2, none⟩ = some (.string r.s.src) ∧ w'.cell? ⟨P, 3, none⟩ = some (.pointer r.sid) ∧ w'.cell? ⟨P, 4, none⟩ = some (.string r.s.vis) ∧ w'.cell? ⟨P, 5, none⟩ = some (.slice r.tm r.tl r.tc) ∧ w'.cell? ⟨P, 6, none⟩ = some (.pointer r.own)) := fun w' e => HC1.out w' (hx17.trans e)
  have hxb := hxa.trans hx17
  clear HC1 h7 ho7 hs7 hb7 hx7 hx16 hx17 hx15 hx14 hx6 hx5 hx4 hx3 Hl HT HR HC HS5 HN5
  generalize w6.heap.size = PR at *
  go_wp2
  go_loopw [12, 13] (fun f i wr => ∃ k : Nat, k ≤ n ∧ i = .int .i64 k ∧ f = .int .i64 (fstTo (neP u T (fun k => (R k).s) r.s.name.toList) k) ∧ Ext w7 wr) (fun _ i _ => n - (intOf i).toNat)
  case atStart => exact ⟨0, Nat.zero_le _, rfl, rfl, Ext.refl _⟩
  case round =>
    obtain ⟨k, hk, rfl, rfl, hxr⟩ := hrel
    by_cases hgo : k < n ∧ fstTo (neP u T (fun k => (R k).s) r.s.name.toList) k < 0
    · obtain ⟨hlt, hf⟩ := hgo
      have hlt' : (k : Int) < (n : Int) := by omega
      have hk0 : (0 : Int) ≤ (k : Int) := by omega
      obtain rfl := Hha.out (by omega)
      obtain ⟨g0, g1, g2, g3, g4, g5, g6⟩ := (HL7.out.ext hxr).seven hlt
      obtain ⟨-, p1, -, -, -, -, -⟩ := HC7.out wr hxr
      have hm1 : fstTo (neP u T (fun k => (R k).s) r.s.name.toList) k = -1 := by
        rcases fstTo_cases (neP u T (fun k => (R k).s) r.s.name.toList) k with ⟨h, _⟩ | ⟨j, h, _⟩ <;> omega
      have HF : Hid (fstTo (neP u T (fun k => (R k).s) r.s.name.toList) k = -1) := hm1
      rw [hm1]
      clear hm1 hf
      cases hnm : ((R k).s.name.toList == r.s.name.toList) with
      | false =>
        have HH : Hid (fstTo (neP u T (fun k => (R k).s) r.s.name.toList) (k + 1) = -1) := by show _ = _; rw [fstTo, HF.out, neP, hnm]; rfl
        go_wp2
        go_quiet (fail)
        go_wp2
        go_roundw
        case rel => exact ⟨k + 1, by omega, by go_num, by rw [HH.out], hxr.drewN _⟩
        case measure => simp [intOf]; omega
      | true =>
        have HK : Hid (∀ w', Ext wr w' → Ext wr w' ∧ w'.cell? ⟨b, o + k * 7, none⟩ = some (.string (R k).s.id) ∧ w'.cell? ⟨b, o + k * 7 + 1, none⟩ = some (.string (R k).s.name) ∧ w'.cell? ⟨b, o + k * 7 + 2, none⟩ = some (.string (R k).s.src) ∧ w'.cell? ⟨b, o + k * 7 + 3, none⟩ = some (.pointer (R k).sid) ∧
            w'.cell? ⟨b, o + k * 7 + 4, none⟩ = some (.string (R k).s.vis) ∧ w'.cell? ⟨b, o + k * 7 + 5, none⟩ = some (.slice (R k).tm (R k).tl (R k).tc) ∧ w'.cell? ⟨b, o + k * 7 + 6, none⟩ = some (.pointer (R k).own) ∧ w'.cell? ⟨P, 1, none⟩ = some (.string r.s.name)) := fun w' e =>
          ⟨e, e.cellSome g0, e.cellSome g1, e.cellSome g2, e.cellSome g3, e.cellSome g4, e.cellSome g5, e.cellSome g6, e.cellSome p1⟩
        have HE : Hid (∀ w', Ext wr w' → Calls Try.prog 15 #[.string u, .slice ta tn tc, (R k).valIn] w' fun e w'' => e = .returned (.bool (ent u T (R k).s)) ∧ Ext w' w'') := fun w' e =>
          zzEntitled u ta tn tc T (R k) w' htn (HT7.out.ext (hxr.trans e)) ((HL7.out.ext (hxr.trans e)).rd k hlt) (Hht.out k hlt)
        cases hent : ent u T (R k).s with
        | false =>
          have HH : Hid (fstTo (neP u T (fun k => (R k).s) r.s.name.toList) (k + 1) = -1) := by show _ = _; rw [fstTo, HF.out, neP, hnm, hent]; rfl
          rw [hent] at HE
          clear hent
          go_wp2
          go_region_held3 (fun w' => Ext wr w' ∧ w'.cell? ⟨b, o + k * 7, none⟩ = some (.string (R k).s.id) ∧ w'.cell? ⟨b, o + k * 7 + 1, none⟩ = some (.string (R k).s.name) ∧ w'.cell? ⟨b, o + k * 7 + 2, none⟩ = some (.string (R k).s.src) ∧ w'.cell? ⟨b, o + k * 7 + 3, none⟩ = some (.pointer (R k).sid) ∧
            w'.cell? ⟨b, o + k * 7 + 4, none⟩ = some (.string (R k).s.vis) ∧ w'.cell? ⟨b, o + k * 7 + 5, none⟩ = some (.slice (R k).tm (R k).tl (R k).tc) ∧ w'.cell? ⟨b, o + k * 7 + 6, none⟩ = some (.pointer (R k).own) ∧ w'.cell? ⟨P, 1, none⟩ = some (.string r.s.name))
            ((go_split_ands; refine HK.out _ ?_; first | assumption | exact (Ext.refl _).drew | (apply Ext.drew; assumption) | (refine Ext.trans ?_ (by assumption); assumption)))
            ((go_at_call 15; go_split_ands; refine (HE.out _ (by assumption)).mono ?_; rintro e w8 ⟨rfl, hx8⟩))
          go_split_ands
          have hx98 : Ext wr w8 := by assumption
          go_wp2
          go_roundw
          case rel => exact ⟨k + 1, by omega, by go_num, by rw [HH.out], hxr.trans hx98⟩
          case measure => simp [intOf]; omega
        | true =>
          have HH : Hid (fstTo (neP u T (fun k => (R k).s) r.s.name.toList) (k + 1) = k) := by show _ = _; rw [fstTo, HF.out, neP, hnm, hent]; rfl
          rw [hent] at HE
          clear hent
          go_wp2
          go_region_held3 (fun w' => Ext wr w' ∧ w'.cell? ⟨b, o + k * 7, none⟩ = some (.string (R k).s.id) ∧ w'.cell? ⟨b, o + k * 7 + 1, none⟩ = some (.string (R k).s.name) ∧ w'.cell? ⟨b, o + k * 7 + 2, none⟩ = some (.string (R k).s.src) ∧ w'.cell? ⟨b, o + k * 7 + 3, none⟩ = some (.pointer (R k).sid) ∧
            w'.cell? ⟨b, o + k * 7 + 4, none⟩ = some (.string (R k).s.vis) ∧ w'.cell? ⟨b, o + k * 7 + 5, none⟩ = some (.slice (R k).tm (R k).tl (R k).tc) ∧ w'.cell? ⟨b, o + k * 7 + 6, none⟩ = some (.pointer (R k).own) ∧ w'.cell? ⟨P, 1, none⟩ = some (.string r.s.name))
            ((go_split_ands; refine HK.out _ ?_; first | assumption | exact (Ext.refl _).drew | (apply Ext.drew; assumption) | (refine Ext.trans ?_ (by assumption); assumption)))
            ((go_at_call 15; go_split_ands; refine (HE.out _ (by assumption)).mono ?_; rintro e w8 ⟨rfl, hx8⟩))
          go_split_ands
          have hx98 : Ext wr w8 := by assumption
          go_wp2
          go_roundw
          case rel => exact ⟨k + 1, by omega, by go_num, by rw [HH.out], hxr.trans hx98⟩
          case measure => simp [intOf]; omega
    · have hfin : fstTo (neP u T (fun k => (R k).s) r.s.name.toList) k = fstTo (neP u T (fun k => (R k).s) r.s.name.toList) n := by
        by_cases hf : 0 ≤ fstTo (neP u T (fun k => (R k).s) r.s.name.toList) k
        · exact (fst_mono hf hk).symm
        · obtain rfl : k = n := by omega
          rfl
      have hcond : ¬ (k < n ∧ fstTo (neP u T (fun k => (R k).s) r.s.name.toList) n < 0) := by rw [← hfin]; exact hgo
      rw [hfin]
      clear hfin hgo
      obtain ⟨p0, p1, p2, p3, p4, p5, p6⟩ := HC7.out wr hxr
      rcases H3.out with ⟨rfl, i, hi, hfi, hgb, rfl⟩ | ⟨rfl, rfl, hfi | ⟨i, hi, hfi, hgb⟩⟩
      · rw [hfi]
        obtain rfl := Hha.out (by omega)
        have hi0 : (0 : Int) ≤ (i : Int) := by omega
        have hi' : (i : Int) < (n : Int) := by omega
        have hvr : ∃ vr, Hid ((Rs i).val = vr) := ⟨_, rfl⟩
        obtain ⟨vr, HV⟩ := hvr
        clear hcond hfi
        by_cases hlt : (k : Int) < (n : Int)
        · go_wp2_with fail
          refine (goesBefore16 _ n c b o R i r wr (by omega) (fun _ => rfl) (HL7.out.ext hxr) hi (HR7.out.ext hxr) (fun h => by obtain ⟨x, hx⟩ := HRe.out.hs i hi h; rw [hx]; simp)).mono ?_
          rw [hgb]
          rintro e w8 ⟨rfl, hx8⟩
          have hx78 := hxr.trans hx8
          have HK : Hid (∀ w', Ext w8 w' → Ext w8 w' ∧ w'.cell? ⟨b, o + i * 7, none⟩ = some (.string (R i).s.id) ∧ w'.cell? ⟨b, o + i * 7 + 1, none⟩ = some (.string (R i).s.name) ∧ w'.cell? ⟨b, o + i * 7 + 2, none⟩ = some (.string (R i).s.src) ∧ w'.cell? ⟨b, o + i * 7 + 3, none⟩ = some (.pointer (R i).sid) ∧ w'.cell? ⟨b, o + i * 7 + 4, none⟩ = some (.string (R i).s.vis) ∧ w'.cell? ⟨b, o + i * 7 + 5, none⟩ = some (.slice (R i).tm (R i).tl (R i).tc) ∧ w'.cell? ⟨b, o + i * 7 + 6, none⟩ = some (.pointer (R i).own) ∧ (L42 (.pointer (some ⟨PR, 0, none⟩))).run Try.prog w' = .ok vr w') := fun w' e => by
            obtain ⟨g0, g1, g2, g3, g4, g5, g6⟩ := (HL7.out.ext (hx78.trans e)).seven hi
            exact ⟨e, g0, g1, g2, g3, g4, g5, g6, by rw [← HV.out]; exact L42.of ((hx78.trans e).range HG7.out)⟩
          have HSa : Hid (∀ w', Ext w8 w' → Calls Try.prog 17 #[vr, (R i).valIn] w' fun e w'' => e = .returned (.bool true) ∧ Ext w' w'') := fun w' e => by
            rw [← HV.out]
            obtain ⟨q1, q2, q3⟩ := HRs.out i hi
            exact sameSkill17 (Rs i) (R i) w' q1 (q3.ext (hx78.trans e)) ((HL7.out.ext (hx78.trans e)).rd i hi) q2
          clear p0 p1 p2 p3 p4 p5 p6
          go_wp2
          go_region_held3 (fun w' => Ext w8 w' ∧ w'.cell? ⟨b, o + i * 7, none⟩ = some (.string (R i).s.id) ∧ w'.cell? ⟨b, o + i * 7 + 1, none⟩ = some (.string (R i).s.name) ∧ w'.cell? ⟨b, o + i * 7 + 2, none⟩ = some (.string (R i).s.src) ∧ w'.cell? ⟨b, o + i * 7 + 3, none⟩ = some (.pointer (R i).sid) ∧ w'.cell? ⟨b, o + i * 7 + 4, none⟩ = some (.string (R i).s.vis) ∧ w'.cell? ⟨b, o + i * 7 + 5, none⟩ = some (.slice (R i).tm (R i).tl (R i).tc) ∧ w'.cell? ⟨b, o + i * 7 + 6, none⟩ = some (.pointer (R i).own) ∧ (L42 (.pointer (some ⟨PR, 0, none⟩))).run Try.prog w' = .ok vr w')
            ((go_split_ands; refine HK.out _ ?_; first | assumption | exact (Ext.refl _).drew | (apply Ext.drew; assumption) | (refine Ext.trans ?_ (by assumption); assumption)))
            ((go_at_call 17; go_split_ands; refine (HSa.out _ (by assumption)).mono ?_; rintro e w9 ⟨rfl, hx9⟩))
          go_split_ands
          have hx89 : Ext w8 w9 := by assumption
          go_wp2
          go_ret
          exact ⟨rfl, hxb.trans (hx78.trans hx89)⟩
        · go_wp2_with fail
          refine (goesBefore16 _ n c b o R i r wr (by omega) (fun _ => rfl) (HL7.out.ext hxr) hi (HR7.out.ext hxr) (fun h => by obtain ⟨x, hx⟩ := HRe.out.hs i hi h; rw [hx]; simp)).mono ?_
          rw [hgb]
          rintro e w8 ⟨rfl, hx8⟩
          have hx78 := hxr.trans hx8
          have HK : Hid (∀ w', Ext w8 w' → Ext w8 w' ∧ w'.cell? ⟨b, o + i * 7, none⟩ = some (.string (R i).s.id) ∧ w'.cell? ⟨b, o + i * 7 + 1, none⟩ = some (.string (R i).s.name) ∧ w'.cell? ⟨b, o + i * 7 + 2, none⟩ = some (.string (R i).s.src) ∧ w'.cell? ⟨b, o + i * 7 + 3, none⟩ = some (.pointer (R i).sid) ∧ w'.cell? ⟨b, o + i * 7 + 4, none⟩ = some (.string (R i).s.vis) ∧ w'.cell? ⟨b, o + i * 7 + 5, none⟩ = some (.slice (R i).tm (R i).tl (R i).tc) ∧ w'.cell? ⟨b, o + i * 7 + 6, none⟩ = some (.pointer (R i).own) ∧ (L42 (.pointer (some ⟨PR, 0, none⟩))).run Try.prog w' = .ok vr w') := fun w' e => by
            obtain ⟨g0, g1, g2, g3, g4, g5, g6⟩ := (HL7.out.ext (hx78.trans e)).seven hi
            exact ⟨e, g0, g1, g2, g3, g4, g5, g6, by rw [← HV.out]; exact L42.of ((hx78.trans e).range HG7.out)⟩
          have HSa : Hid (∀ w', Ext w8 w' → Calls Try.prog 17 #[vr, (R i).valIn] w' fun e w'' => e = .returned (.bool true) ∧ Ext w' w'') := fun w' e => by
            rw [← HV.out]
            obtain ⟨q1, q2, q3⟩ := HRs.out i hi
            exact sameSkill17 (Rs i) (R i) w' q1 (q3.ext (hx78.trans e)) ((HL7.out.ext (hx78.trans e)).rd i hi) q2
          clear p0 p1 p2 p3 p4 p5 p6
          go_wp2
          go_region_held3 (fun w' => Ext w8 w' ∧ w'.cell? ⟨b, o + i * 7, none⟩ = some (.string (R i).s.id) ∧ w'.cell? ⟨b, o + i * 7 + 1, none⟩ = some (.string (R i).s.name) ∧ w'.cell? ⟨b, o + i * 7 + 2, none⟩ = some (.string (R i).s.src) ∧ w'.cell? ⟨b, o + i * 7 + 3, none⟩ = some (.pointer (R i).sid) ∧ w'.cell? ⟨b, o + i * 7 + 4, none⟩ = some (.string (R i).s.vis) ∧ w'.cell? ⟨b, o + i * 7 + 5, none⟩ = some (.slice (R i).tm (R i).tl (R i).tc) ∧ w'.cell? ⟨b, o + i * 7 + 6, none⟩ = some (.pointer (R i).own) ∧ (L42 (.pointer (some ⟨PR, 0, none⟩))).run Try.prog w' = .ok vr w')
            ((go_split_ands; refine HK.out _ ?_; first | assumption | exact (Ext.refl _).drew | (apply Ext.drew; assumption) | (refine Ext.trans ?_ (by assumption); assumption)))
            ((go_at_call 17; go_split_ands; refine (HSa.out _ (by assumption)).mono ?_; rintro e w9 ⟨rfl, hx9⟩))
          go_split_ands
          have hx89 : Ext w8 w9 := by assumption
          go_wp2
          go_ret
          exact ⟨rfl, hxb.trans (hx78.trans hx89)⟩
      · rw [hfi] at hcond
        have hlt : ¬ (k : Int) < (n : Int) := by omega
        rw [hfi]
        clear hcond hfi
        have hg8 := hxr.range HG7.out
        have hL8 := L42.of hg8
        have HZ : Hid (Calls Try.prog 18 #[zeroRaw.val] wr fun e w' => e = .returned (.bool true) ∧ Ext wr w') := zeroSkill18 wr
        generalize zeroRaw.val = vz at hL8 HZ
        clear hg8
        go_wp2_with fail
        refine HZ.out.mono ?_
        rintro e w9 ⟨rfl, hx9⟩
        go_wp2
        go_ret
        exact ⟨rfl, hxb.trans (hxr.trans hx9)⟩
      · rw [hfi]
        obtain rfl := Hha.out (by omega)
        have hi0 : (0 : Int) ≤ (i : Int) := by omega
        have hi' : (i : Int) < (n : Int) := by omega
        clear hcond hfi
        by_cases hlt : (k : Int) < (n : Int)
        · go_wp2_with fail
          refine (goesBefore16 _ n c b o R i r wr (by omega) (fun _ => rfl) (HL7.out.ext hxr) hi (HR7.out.ext hxr) (fun h => by obtain ⟨x, hx⟩ := HRe.out.hs i hi h; rw [hx]; simp)).mono ?_
          rw [hgb]
          rintro e w8 ⟨rfl, hx8⟩
          have hx78 := hxr.trans hx8
          have hg8 := hx78.range HG7.out
          clear p0 p1 p2 p3 p4 p5 p6
          have hL8 := L42.of hg8
          have HZ : Hid (Calls Try.prog 18 #[zeroRaw.val] w8 fun e w' => e = .returned (.bool true) ∧ Ext w8 w') := zeroSkill18 w8
          generalize zeroRaw.val = vz at hL8 HZ
          clear hg8
          go_wp2_with fail
          refine HZ.out.mono ?_
          rintro e w9 ⟨rfl, hx9⟩
          go_wp2
          go_ret
          exact ⟨rfl, hxb.trans (hx78.trans hx9)⟩
        · go_wp2_with fail
          refine (goesBefore16 _ n c b o R i r wr (by omega) (fun _ => rfl) (HL7.out.ext hxr) hi (HR7.out.ext hxr) (fun h => by obtain ⟨x, hx⟩ := HRe.out.hs i hi h; rw [hx]; simp)).mono ?_
          rw [hgb]
          rintro e w8 ⟨rfl, hx8⟩
          have hx78 := hxr.trans hx8
          have hg8 := hx78.range HG7.out
          clear p0 p1 p2 p3 p4 p5 p6
          have hL8 := L42.of hg8
          have HZ : Hid (Calls Try.prog 18 #[zeroRaw.val] w8 fun e w' => e = .returned (.bool true) ∧ Ext w8 w') := zeroSkill18 w8
          generalize zeroRaw.val = vz at hL8 HZ
          clear hg8
          go_wp2_with fail
          refine HZ.out.mono ?_
          rintro e w9 ⟨rfl, hx9⟩
          go_wp2
          go_ret
          exact ⟨rfl, hxb.trans (hx78.trans hx9)⟩
end Go.Proofs.Qxb6613557a
