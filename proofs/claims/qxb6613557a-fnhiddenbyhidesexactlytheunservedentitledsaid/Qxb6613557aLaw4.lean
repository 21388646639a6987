/-
  FnHiddenByHidesExactlyTheUnservedEntitled: it answers true. Own text.
-/
import Derived.Test.Qxb6613557aPlain4
import Derived.Test.Qxb6613557aBytes
namespace Go.Proofs.Qxb6613557a
open Go.RowKit
set_option linter.unusedVariables false
set_option linter.unusedSimpArgs false
attribute [local go_sem ↓] L42.shut

/-- A store of a whole Skill, left shut. -/
noncomputable def St42 (p v : Value) : Sem Unit := Instr.storeAt 42 p v
theorem St42.shut (p v : Value) : Instr.storeAt 42 p v = St42 p v := rfl
theorem modify_push {α : Type} (xs : Array α) (x : α) (f : α → α) : (xs.push x).modify xs.size f = xs.push (f x) := by
  apply Array.ext
  · simp
  · intro i h1 h2
    rw [Array.getElem_modify, Array.getElem_push, Array.getElem_push]
    by_cases e : xs.size = i
    · subst e; simp
    · have : i < xs.size := by simp at h2; omega
      simp [e, this]
theorem setRow_new (w : World) (c d : Array Value) : (w.alloc (.cells c 42)).setRow w.heap.size d = w.alloc (.cells d 42) := by
  have h := modify_push w.heap (.cells c 42) (fun
      | .cells _ elem frozen => .cells d elem frozen
      | o => o)
  unfold World.setRow World.alloc
  simp only [World.mk.injEq, and_true]
  exact h
theorem St42.new (w : World) (x : Raw) : (St42 (.pointer (some ⟨w.heap.size, 0, none⟩)) x.val).run Try.prog (w.alloc (.cells Try.zeroCells42 42)) = .ok () (w.alloc (.cells x.arr 42)) := by
  have hrun := run_storeVar_row (P := Try.prog) (w.alloc (.cells Try.zeroCells42 42)) w.heap.size 42 42 Try.zeroCells42 x.arr (heap_alloc_last _ _) info42 zero42_size x.oneCell
  rw [setRow_new] at hrun
  unfold St42
  simp only [Instr.storeAt, Instr.sureAddr, Sem.run_bind, Sem.run_pure, Result.andThen_ok]
  exact hrun

theorem St42.at_ {w : World} {g : Nat} (h : w.heap[g]? = some (.cells Try.zeroCells42 42 (0, 0))) (x : Raw) : (St42 (.pointer (some ⟨g, 0, none⟩)) x.val).run Try.prog w = .ok () (w.setRow g x.arr) := by
  have hrun := run_storeVar_row (P := Try.prog) w g 42 42 Try.zeroCells42 x.arr h info42 zero42_size x.oneCell
  unfold St42
  simp only [Instr.storeAt, Instr.sureAddr, Sem.run_bind, Sem.run_pure, Result.andThen_ok]
  exact hrun
theorem Ext.setRow {a b : World} (h : Ext a b) {g : Nat} (hg : a.heap.size ≤ g) (cs : Array Value) : Ext a (b.setRow g cs) :=
  Below.trans h ⟨rfl, rfl, rfl, by rw [size_setRow]; exact Nat.le_refl _, fun k hk => setRow_other b g k cs (by omega)⟩
theorem orgIn_congr {S S' : Nat → Sk} {L : List Nat} {id name src : ByteArray} {x : Option ByteArray} (h : ∀ i, i ∈ L → S i = S' i) : orgIn S L id name src x = orgIn S' L id name src x := by
  unfold orgIn
  induction L with
  | nil => rfl
  | cons a L ih => rw [List.any_cons, List.any_cons, h a (List.mem_cons_self ..), ih (fun i hi => h i (List.mem_cons_of_mem _ hi))]
attribute [local go_sem ↓] St42.shut

set_option maxHeartbeats 4000000 in
set_option maxRecDepth 100000 in
theorem law4 (a : Option Addr) (n c b o : Nat) (R : Nat → Raw) (u : ByteArray) (ta : Option Addr) (tn tc : Nat) (T : List ByteArray) (w : World) (hn : n ≤ 9223372036854775807) (htn : tn ≤ 9223372036854775807)
    (ha : 0 < n → a = some ⟨b, o, none⟩) (hl : Lst w b o n R) (ht : ∀ k, k < n → (R k).tl ≤ 9223372036854775807) (hT : SStr w ta tn T) :
    Calls Try.prog 4 #[.slice a n c, .string u, .slice ta tn tc] w fun e w' => e = .returned (.bool true) ∧ Ext w w' := by
  have Hl : Hid (Lst w b o n R) := hl
  have HT : Hid (SStr w ta tn T) := hT
  have Hha : Hid (0 < n → a = some ⟨b, o, none⟩) := ha
  have Hht : Hid (∀ k, k < n → (R k).tl ≤ 9223372036854775807) := ht
  clear hl hT ha ht
  go_enter Try.func4, Try.ntmps4
  go_wp2_with fail
  refine (bytes19 a n c b o R u ta tn tc T w hn htn Hha.out Hl.out Hht.out HT.out).mono ?_
  rintro e w0 ⟨hb, rfl⟩
  rcases hb with rfl | ⟨rfl, hsm⟩
  · go_wp2
    go_ret
    exact ⟨rfl, Ext.refl _⟩
  have HSM : Hid (∀ k, k < n → Small (R k).s) := hsm
  clear hsm
  by_cases hn1 : (256 : Int) < (n : Int)
  · go_wp2
    go_ret
    exact ⟨rfl, Ext.refl _⟩
  by_cases htn1 : (256 : Int) < (tn : Int)
  · go_wp2
    go_ret
    exact ⟨rfl, Ext.refl _⟩
  go_wp2_with fail
  refine (zzCatalogBytes a n c b o R u ta tn tc T w hn htn Hha.out Hl.out Hht.out HT.out).mono ?_
  rintro e w1 ⟨⟨z1, rfl⟩, hx1⟩
  by_cases hz1 : 1048576 < z1
  · go_wp2
    go_ret
    exact ⟨rfl, hx1⟩
  go_wp2_with fail
  refine (zzReachable a n c b o R w1 (by omega) Hha.out (Hl.out.ext hx1) HSM.out).mono ?_
  rintro e w2 ⟨hb, hx2⟩
  have hx02 := hx1.trans hx2
  rcases hb with rfl | ⟨rfl, hre⟩
  · go_wp2
    go_ret
    exact ⟨rfl, hx02⟩
  have HRe : Hid (Reach (fun k => (R k).s) n) := hre
  clear hre
  go_wp2_with fail
  refine (noTies20 a n c b o R w2 (by omega) Hha.out (Hl.out.ext hx02)).mono ?_
  rintro e w3 ⟨hb, hx3⟩
  have hx03 := hx02.trans hx3
  rcases hb with rfl | ⟨rfl, hnt⟩
  · go_wp2
    go_ret
    exact ⟨rfl, hx03⟩
  have HNT : Hid (NoTies (fun k => (R k).s) n) := hnt
  clear hnt
  go_wp2_with fail
  refine (zzBuild a n c b o R w3 (by omega) Hha.out (Hl.out.ext hx03) HSM.out).mono ?_
  rintro e w4 ⟨C, Rs, Bs, ea, ec, ra, rc, Mc, Ms, Ml, rfl, hC, hx4⟩
  have hx04 := hx03.trans hx4
  have HC4 : Hid (Cat w4 C n Rs (fun k => (R k).s) Bs ea ec ra rc Mc Ms Ml) := hC
  clear hC hx1 hx2 hx3 hx4 hx02 hx03
  have hx5 : Ext w4 (w4.alloc (.cells #[.string u, .slice ta tn tc] 46)) := (Ext.refl w4).alloc _
  have h46 := heap_alloc_last w4 (.cells #[.string u, .slice ta tn tc] 46)
  go_upto_region 11 with fail
  generalize w4.alloc (.cells #[.string u, .slice ta tn tc] 46) = w5 at *
  generalize w4.heap.size = P46 at *
  have c0 : w5.cell? ⟨P46, 0, none⟩ = some (.string u) := by rw [cell_of_row _ _ _ _ _ _ h46]; rfl
  have c1 : w5.cell? ⟨P46, 1, none⟩ = some (.slice ta tn tc) := by rw [cell_of_row _ _ _ _ _ _ h46]; rfl
  clear h46
  have hx05 := hx04.trans hx5
  go_wp2_with fail
  refine (skillsFor21 C n Rs (fun k => (R k).s) Bs ea ec ra rc Mc Ms Ml u ta tn tc T w5 (by omega) (by omega) (HC4.out.ext hx5) (HT.out.ext hx05) (fun k hk => (HSM.out k hk).name)).mono ?_
  rintro e w6 ⟨sa, sc, rfl, hsl, hx6⟩
  rw [served_fe] at hsl ⊢
  have HSL6 : Hid (SkSl w6 sa (feTo u T (fun k => (R k).s) n) Rs) := hsl
  have hfl := feTo_le (u := u) (T := T) (S := fun k => (R k).s) n
  have hx06 := hx05.trans hx6
  have HC6 : Hid (Cat w6 C n Rs (fun k => (R k).s) Bs ea ec ra rc Mc Ms Ml) := (HC4.out.ext hx5).ext hx6
  have HL6 : Hid (Lst w6 b o n R) := Hl.out.ext hx06
  have HT6 : Hid (SStr w6 ta tn T) := HT.out.ext hx06
  have HP6 : Hid (w6.cell? ⟨P46, 0, none⟩ = some (.string u) ∧ w6.cell? ⟨P46, 1, none⟩ = some (.slice ta tn tc)) := ⟨hx6.cellSome c0, hx6.cellSome c1⟩
  clear hsl c0 c1 Hl HT HC4 hx04 hx05 hx5 hx6
  have hmm := @run_makeMap Try.prog
  go_wp2
  clear hmm
  have hM0 := MB.made w6
  have hx67 : Ext w6 (w6.alloc (.map #[] 0)) := (Ext.refl w6).alloc _
  generalize w6.alloc (.map #[] 0) = w7 at *
  generalize hMt : w6.heap.size = Mt at hM0 ⊢
  go_loopw [11, 12, 13] (fun d f i wr => ∃ k : Nat, k ≤ n ∧ i = .int .i64 k ∧ d = .int .i64 ((feTo u T (fun k => (R k).s) k).length : Nat) ∧ f = .int .i64 (nE u T (fun k => (R k).s) k : Nat) ∧ MB wr Mt k (entTo u T (fun k => (R k).s) k) ∧ Ext w6 wr) (fun _ _ i _ => n - (intOf i).toNat)
  case atStart => exact ⟨0, Nat.zero_le _, rfl, rfl, rfl, hM0, hx67⟩
  case round =>
    obtain ⟨k, hk, rfl, rfl, rfl, MK, hxr⟩ := hrel
    clear hM0 hx67
    have hfk := feTo_le (u := u) (T := T) (S := fun k => (R k).s) k
    have hnk := nE_le (u := u) (T := T) (S := fun k => (R k).s) k
    by_cases hlt : k < n
    · have hlt' : (k : Int) < (n : Int) := by omega
      obtain rfl := Hha.out (by omega)
      obtain ⟨g0, g1, g2, g3, g4, g5, g6⟩ := (HL6.out.ext hxr).seven hlt
      have hnm : (R k).s.name.size ≤ 2147483648 := by have := (HSM.out k hlt).name; omega
      go_wp2_with fail
      refine (zzEntitled u ta tn tc T (R k) wr htn (HT6.out.ext hxr) ((HL6.out.ext hxr).rd k hlt) (Hht.out k hlt)).mono ?_
      rintro e w8 ⟨rfl, hx8⟩
      have MK8 := MK.ext hx8
      have hxr8 := hxr.trans hx8
      clear MK g0 g1 g2 g3 g4 g5 g6
      obtain ⟨g0, g1, g2, g3, g4, g5, g6⟩ := (HL6.out.ext hxr8).seven hlt
      cases hent : ent u T (R k).s with
      | false =>
        have HE : Hid (ent u T (R k).s = false) := hent
        clear hent
        go_wp2
        go_roundw
        case rel => exact ⟨k + 1, by omega, by go_num, by rw [feTo, HE.out]; rfl, by rw [nE, HE.out]; rfl, (MK8.mono (Nat.le_succ _)).congr (entTo_skip (S := fun k => (R k).s) HE.out), hxr8⟩
        case measure => simp [intOf]; omega
      | true =>
        have HE : Hid (ent u T (R k).s = true) := hent
        clear hent
        cases hsn : entTo u T (fun k => (R k).s) k (R k).s.name.toList with
        | true =>
          have HS : Hid (entTo u T (fun k => (R k).s) k (R k).s.name.toList = true) := hsn
          go_wp2_with (at_lookup; refine wp_lookB MK8 hnm rfl rfl rfl rfl ?_; rw [hsn])
          go_roundw
          case rel => exact ⟨k + 1, by omega, by go_num, by rw [feTo, HS.out]; simp, by rw [nE, HE.out]; simp, (MK8.mono (Nat.le_succ _)).congr (entTo_seen (S := fun k => (R k).s) HS.out), hxr8⟩
          case measure => simp [intOf]; omega
        | false =>
          have HS : Hid (entTo u T (fun k => (R k).s) k (R k).s.name.toList = false) := hsn
          go_wp2_with (first | (at_lookup; refine wp_lookB MK8 hnm rfl rfl rfl rfl ?_; rw [hsn]) | (at_mapUpdate; refine wp_putB MK8 (by omega) hnm rfl rfl rfl rfl rfl ?_; intro w9 hM9 hg9))
          go_roundw
          case rel => exact ⟨k + 1, by omega, by go_num, by rw [feTo, HS.out, HE.out]; simp, by rw [nE, HE.out]; simp, hM9.congr (entTo_succ (S := fun k => (R k).s) HE.out), Below.grown hxr8 hg9 hxr8.size (fun k hk => by injection hk with hk; omega)⟩
          case measure => simp [intOf]; omega
    · obtain rfl : n = k := by omega
      clear MK hfk hnk hlt
      go_wp2
      generalize wr = w9 at *
      have HL9 : Hid (Lst w9 b o n R) := HL6.out.ext hxr
      have HT9 : Hid (SStr w9 ta tn T) := HT6.out.ext hxr
      have HC9 : Hid (Cat w9 C n Rs (fun k => (R k).s) Bs ea ec ra rc Mc Ms Ml) := HC6.out.ext hxr
      have HSL9 : Hid (SkSl w9 sa (feTo u T (fun k => (R k).s) n) Rs) := HSL6.out.ext hxr
      have HP9 : Hid (w9.cell? ⟨P46, 0, none⟩ = some (.string u) ∧ w9.cell? ⟨P46, 1, none⟩ = some (.slice ta tn tc)) := ⟨hxr.cellSome HP6.out.1, hxr.cellSome HP6.out.2⟩
      have HFL : Hid (∀ i, i ∈ feTo u T (fun k => (R k).s) n → i < n) := fun i hi => ((mem_feTo n).1 hi).1
      have hx09 := hx06.trans hxr
      clear HL6 HT6 HC6 HSL6 HP6 hx06 hxr hMt
      go_loopw [14, 15] (fun h i wx => ∃ q : Nat, q ≤ n ∧ i = .int .i64 q ∧ h = .int .i64 (nH u T (fun k => (R k).s) q : Nat) ∧ Ext w9 wx) (fun _ i _ => n - (intOf i).toNat)
      case atStart => exact ⟨0, Nat.zero_le _, rfl, rfl, Ext.refl _⟩
      case round =>
        obtain ⟨q, hq, rfl, rfl, hxr⟩ := hrel
        have hadd := nH_add (u := u) (T := T) (S := fun k => (R k).s) q
        have hle := nE_le (u := u) (T := T) (S := fun k => (R k).s) q
        by_cases hlt : q < n
        · have hlt' : (q : Int) < (n : Int) := by omega
          obtain rfl := Hha.out (by omega)
          obtain ⟨g0, g1, g2, g3, g4, g5, g6⟩ := (HL9.out.ext hxr).seven hlt
          have hPT := InBox.new wr (R q)
          have hxA : Ext wr (wr.alloc (.cells #[.string (R q).s.id, .string (R q).s.name, .string (R q).s.src, .pointer (R q).sid, .string (R q).s.vis, .slice (R q).tm (R q).tl (R q).tc, .pointer (R q).own] 26)) := (Ext.refl wr).alloc _
          go_upto_region 30 with fail
          generalize wr.alloc (.cells #[.string (R q).s.id, .string (R q).s.name, .string (R q).s.src, .pointer (R q).sid, .string (R q).s.vis, .slice (R q).tm (R q).tl (R q).tc, .pointer (R q).own] 26) = wA at *
          generalize wr.heap.size = PT at *
          have hxA9 := hxr.trans hxA
          obtain ⟨t0, t1, t2, t3, t4, t5, t6⟩ := hPT.cells
          clear g0 g1 g2 g3 g4 g5 g6 hxr hxA
          go_wp2_with fail
          refine (zzEntitled u ta tn tc T (R q) wA htn (HT9.out.ext hxA9) ((HL9.out.ext hxA9).rd q hlt) (Hht.out q hlt)).mono ?_
          rintro e wB ⟨rfl, hxB⟩
          have hPB := hPT.ext hxB
          have hxB9 := hxA9.trans hxB
          clear t0 t1 t2 t3 t4 t5 t6 hPT hxA9 hxB
          cases hent : ent u T (R q).s with
          | false =>
            have HE : Hid (ent u T (R q).s = false) := hent
            clear hent
            go_wp2
            go_roundw
            case rel => exact ⟨q + 1, by omega, by go_num, by rw [nH, HE.out]; rfl, hxB9⟩
            case measure => simp [intOf]; omega
          | true =>
            have HE : Hid (ent u T (R q).s = true) := hent
            clear hent
            have HPB : Hid (InBox wB PT (R q)) := hPB
            clear hPB
            have HK : Hid (∀ w', Ext wB w' → Ext wB w' ∧ w'.cell? ⟨P46, 0, none⟩ = some (.string u) ∧ w'.cell? ⟨P46, 1, none⟩ = some (.slice ta tn tc) ∧ w'.cell? ⟨PT, 0, none⟩ = some (.string (R q).s.id) ∧ w'.cell? ⟨PT, 1, none⟩ = some (.string (R q).s.name) ∧ w'.cell? ⟨PT, 2, none⟩ = some (.string (R q).s.src) ∧ w'.cell? ⟨PT, 3, none⟩ = some (.pointer (R q).sid) ∧ w'.cell? ⟨PT, 4, none⟩ = some (.string (R q).s.vis) ∧ w'.cell? ⟨PT, 5, none⟩ = some (.slice (R q).tm (R q).tl (R q).tc) ∧ w'.cell? ⟨PT, 6, none⟩ = some (.pointer (R q).own)) := fun w' e => ⟨e, e.cellSome (hxB9.cellSome HP9.out.1), e.cellSome (hxB9.cellSome HP9.out.2), (HPB.out.ext e).cells⟩
            have H14 : Hid (∀ w', Ext wB w' → Calls Try.prog 14 #[(R q).valIn] w' fun e w'' => ∃ r' : Raw, e = .returned r'.val ∧ Hid (r'.s = (R q).s ∧ Rd w'' r') ∧ Ext w' w'') := fun w' e =>
              (toSkill (R q) w' ((HL9.out.ext (hxB9.trans e)).rd q hlt) (by have h1 := (HL9.out.rd q hlt).tm.sstr.1; have h2 := (HSM.out q hlt).teams; omega)).mono (by
                rintro e w'' ⟨r', rfl, h1, h2, h3, h4⟩
                exact ⟨r', rfl, ⟨h1, h2.rd⟩, h4⟩)
            have H13 : Hid (∀ (w' : World) (r' : Raw), Ext wB w' → ∀ i, i < n → r'.s = (R i).s → Rd w' r' → Calls Try.prog 13 #[.pointer (some ⟨C, 0, none⟩), .agg #[.string u, .slice ta tn tc], r'.val] w' fun e w'' => (∃ rr okb, e = .returned (.tuple #[rr.val, .bool okb]) ∧ Hid (Hid3 u T (fun k => (R k).s) n Rs (R i).s rr okb)) ∧ Ext w' w'') := fun w' r' e i hi h1 h2 =>
              (hiddenBy13 C n Rs (fun k => (R k).s) Bs ea ec ra rc Mc Ms Ml u ta tn tc T r' w' (by omega) (by omega) (HC9.out.ext (hxB9.trans e)) (HT9.out.ext (hxB9.trans e)) HSM.out h2 (by rw [h1]; exact HSM.out i hi) (by rw [served_fe]; exact HFL.out) (by rw [served_fe]; exact feTo_le n)).mono (by
                rintro e w'' ⟨hb, hx⟩
                rw [h1] at hb
                obtain ⟨rr, okb, rfl, h3⟩ := hb.split HRe.out (HRe.out.rk i hi)
                exact ⟨⟨rr, okb, rfl, h3⟩, hx⟩)
            have HST := St42.new
            go_upto_region 31 with fail
            go_cut [17, 18] (fun s17 s18 wc => ∃ (PH : Nat) (rr : Raw) (okb : Bool), s17 = .pointer (some ⟨PH, 0, none⟩) ∧ s18 = .bool okb ∧ wc.heap[PH]? = some (.cells rr.arr 42 (0, 0)) ∧ Ext wB wc ∧ Hid (Hid3 u T (fun k => (R k).s) n Rs (R q).s rr okb))
            case first =>
              go_region_held3 (fun w' => Ext wB w' ∧ w'.cell? ⟨P46, 0, none⟩ = some (.string u) ∧ w'.cell? ⟨P46, 1, none⟩ = some (.slice ta tn tc) ∧ w'.cell? ⟨PT, 0, none⟩ = some (.string (R q).s.id) ∧ w'.cell? ⟨PT, 1, none⟩ = some (.string (R q).s.name) ∧ w'.cell? ⟨PT, 2, none⟩ = some (.string (R q).s.src) ∧ w'.cell? ⟨PT, 3, none⟩ = some (.pointer (R q).sid) ∧ w'.cell? ⟨PT, 4, none⟩ = some (.string (R q).s.vis) ∧ w'.cell? ⟨PT, 5, none⟩ = some (.slice (R q).tm (R q).tl (R q).tc) ∧ w'.cell? ⟨PT, 6, none⟩ = some (.pointer (R q).own))
                ((go_split_ands; refine HK.out _ ?_; first | assumption | exact (Ext.refl _).drew | exact ((Ext.refl _).alloc _).drew | (apply Ext.drew; assumption) | (apply Ext.alloc; assumption) | exact (((Ext.refl _).drew.trans hx10).trans hx11).alloc _ | exact Ext.setRow (((Ext.refl _).drew.trans hx10).trans (((Ext.refl _).alloc _).trans hx11)) hx10.size _ | exact Ext.setRow ((((Ext.refl _).alloc _).drew.trans hx10).trans hx11) (Nat.le_refl _) _ | (refine Ext.trans ?_ (by assumption); assumption)))
                (first
                  | (go_at_call 14; go_split_ands; refine (H14.out _ (by assumption)).mono ?_; rintro e w10 ⟨r', rfl, HR14, hx10⟩; first | (have hz10 := hx10.blk ((Ext.refl _).drew.blk (heap_alloc_last wB (.cells Try.zeroCells42 42)))) | skip)
                  | (go_at_call 13; go_split_ands; refine (H13.out _ _ (by assumption) q hlt HR14.out.1 HR14.out.2).mono ?_; rintro e w11 ⟨⟨rr, okb, rfl, H3⟩, hx11⟩; first | (have hz11 := hx11.blk hz10; have hst := St42.at_ hz11) | skip)
                  | (go_at_call 13; go_split_ands; refine (H13.out _ _ (by assumption) q hlt HR14.out.1 (HR14.out.2.ext ((Ext.refl _).alloc _))).mono ?_; rintro e w11 ⟨⟨rr, okb, rfl, H3⟩, hx11⟩; have hz11 := hx11.blk (heap_alloc_last w10 (.cells Try.zeroCells42 42)); have hst := St42.at_ hz11))
              all_goals
                go_split_ands
                go_wp2_with fail
                go_meet
                first
                  | exact ⟨_, rr, okb, rfl, rfl, heap_alloc_last _ _, by assumption, H3⟩
                  | exact ⟨_, rr, okb, rfl, rfl, setRow_heap _ _ _ _ _ _ hz11, by assumption, H3⟩
            case rest =>
              obtain ⟨PH, rr, okb, rfl, rfl, hPH, hxC, H3⟩ := hcut
              have hxC9 := hxB9.trans hxC
              obtain ⟨t0, t1, t2, t3, t4, t5, t6⟩ := (HPB.out.ext hxC).cells
              have HRC : Hid (∀ w', Ext wc w' → ∀ i, i ∈ feTo u T (fun k => (R k).s) n → (Rs i).s = (R i).s ∧ Rd w' (Rs i)) := fun w' e i hi => ⟨((HC9.out.ext (hxC9.trans e)).rd i (HFL.out i hi)).1, ((HC9.out.ext (hxC9.trans e)).rd i (HFL.out i hi)).2.2⟩
              have HOC : Hid (∀ id name src x, orgIn (fun i => (Rs i).s) (feTo u T (fun k => (R k).s) n) id name src x = orgIn (fun k => (R k).s) (feTo u T (fun k => (R k).s) n) id name src x) := fun id name src x => orgIn_congr (fun i hi => (HRC.out wc (Ext.refl _) i hi).1)
              by_cases hm : q ∈ feTo u T (fun k => (R k).s) n
              · obtain ⟨rfl, rfl⟩ := hid_first (S := fun k => (R k).s) (i := q) HRe.out hm H3.out
                have HS : Hid (entTo u T (fun k => (R k).s) q (R q).s.name.toList = false) := (mem_fe_iff (S := fun k => (R k).s) hlt HE.out).1 hm
                have HO : Hid (orgIn (fun i => (Rs i).s) (feTo u T (fun k => (R k).s) n) (R q).s.id (R q).s.name (R q).s.src (R q).s.sid = true) := by
                  show _ = _
                  rw [HOC.out]
                  exact org_self (S := fun k => (R k).s) hm
                clear hm H3
                go_wp2_with fail
                refine (originIn22 sa _ sc (feTo u T (fun k => (R k).s) n) Rs (R q).s.id (R q).s.name (R q).s.src (R q).sid (R q).s.sid wc rfl (by omega) (HSL9.out.ext hxC9) (fun i hi => (HRC.out wc (Ext.refl _) i hi).2) ((HL9.out.ext hxC9).rd q hlt).sid).mono ?_
                rw [HO.out]
                rintro e wD ⟨rfl, hxD⟩
                have hPD := hxD.blk hPH
                go_wp2_with ((with_reducible apply load42_blk zeroRaw); exact rfl; exact rfl; exact rfl; exact hPD)
                refine (zeroSkill18 wD).mono ?_
                rintro e wE ⟨rfl, hxE⟩
                go_wp2
                go_roundw
                case rel => exact ⟨q + 1, by omega, by go_num, by rw [nH, HS.out]; simp, (hxC9.trans hxD).trans hxE⟩
                case measure => simp [intOf]; omega
              · obtain ⟨rfl, f, hfm, hfn, rfl, hnm⟩ := hid_other (S := fun k => (R k).s) HRe.out HNT.out hlt HE.out hm H3.out
                have HS : Hid (entTo u T (fun k => (R k).s) q (R q).s.name.toList = true) := by
                  show _ = _
                  cases h : entTo u T (fun k => (R k).s) q (R q).s.name.toList with
                  | true => rfl
                  | false => exact absurd ((mem_fe_iff (S := fun k => (R k).s) hlt HE.out).2 h) hm
                have HO : Hid (orgIn (fun i => (Rs i).s) (feTo u T (fun k => (R k).s) n) (R q).s.id (R q).s.name (R q).s.src (R q).s.sid = false) := by
                  show _ = _
                  rw [HOC.out]
                  exact org_other (S := fun k => (R k).s) HRe.out HNT.out hlt HE.out hm
                have HRf : Hid ((Rs f).s = (R f).s) := (HRC.out wc (Ext.refl _) f hfm).1
                have HO2 : Hid (orgIn (fun i => (Rs i).s) (feTo u T (fun k => (R k).s) n) (Rs f).s.id (Rs f).s.name (Rs f).s.src (Rs f).s.sid = true) := by
                  show _ = _
                  rw [HOC.out, HRf.out]
                  exact org_self (S := fun k => (R k).s) hfm
                have hneq : ((Rs f).s.name.toList == (R q).s.name.toList) = true := by rw [HRf.out]; exact beq_iff_eq.2 hnm
                have HFM : Hid (f ∈ feTo u T (fun k => (R k).s) n) := hfm
                clear hm H3 hfm hnm
                go_wp2_with fail
                refine (originIn22 sa _ sc (feTo u T (fun k => (R k).s) n) Rs (R q).s.id (R q).s.name (R q).s.src (R q).sid (R q).s.sid wc rfl (by omega) (HSL9.out.ext hxC9) (fun i hi => (HRC.out wc (Ext.refl _) i hi).2) ((HL9.out.ext hxC9).rd q hlt).sid).mono ?_
                rw [HO.out]
                rintro e wD ⟨rfl, hxD⟩
                have hPD := hxD.blk hPH
                clear t0 t1 t2 t3 t4 t5 t6
                obtain ⟨t0, t1, t2, t3, t4, t5, t6⟩ := (HPB.out.ext (hxC.trans hxD)).cells
                have v0 : wD.cell? ⟨PH, 0, none⟩ = some (.string (Rs f).s.id) := by rw [cell_of_row _ _ _ _ _ _ hPD]; rfl
                have v1 : wD.cell? ⟨PH, 1, none⟩ = some (.string (Rs f).s.name) := by rw [cell_of_row _ _ _ _ _ _ hPD]; rfl
                have v3 : wD.cell? ⟨PH, 3, none⟩ = some (.string (Rs f).s.src) := by rw [cell_of_row _ _ _ _ _ _ hPD]; rfl
                have v4 : wD.cell? ⟨PH, 4, none⟩ = some (.pointer (Rs f).sid) := by rw [cell_of_row _ _ _ _ _ _ hPD]; rfl
                go_wp2_with fail
                refine (originIn22 sa _ sc (feTo u T (fun k => (R k).s) n) Rs (Rs f).s.id (Rs f).s.name (Rs f).s.src (Rs f).sid (Rs f).s.sid wD rfl (by omega) (HSL9.out.ext (hxC9.trans hxD)) (fun i hi => (HRC.out wD hxD i hi).2) ((HRC.out wD hxD f HFM.out).2).sid).mono ?_
                rw [HO2.out]
                rintro e wE ⟨rfl, hxE⟩
                have hxCE := hxD.trans hxE
                have hPE := hxE.blk hPD
                have hxB := hxC.trans hxCE
                have c0 := (hxC9.trans hxCE).cellSome HP9.out.1
                have c1 := (hxC9.trans hxCE).cellSome HP9.out.2
                clear t0 t1 t2 t3 t4 t5 t6 v0 v1 v3 v4
                go_wp2_with ((with_reducible apply load42_blk (Rs f)); exact rfl; exact rfl; exact rfl; exact hPE)
                refine (H13.out wE (Rs f) hxB f hfn HRf.out (HRC.out wE hxCE f HFM.out).2).mono ?_
                rintro e wF ⟨⟨rr2, ok2, rfl, H4⟩, hxF⟩
                obtain ⟨rfl, rfl⟩ := hid_first (S := fun k => (R k).s) (i := f) HRe.out HFM.out H4.out
                go_wp2_with ((with_reducible apply store42_blk zeroRaw); exact rfl; exact rfl; exact rfl; exact rfl; exact heap_alloc_last _ _; exact zero42_size; intro wG hG hoG hsG hbG)
                have hxG : Ext wF wG := Below.trans ((Ext.refl wF).alloc (.cells Try.zeroCells42 42)) (hbG _ (Nat.le_refl _))
                go_roundw
                case rel => exact ⟨q + 1, by omega, by go_num, by rw [nH, HE.out, HS.out]; simp, ((hxC9.trans hxCE).trans hxF).trans hxG⟩
                case measure => simp [intOf]; omega
        · obtain rfl : n = q := by omega
          have hsum : ((nH u T (fun k => (R k).s) n : Nat) : Int) + ((feTo u T (fun k => (R k).s) n).length : Int) = (nE u T (fun k => (R k).s) n : Nat) := by omega
          go_wp2
          go_ret
          exact ⟨by simp [hsum], hx09.trans hxr⟩
end Go.Proofs.Qxb6613557a
