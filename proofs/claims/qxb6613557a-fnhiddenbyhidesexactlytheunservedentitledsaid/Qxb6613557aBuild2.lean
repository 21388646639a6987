/-
  zzBuild: the catalog that it lays out. Own text.
-/
import Derived.Test.Qxb6613557aApp
import Derived.Deep.DeepCutAuto
namespace Go.Proofs.Qxb6613557a
open Go.RowKit
set_option linter.unusedVariables false

/-- A slice of Skills: those of Rs at the places E. -/
def SkSl (w : World) (a : Option Addr) (E : List Nat) (Rs : Nat → Raw) : Prop :=
  0 < E.length → ∃ b o, a = some ⟨b, o, none⟩ ∧ ∀ j, j < E.length → w.rangeAt b (o + j * 77) (Rs (E.getD j 0)).cells
/-- A slice of places. -/
def IntSl (w : World) (a : Option Addr) (L : List Nat) : Prop :=
  0 < L.length → ∃ b o, a = some ⟨b, o, none⟩ ∧ ∀ j, j < L.length → w.cell? ⟨b, o + j, none⟩ = some (.int .i64 (L.getD j 0 : Nat))
theorem SkSl.ext {w w' : World} {a : Option Addr} {E : List Nat} {Rs : Nat → Raw} (h : SkSl w a E Rs) (e : Ext w w') : SkSl w' a E Rs := fun hE => by
  obtain ⟨b, o, h1, h2⟩ := h hE
  exact ⟨b, o, h1, fun j hj => e.range (h2 j hj)⟩
theorem IntSl.ext {w w' : World} {a : Option Addr} {L : List Nat} (h : IntSl w a L) (e : Ext w w') : IntSl w' a L := fun hE => by
  obtain ⟨b, o, h1, h2⟩ := h hE
  exact ⟨b, o, h1, fun j hj => e.cellSome (h2 j hj)⟩

/-- A catalog as zzBuild lays it out. -/
structure Cat (w : World) (C n : Nat) (Rs : Nat → Raw) (S : Nat → Sk) (Bs : Nat) (ea : Option Addr) (ec : Nat) (ra : Option Addr) (rc : Nat) (Mc Ms Ml : Nat) : Prop where
  c7 : w.cell? ⟨C, 7, none⟩ = some (.slice (some ⟨Bs, 0, none⟩) n n)
  c8 : w.cell? ⟨C, 8, none⟩ = some (.slice ea (evTo S n).length ec)
  c9 : w.cell? ⟨C, 9, none⟩ = some (.slice ra (reTo S n).length rc)
  c10 : w.cell? ⟨C, 10, none⟩ = some (.map (some Mc))
  c11 : w.cell? ⟨C, 11, none⟩ = some (.map (some Ms))
  c12 : w.cell? ⟨C, 12, none⟩ = some (.map (some Ml))
  row : SkRow w Bs n n Rs
  ev : SkSl w ea (evTo S n) Rs
  re : IntSl w ra (reTo S n)
  mc : MB w Mc n (conTo S n n)
  ms : MO w Ms n (svTo S n)
  ml : MO w Ml n (ldTo S n)
  rd : ∀ k, k < n → (Rs k).s = S k ∧ (Rs k).tl ≤ 1048576 ∧ Rd w (Rs k)

theorem Cat.ext {w w' : World} {C n : Nat} {Rs : Nat → Raw} {S : Nat → Sk} {Bs : Nat} {ea : Option Addr} {ec : Nat} {ra : Option Addr} {rc Mc Ms Ml : Nat} (h : Cat w C n Rs S Bs ea ec ra rc Mc Ms Ml) (e : Ext w w') : Cat w' C n Rs S Bs ea ec ra rc Mc Ms Ml :=
  ⟨e.cellSome h.c7, e.cellSome h.c8, e.cellSome h.c9, e.cellSome h.c10, e.cellSome h.c11, e.cellSome h.c12, h.row.ext e, h.ev.ext e, h.re.ext e, h.mc.ext e, h.ms.ext e, h.ml.ext e, fun k hk => ⟨(h.rd k hk).1, (h.rd k hk).2.1, (h.rd k hk).2.2.ext e⟩⟩

theorem flat_get (Rs : Nat → Raw) : ∀ (E : List Nat) (j : Nat), j < E.length → ∀ i v, (Rs (E.getD j 0)).cells[i]? = some v → (E.flatMap (fun i => (Rs i).cells))[j * 77 + i]? = some v
  | e :: E, j, hj, i, v, hv => by
    have hL := (Rs e).cells_length
    have hi : i < 77 := by
      have := (List.getElem?_eq_some_iff.1 hv).1
      rw [Raw.cells_length] at this; exact this
    rw [List.flatMap_cons]
    cases j with
    | zero =>
      rw [Nat.zero_mul, Nat.zero_add, List.getElem?_append_left (by omega)]
      exact hv
    | succ j =>
      rw [List.getElem?_append_right (by omega), hL, show (j + 1) * 77 + i - 77 = j * 77 + i by omega]
      exact flat_get Rs E j (by simpa using hj) i v hv

theorem take_get {l xs : List Value} {m k : Nat} {v : Value} (h : l.take m = xs) (hk : xs[k]? = some v) : l[k]? = some v := by
  rw [← h] at hk
  have hkm : k < m := by
    have := (List.getElem?_eq_some_iff.1 hk).1
    simp at this; omega
  rwa [List.getElem?_take_of_lt hkm] at hk

theorem skSl_of {w : World} {B : Nat} {ev : Value} {E : List Nat} {Rs : Nat → Raw} (h : w.ownsRow B 42 77 ev E.length (E.flatMap (fun i => (Rs i).cells))) : ∃ ea ec, ev = .slice ea E.length ec ∧ SkSl w ea E Rs := by
  obtain ⟨h1, h2⟩ := h
  rcases h2 with ⟨rfl, h2⟩ | ⟨g, cap, cur, rfl, hg, hh, hn, hc, hs, ht⟩
  · exact ⟨none, 0, by rw [h2], fun h => by omega⟩
  · refine ⟨_, cap, rfl, fun _ => ⟨g, 0, rfl, fun j hj i v hv => ?_⟩⟩
    rw [cell_of_row w g _ cur 42 (0, 0) hh, Nat.zero_add, ← Array.getElem?_toList]
    exact take_get ht (flat_get Rs E j hj i v hv)

theorem intSl_of {w : World} {B : Nat} {rv : Value} {L : List Nat} (h : w.ownsRow B 3 1 rv L.length (L.map (fun i : Nat => Value.int .i64 (i : Int)))) : ∃ ra rc, rv = .slice ra L.length rc ∧ IntSl w ra L := by
  obtain ⟨h1, h2⟩ := h
  rcases h2 with ⟨rfl, h2⟩ | ⟨g, cap, cur, rfl, hg, hh, hn, hc, hs, ht⟩
  · exact ⟨none, 0, by rw [h2], fun h => by omega⟩
  · refine ⟨_, cap, rfl, fun _ => ⟨g, 0, rfl, fun j hj => ?_⟩⟩
    rw [cell_of_row w g _ cur 3 (0, 0) hh, Nat.zero_add, ← Array.getElem?_toList]
    refine take_get ht ?_
    rw [List.getElem?_map, List.getElem?_eq_getElem hj]
    simp [List.getD, hj]

theorem evTo_seen {S : Nat → Sk} {q : Nat} (h : gTo S q (S q).name.toList = true) : evTo S (q + 1) = evTo S q := by
  rw [evTo, h]; simp
theorem evTo_new {S : Nat → Sk} {q : Nat} (h1 : isGlobal (S q).vis = true) (h : gTo S q (S q).name.toList = false) : evTo S (q + 1) = evTo S q ++ [q] := by
  rw [evTo, h, h1]; rfl
theorem evTo_skip {S : Nat → Sk} {q : Nat} (h : isGlobal (S q).vis = false) : evTo S (q + 1) = evTo S q := by
  rw [evTo, h]; rfl
theorem reTo_skip {S : Nat → Sk} {q : Nat} (h : isGlobal (S q).vis = true) : reTo S (q + 1) = reTo S q := by
  rw [reTo, h]; rfl
theorem reTo_new {S : Nat → Sk} {q : Nat} (h : isGlobal (S q).vis = false) : reTo S (q + 1) = reTo S q ++ [q] := by
  rw [reTo, h]; rfl
theorem svTo_skip {S : Nat → Sk} {q : Nat} (h : isCustom (S q).src = false) : svTo S (q + 1) = svTo S q := by
  rw [svTo, h]; rfl
theorem svTo_seen {S : Nat → Sk} {q : Nat} (h : (svTo S q).contains (S q).id.toList = true) : svTo S (q + 1) = svTo S q := by
  rw [svTo, h]; simp
theorem svTo_new {S : Nat → Sk} {q : Nat} (h1 : isCustom (S q).src = true) (h : (svTo S q).contains (S q).id.toList = false) : svTo S (q + 1) = svTo S q ++ [(S q).id.toList] := by
  rw [svTo, h, h1]; rfl
theorem ldTo_skip {S : Nat → Sk} {q : Nat} (h : isHub (S q).src = false) : ldTo S (q + 1) = ldTo S q := by
  rw [ldTo, h]
theorem ldTo_none {S : Nat → Sk} {q : Nat} (h : (S q).sid = none) : ldTo S (q + 1) = ldTo S q := by
  rw [ldTo, h]; cases isHub (S q).src <;> rfl
theorem ldTo_seen {S : Nat → Sk} {q : Nat} {x : ByteArray} (hx : (S q).sid = some x) (h : (ldTo S q).contains (hubKey x) = true) : ldTo S (q + 1) = ldTo S q := by
  rw [ldTo, hx]; split <;> simp_all
theorem ldTo_new {S : Nat → Sk} {q : Nat} {x : ByteArray} (h1 : isHub (S q).src = true) (hx : (S q).sid = some x) (h : (ldTo S q).contains (hubKey x) = false) : ldTo S (q + 1) = ldTo S q ++ [hubKey x] := by
  rw [ldTo, h1, hx]; simp_all
section
variable {w2 wr w' : World} {Rs : Nat → Raw} {B : Nat} {ev rv : Value} {E L : List Nat} {Mc nc : Nat} {fc : List UInt8 → Int} {Mg ng : Nat} {fg : List UInt8 → Bool} {Ms ns : Nat} {Ks : List (List UInt8)} {Ml nl : Nat} {Kl : List (List UInt8)}
theorem BM.monoG {fg' : List UInt8 → Bool} (h : BM w2 wr Rs B ev rv E L Mc nc fc Mg ng fg Ms ns Ks Ml nl Kl) (e : ∀ l, fg l = fg' l) : BM w2 wr Rs B ev rv E L Mc nc fc Mg (ng + 1) fg' Ms ns Ks Ml nl Kl :=
  { h with mg := (h.mg.mono (Nat.le_succ _)).congr e }
theorem MO.mono {w : World} {b n m : Nat} {K : List (List UInt8)} (h : MO w b n K) (hm : n ≤ m) : MO w b m K := by
  obtain ⟨D, ho, hf⟩ := h
  exact ⟨D, ho.mono hm, hf⟩
theorem BM.monoS (h : BM w2 wr Rs B ev rv E L Mc nc fc Mg ng fg Ms ns Ks Ml nl Kl) : BM w2 wr Rs B ev rv E L Mc nc fc Mg ng fg Ms (ns + 1) Ks Ml nl Kl :=
  { h with ms := h.ms.mono (Nat.le_succ _) }
theorem BM.monoL (h : BM w2 wr Rs B ev rv E L Mc nc fc Mg ng fg Ms ns Ks Ml nl Kl) : BM w2 wr Rs B ev rv E L Mc nc fc Mg ng fg Ms ns Ks Ml (nl + 1) Kl :=
  { h with ml := h.ml.mono (Nat.le_succ _) }
end

set_option maxHeartbeats 4000000 in
set_option maxRecDepth 100000 in
theorem zzBuild (a : Option Addr) (n c b o : Nat) (R : Nat → Raw) (w : World) (hn : n ≤ 4096) (ha : 0 < n → a = some ⟨b, o, none⟩) (hl : Lst w b o n R) (hsm : ∀ k, k < n → Small (R k).s) :
    Calls Try.prog 12 #[.slice a n c] w fun e w' => ∃ C Rs Bs ea ec ra rc Mc Ms Ml, e = .returned (.pointer (some ⟨C, 0, none⟩)) ∧ Cat w' C n Rs (fun k => (R k).s) Bs ea ec ra rc Mc Ms Ml ∧ Ext w w' := by
  have hmk := make53 n (by omega)
  have hmm := @run_makeMap Try.prog
  have H0 := SkRow.made w n R
  go_enter Try.func12, Try.ntmps12
  go_wp2
  clear hmk
  have hx0 : Ext w (w.alloc (.cells (madeCells Try.zeroCells42 (n * 77)) 42)) := (Ext.refl _).alloc _
  generalize w.alloc (.cells (madeCells Try.zeroCells42 (n * 77)) 42) = w0 at *
  go_loopw [4] (fun i wr => ∃ (k : Nat) (Rs : Nat → Raw), k ≤ n ∧ i = .int .i64 k ∧ SkRow wr w.heap.size n k Rs ∧ Hid (∀ t, t < k → (Rs t).s = (R t).s ∧ (Rs t).tl = (R t).tl ∧ RdN wr (Rs t)) ∧ Ext w wr) (fun i _ => n - (intOf i).toNat)
  case atStart => exact ⟨0, R, Nat.zero_le _, rfl, H0, fun t ht => absurd ht (Nat.not_lt_zero _), hx0⟩
  case round =>
    obtain ⟨k, Rs, hk, rfl, hrow, HR, hx⟩ := hrel
    clear H0 hx0
    by_cases hlt : k < n
    · obtain rfl := ha (by omega)
      obtain ⟨g0, g1, g2, g3, g4, g5, g6⟩ := (hl.ext hx).seven hlt
      have hrd := (hl.ext hx).rd k hlt
      have htl : (R k).tl ≤ 1048576 := by have h1 := hrd.tm.sstr.1; have h2 := (hsm k hlt).teams; omega
      have hlt' : (k : Int) < (n : Int) := by omega
      go_wp2_with fail
      refine (toSkill (R k) _ hrd htl).mono ?_
      rintro e w1 ⟨r', rfl, hs', hN', htl', hx1⟩
      have hrow1 := hrow.ext hx1
      have HR1 : Hid (∀ t, t < k → (Rs t).s = (R t).s ∧ (Rs t).tl = (R t).tl ∧ RdN w1 (Rs t)) := fun t ht => ⟨(HR.out t ht).1, (HR.out t ht).2.1, (HR.out t ht).2.2.ext hx1⟩
      have hx1' := hx.trans hx1
      have HS' : Hid (r'.s = (R k).s ∧ r'.tl = (R k).tl) := ⟨hs', htl'⟩
      have hth := hrow1.there hlt
      clear g0 g1 g2 g3 g4 g5 g6 hrd hrow HR hx hs' htl' hx1
      go_wp2_with ((with_reducible apply store42_mid r'); exact rfl; exact rfl; exact rfl; exact rfl; exact hth)
      go_roundw
      case rel =>
        have hrow2 := hrow1.store r'
        have kp : ∀ (bb : Nat) (cc : Array Value), w1.heap[bb]? = some (Obj.cells cc 9 (0, 0)) → (w1.setCells w.heap.size (k * 77) r'.cells).heap[bb]? = w1.heap[bb]? := fun bb cc hbb => by
          refine World.heap_setCells_other _ _ _ _ (Array.getElem?_eq_some_iff.1 hbb).1 (fun e => ?_)
          obtain ⟨f, ⟨c2, hc2, _⟩, _⟩ := hrow1
          rw [e, hc2] at hbb
          injection hbb with hbb
          injection hbb with _ hbb _
          exact absurd hbb (by decide)
        exact ⟨k + 1, upd Rs k r', by omega, by go_num, hrow2, fun t ht => by
          by_cases e : t = k
          · subst e; simp only [upd, if_true]; exact ⟨HS'.out.1, HS'.out.2, hN'.keep kp⟩
          · simp only [upd, if_neg e]; obtain ⟨q1, q2, q3⟩ := HR1.out t (by omega); exact ⟨q1, q2, q3.keep kp⟩, below_setCells (Nat.le_refl _) _ _ _ hx1'⟩
      case measure => simp [intOf]; omega
    · obtain rfl : n = k := by omega
      go_wp2
      clear hmm
      generalize wr = wL at *
      have h1 := (((MI.made wL).ext ((Ext.refl _).alloc (.map #[] 0))).ext ((Ext.refl _).alloc (.map #[] 0))).ext ((Ext.refl _).alloc (.map #[] 0))
      have h2 := ((MB.made (wL.alloc (.map #[] 0))).ext ((Ext.refl _).alloc (.map #[] 0))).ext ((Ext.refl _).alloc (.map #[] 0))
      have h3 := (MO.made ((wL.alloc (.map #[] 0)).alloc (.map #[] 0))).ext ((Ext.refl _).alloc (.map #[] 0))
      have h4 := MO.made (((wL.alloc (.map #[] 0)).alloc (.map #[] 0)).alloc (.map #[] 0))
      have hx2 : Ext wL ((((wL.alloc (.map #[] 0)).alloc (.map #[] 0)).alloc (.map #[] 0)).alloc (.map #[] 0)) := ((((Ext.refl wL).alloc _).alloc _).alloc _).alloc _
      simp only [World.size_alloc] at h2 h3 h4
      have hB : BM wL ((((wL.alloc (.map #[] 0)).alloc (.map #[] 0)).alloc (.map #[] 0)).alloc (.map #[] 0)) Rs wL.heap.size (.slice none 0 0) (.slice none 0 0) [] [] wL.heap.size 0 (fun _ => 0) (wL.heap.size + 1) 0 (fun _ => false) (wL.heap.size + 1 + 1) 0 [] (wL.heap.size + 1 + 1 + 1) 0 [] :=
        ⟨hx2, rfl, World.ownsRow_nil _ _ _ _, World.ownsRow_nil _ _ _ _, h1, h2, h3, h4, by omega, by omega, by omega, by omega, by omega, by omega, by omega, by omega, by omega, by omega⟩
      clear h1 h2 h3 h4 hx2
      generalize (((wL.alloc (.map #[] 0)).alloc (.map #[] 0)).alloc (.map #[] 0)).alloc (.map #[] 0) = wz at *
      generalize wL.heap.size + 1 + 1 + 1 = Ml at *
      generalize wL.heap.size + 1 + 1 = Ms at *
      generalize wL.heap.size + 1 = Mg at *
      generalize wL.heap.size = Mc at hB ⊢
      generalize hBs : w.heap.size = Bs at hrow ⊢
      go_loopw [5, 6, 11] (fun ev rv i wx => ∃ q : Nat, q ≤ n ∧ i = .int .i64 q ∧ BM wL wx Rs Mc ev rv (evTo (fun k => (R k).s) q) (reTo (fun k => (R k).s) q) Mc q (cntTo (fun k => (R k).s) q) Mg q (gTo (fun k => (R k).s) q) Ms q (svTo (fun k => (R k).s) q) Ml q (ldTo (fun k => (R k).s) q)) (fun _ _ i _ => n - (intOf i).toNat)
      case atStart => exact ⟨0, Nat.zero_le _, rfl, hB⟩
      case round =>
        obtain ⟨q, hq, rfl, M⟩ := hrel
        clear hB
        by_cases hlq : q < n
        · have hxx := hx.trans M.ext
          obtain rfl := ha (by omega)
          obtain ⟨g0, g1, g2, g3, g4, g5, g6⟩ := (hl.ext hxx).seven hlq
          have hs := hsm q hlq
          have hlq' : (q : Int) < (n : Int) := by omega
          have hP := InBox.new wr (R q)
          have M1 := M.call ((Ext.refl _).alloc (.cells #[.string (R q).s.id, .string (R q).s.name, .string (R q).s.src, .pointer (R q).sid, .string (R q).s.vis, .slice (R q).tm (R q).tl (R q).tc, .pointer (R q).own] 26))
          have hnm : (R q).s.name.size ≤ 2147483648 := by have := hs.name; omega
          have hid : (R q).s.id.size ≤ 2147483648 := by have := hs.id; omega
          have hct := cntTo_le (fun k => (R k).s) (R q).s.name.toList q
          have hPc : wr.heap.size ≠ Mc := by have := M.mc.lt; omega
          have hPg : wr.heap.size ≠ Mg := by have := M.mg.lt; omega
          have hPs : wr.heap.size ≠ Ms := by have := M.ms.lt; omega
          have hPl : wr.heap.size ≠ Ml := by have := M.ml.lt; omega
          clear M
          go_wp2_with (first | (at_lookup; refine wp_lookI M1.mc hnm rfl rfl rfl rfl ?_) | (at_mapUpdate; refine wp_putI M1.mc (by omega) hnm rfl rfl rfl rfl rfl (WalkArith.wf_i64 (by omega)) ?_; intro w2 hM2 hg2; change Hid _))
          unfold Hid
          have M2 := M1.putC (hM2.congr (g := cntTo (fun k => (R k).s) (q + 1)) (fun l => by
            rw [show cntTo (fun k => (R k).s) (q + 1) l = if l = (R q).s.name.toList then cntTo (fun k => (R k).s) q l + 1 else cntTo (fun k => (R k).s) q l from rfl]
            by_cases e : l = (R q).s.name.toList
            · rw [if_pos e, if_pos e, e]
            · rw [if_neg e, if_neg e])) hg2
          have hP2 := hP.block (grown_other hg2 hP.lt hPc)
          clear hM2 hg2 M1 hP hct hxx g0 g1 g2 g3 g4 g5 g6
          generalize wr.heap.size = P at *
          obtain ⟨d0, d1, d2, d3, d4, d5, d6⟩ := hP2.cells
          go_upto_if 61 with (fail)
          go_cut [5, 6] (fun s5 s6 wc => BM wL wc Rs Mc s5 s6 (evTo (fun k => (R k).s) (q + 1)) (reTo (fun k => (R k).s) (q + 1)) Mc (q + 1) (cntTo (fun k => (R k).s) (q + 1)) Mg (q + 1) (gTo (fun k => (R k).s) (q + 1)) Ms q (svTo (fun k => (R k).s) q) Ml q (ldTo (fun k => (R k).s) q) ∧ InBox wc P (R q))
          case first =>
            cases e1 : isGlobal (R q).s.vis with
            | true =>
              have E1 : Hid (isGlobal (R q).s.vis = true) := e1
              unfold isGlobal at e1
              rw [e1]
              clear e1
              cases hgt : gTo (fun k => (R k).s) q (R q).s.name.toList with
              | true =>
                have HG : Hid (gTo (fun k => (R k).s) q (R q).s.name.toList = true) := hgt
                go_wp2_with (at_lookup; refine wp_lookB M2.mg hnm rfl rfl rfl rfl ?_; rw [hgt])
                go_meet
                case rel =>
                  refine ⟨?_, hP2⟩
                  rw [evTo_seen HG.out, reTo_skip E1.out]
                  exact M2.monoG (gTo_seen HG.out)
              | false =>
                have HG : Hid (gTo (fun k => (R k).s) q (R q).s.name.toList = false) := hgt
                go_wp2_with (first | (at_lookup; refine wp_lookB M2.mg hnm rfl rfl rfl rfl ?_; rw [hgt]) | (at_mapUpdate; refine wp_putB M2.mg (by omega) hnm rfl rfl rfl rfl rfl ?_; intro w3 hM3 hg3; change Hid _))
                unfold Hid
                have M3 := M2.putG (hM3.congr (gTo_succ (S := fun k => (R k).s) E1.out)) hg3
                have hP3 := hP2.block (grown_other hg3 hP2.lt hPg)
                clear hM3 hg3 M2 d0 d1 d2 d3 d4 d5 d6
                have hrg := (hrow.ext M3.ext).range (Nat.le_refl _) hlq
                have hel := evTo_le (fun k => (R k).s) q
                have hsz3 := M3.ext.size
                rw [← M3.eB] at hsz3
                go_wp2_with (first | ((with_reducible apply load42 (Rs q)); exact rfl; exact rfl; exact rfl; exact hrg) | ((with_reducible apply wp_build53 (Rs q)); exact rfl; exact rfl; exact rfl) | (at_builtin; refine wp_appE (r := Rs q) M3.oe hsz3 (by omega) rfl rfl rfl rfl ?_; intro v' w4 ho4 hg4))
                go_meet
                case rel =>
                  have M3' := M3.call ((Ext.refl _).alloc (.cells (Rs q).arr 42))
                  have M4 := M3'.appE (i := q) ho4 hg4
                  have hP4 := hP3.ext ((Ext.refl _).alloc (.cells (Rs q).arr 42))
                  refine ⟨?_, hP4.block (keep_app M3'.oe hg4 (by decide) P _ hP4)⟩
                  rw [evTo_new E1.out HG.out, reTo_skip E1.out]
                  exact M4
            | false =>
              have E1 : Hid (isGlobal (R q).s.vis = false) := e1
              unfold isGlobal at e1
              rw [e1]
              clear e1 d0 d1 d2 d3 d4 d5 d6
              have hel := reTo_le (fun k => (R k).s) q
              have hsz3 := M2.ext.size
              rw [← M2.eB] at hsz3
              go_wp2_with (at_builtin; refine wp_appR (z := (q : Int)) M2.orr hsz3 (by omega) rfl rfl rfl rfl ?_; intro v' w4 ho4 hg4)
              go_meet
              case rel =>
                have M3' := M2.call ((Ext.refl _).alloc (.cells #[.int .i64 (q : Int)] 3))
                have M4 := M3'.appR (i := q) ho4 hg4
                have hP4 := hP2.ext ((Ext.refl _).alloc (.cells #[.int .i64 (q : Int)] 3))
                refine ⟨?_, hP4.block (keep_app M3'.orr hg4 (by decide) P _ hP4)⟩
                rw [evTo_skip (S := fun k => (R k).s) E1.out, reTo_new E1.out]
                exact M4.monoG (gTo_skip E1.out)
          case rest =>
            obtain ⟨M3, hP3⟩ := hcut
            clear M2 hP2 d0 d1 d2 d3 d4 d5 d6
            obtain ⟨d0, d1, d2, d3, d4, d5, d6⟩ := hP3.cells
            go_upto_if 83 with (fail)
            go_cut [] (fun wc2 => BM wL wc2 Rs Mc u5 u6 (evTo (fun k => (R k).s) (q + 1)) (reTo (fun k => (R k).s) (q + 1)) Mc (q + 1) (cntTo (fun k => (R k).s) (q + 1)) Mg (q + 1) (gTo (fun k => (R k).s) (q + 1)) Ms (q + 1) (svTo (fun k => (R k).s) (q + 1)) Ml q (ldTo (fun k => (R k).s) q) ∧ InBox wc2 P (R q))
            case first =>
              cases e1 : isCustom (R q).s.src with
              | false =>
                have E1 : Hid (isCustom (R q).s.src = false) := e1
                unfold isCustom at e1
                rw [e1]
                clear e1
                go_wp2
                go_meet
                case rel =>
                  refine ⟨?_, hP3⟩
                  rw [svTo_skip (S := fun k => (R k).s) E1.out]
                  exact M3.monoS
              | true =>
                have E1 : Hid (isCustom (R q).s.src = true) := e1
                unfold isCustom at e1
                rw [e1]
                clear e1
                cases hgt : (svTo (fun k => (R k).s) q).contains (R q).s.id.toList with
                | true =>
                  have HG : Hid ((svTo (fun k => (R k).s) q).contains (R q).s.id.toList = true) := hgt
                  go_wp2_with (at_lookup; refine wp_lookO M3.ms hid rfl rfl rfl rfl ?_; rw [hgt]; intro c0 hc0)
                  go_meet
                  case rel =>
                    refine ⟨?_, hP3⟩
                    rw [svTo_seen (S := fun k => (R k).s) HG.out]
                    exact M3.monoS
                | false =>
                  have HG : Hid ((svTo (fun k => (R k).s) q).contains (R q).s.id.toList = false) := hgt
                  have HN : (R q).s.id.toList ∉ svTo (fun k => (R k).s) q := by simpa using hgt
                  go_wp2_with (first | (at_lookup; refine wp_lookO M3.ms hid rfl rfl rfl rfl ?_; rw [hgt]; intro c0 hc0) | (at_len; refine wp_lenO M3.ms rfl rfl rfl ?_) | (at_mapUpdate; refine wp_putO M3.ms HN (by omega) hid rfl rfl rfl rfl rfl ?_; intro w3 hM3 hg3))
                  go_meet
                  case rel =>
                    refine ⟨?_, hP3.block (grown_other hg3 hP3.lt hPs)⟩
                    rw [svTo_new (S := fun k => (R k).s) E1.out HG.out]
                    exact M3.putS hM3 hg3
            case rest =>
              obtain ⟨M4, hP4⟩ := hcut
              clear M3 hP3 d0 d1 d2 d3 d4 d5 d6
              obtain ⟨d0, d1, d2, d3, d4, d5, d6⟩ := hP4.cells
              have hsd := ((hl.ext (hx.trans M4.ext)).rd q hlq).sid
              cases e1 : isHub (R q).s.src with
              | false =>
                have E1 : Hid (isHub (R q).s.src = false) := e1
                unfold isHub at e1
                go_wp2
                go_roundw
                case rel =>
                  refine ⟨q + 1, by omega, by go_num, ?_⟩
                  rw [ldTo_skip (S := fun k => (R k).s) E1.out]
                  exact M4.monoL
                case measure => simp [intOf]; omega
              | true =>
                have E1 : Hid (isHub (R q).s.src = true) := e1
                unfold isHub at e1
                rcases hsd with ⟨hp, hv⟩ | ⟨b1, o1, x, hp, hv, hcx⟩
                · rw [hp] at d3
                  have E2 : Hid ((R q).s.sid = none) := hv
                  clear hp hv
                  go_wp2
                  go_roundw
                  case rel =>
                    refine ⟨q + 1, by omega, by go_num, ?_⟩
                    rw [ldTo_none (S := fun k => (R k).s) E2.out]
                    exact M4.monoL
                  case measure => simp [intOf]; omega
                · rw [hp] at d3
                  have hxs := hs.sid x hv
                  have E2 : Hid ((R q).s.sid = some x) := hv
                  clear hp hv
                  go_wp2_with (fail)
                  refine (hubSourceID x _ hxs).mono ?_
                  rintro e wy ⟨y, rfl, hy, hys, rfl⟩
                  cases hgt : (ldTo (fun k => (R k).s) q).contains y.toList with
                  | true =>
                    have HG : Hid ((ldTo (fun k => (R k).s) q).contains (hubKey x) = true) := by rw [← hy]; exact hgt
                    go_wp2_with (at_lookup; refine wp_lookO M4.ml hys rfl rfl rfl rfl ?_; rw [hgt]; intro c0 hc0)
                    go_roundw
                    case rel =>
                      refine ⟨q + 1, by omega, by go_num, ?_⟩
                      rw [ldTo_seen (S := fun k => (R k).s) E2.out HG.out]
                      exact M4.monoL
                    case measure => simp [intOf]; omega
                  | false =>
                    have HG : Hid ((ldTo (fun k => (R k).s) q).contains (hubKey x) = false) := by rw [← hy]; exact hgt
                    have HN : y.toList ∉ ldTo (fun k => (R k).s) q := by simpa using hgt
                    have HY : Hid (y.toList = hubKey x) := hy
                    clear hy
                    go_wp2_with (first | (at_lookup; refine wp_lookO M4.ml hys rfl rfl rfl rfl ?_; rw [hgt]; intro c0 hc0) | (at_len; refine wp_lenO M4.ml rfl rfl rfl ?_) | (at_mapUpdate; refine wp_putO M4.ml HN (by omega) hys rfl rfl rfl rfl rfl ?_; intro w3 hM3 hg3))
                    go_roundw
                    case rel =>
                      refine ⟨q + 1, by omega, by go_num, ?_⟩
                      rw [ldTo_new (S := fun k => (R k).s) E1.out E2.out HG.out]
                      rw [HY.out] at hM3
                      exact M4.putL hM3 hg3
                    case measure => simp [intOf]; omega
        · obtain rfl : n = q := by omega
          have hmm := @run_makeMap Try.prog
          go_wp2
          clear hmm
          have h5 := MB.made wr
          have hx5 : Ext wr (wr.alloc (.map #[] 0)) := (Ext.refl wr).alloc (.map #[] 0)
          clear hlt hlq
          generalize wr.alloc (.map #[] 0) = w5 at *
          have hMk : wr.heap.size = wr.heap.size := rfl
          generalize hMk : wr.heap.size = Mk at h5 ⊢
          generalize wr = wM at *
          go_loopw [19] (fun i wx => ∃ q : Nat, q ≤ n ∧ i = .int .i64 q ∧ MB wx Mk q (conTo (fun k => (R k).s) n q) ∧ Ext wM wx) (fun i _ => n - (intOf i).toNat)
          case atStart => exact ⟨0, Nat.zero_le _, rfl, h5, hx5⟩
          case round =>
            obtain ⟨q, hq, rfl, MK, hxk⟩ := hrel
            clear h5 hx5
            by_cases hlq : q < n
            · have hxx := hx.trans (M.ext.trans hxk)
              obtain rfl := ha (by omega)
              obtain ⟨g0, g1, g2, g3, g4, g5, g6⟩ := (hl.ext hxx).seven hlq
              have hs := hsm q hlq
              have hlq' : (q : Int) < (n : Int) := by omega
              have hnm : (R q).s.name.size ≤ 2147483648 := by have := hs.name; omega
              have hmc := M.mc.ext hxk
              by_cases hc1 : 1 < cntTo (fun k => (R k).s) n (R q).s.name.toList
              · have HC : Hid (1 < cntTo (fun k => (R k).s) n (R q).s.name.toList) := hc1
                go_wp2_with (first | (at_lookup; refine wp_lookI hmc hnm rfl rfl rfl rfl ?_) | (at_mapUpdate; refine wp_putB MK (by omega) hnm rfl rfl rfl rfl rfl ?_; intro w3 hM3 hg3))
                go_roundw
                case rel =>
                  exact ⟨q + 1, by omega, by go_num, hM3.congr (conTo_succ (S := fun k => (R k).s) HC.out), Below.grown hxk hg3 hxk.size (fun k hk => by injection hk with hk; omega)⟩
                case measure => simp [intOf]; omega
              · have HC : Hid (¬ 1 < cntTo (fun k => (R k).s) n (R q).s.name.toList) := hc1
                go_wp2_with (at_lookup; refine wp_lookI hmc hnm rfl rfl rfl rfl ?_)
                go_roundw
                case rel =>
                  exact ⟨q + 1, by omega, by go_num, (MK.mono (Nat.le_succ _)).congr (conTo_skip (S := fun k => (R k).s) HC.out), hxk⟩
                case measure => simp [intOf]; omega
            · obtain rfl : n = q := by omega
              have M6 := M.call hxk
              obtain ⟨ea, ec, rfl, he⟩ := skSl_of M6.oe
              obtain ⟨ra, rc, rfl, hr⟩ := intSl_of M6.orr
              go_wp2_with (fail)
              refine (newCatalog _ _ _ _ _ _ _ _ _ _ _ _ _).mono ?_
              rintro e wf ⟨rfl, f7, f8, f9, f10, f11, f12, hxf⟩
              go_wp2
              go_ret
              exact ⟨_, Rs, Bs, ea, ec, ra, rc, Mk, Ms, Ml, rfl, ⟨f7, f8, f9, f10, f11, f12, (hrow.ext (M6.ext.trans hxf)), he.ext hxf, hr.ext hxf, MK.ext hxf, M6.ms.ext hxf, M6.ml.ext hxf, fun k hk => by
                obtain ⟨q1, q2, q3⟩ := HR.out k hk
                have htl : (R k).tl ≤ 1048576 := by have h1 := (hl.rd k hk).tm.sstr.1; have h2 := (hsm k hk).teams; omega
                exact ⟨q1, by omega, (q3.ext (M6.ext.trans hxf)).rd⟩⟩, hx.trans (M6.ext.trans hxf)⟩
end Go.Proofs.Qxb6613557a
