/-
  servedTo. Own text.
-/
import Derived.Test.Qxb6613557aServe2
namespace Go.Proofs.Qxb6613557a
open Go.RowKit
set_option linter.unusedVariables false
set_option linter.unusedSimpArgs false
attribute [local go_sem ↓] L42.shut

/-! ### plain -/
/-- The contested names taken among the first k. -/
def tkTo (u : ByteArray) (T : List ByteArray) (S : Nat → Sk) (con : List UInt8 → Bool) : Nat → List UInt8 → Bool
  | 0, _ => false
  | k + 1, l => tkTo u T S con k l || (ent u T (S k) && con (S k).name.toList && (S k).name.toList == l)
/-- Those served among the first k. -/
def vsTo (u : ByteArray) (T : List ByteArray) (S : Nat → Sk) (con : List UInt8 → Bool) : Nat → List Nat
  | 0 => []
  | k + 1 => if ent u T (S k) && !(con (S k).name.toList && tkTo u T S con k (S k).name.toList) then vsTo u T S con k ++ [k] else vsTo u T S con k
section
variable {u : ByteArray} {T : List ByteArray} {S : Nat → Sk} {con : List UInt8 → Bool} {k : Nat}
theorem vsTo_le : ∀ k, (vsTo u T S con k).length ≤ k
  | 0 => Nat.le_refl _
  | k + 1 => by
    have := vsTo_le k
    unfold vsTo
    split
    · simp; omega
    · omega
theorem vsTo_not (h : ent u T (S k) = false) : vsTo u T S con (k + 1) = vsTo u T S con k := by rw [vsTo, h]; rfl
theorem vsTo_free (h : ent u T (S k) = true) (h2 : con (S k).name.toList = false) : vsTo u T S con (k + 1) = vsTo u T S con k ++ [k] := by rw [vsTo, h, h2]; rfl
theorem vsTo_taken (h2 : con (S k).name.toList = true) (h3 : tkTo u T S con k (S k).name.toList = true) : vsTo u T S con (k + 1) = vsTo u T S con k := by rw [vsTo, h2, h3]; simp
theorem vsTo_new (h : ent u T (S k) = true) (h3 : tkTo u T S con k (S k).name.toList = false) : vsTo u T S con (k + 1) = vsTo u T S con k ++ [k] := by rw [vsTo, h, h3]; simp
theorem tkTo_not (h : ent u T (S k) = false) (l : List UInt8) : tkTo u T S con k l = tkTo u T S con (k + 1) l := by
  rw [show tkTo u T S con (k + 1) l = (tkTo u T S con k l || (ent u T (S k) && con (S k).name.toList && (S k).name.toList == l)) from rfl, h]; simp
theorem tkTo_free (h : con (S k).name.toList = false) (l : List UInt8) : tkTo u T S con k l = tkTo u T S con (k + 1) l := by
  rw [show tkTo u T S con (k + 1) l = (tkTo u T S con k l || (ent u T (S k) && con (S k).name.toList && (S k).name.toList == l)) from rfl, h]; simp
theorem tkTo_taken (h : tkTo u T S con k (S k).name.toList = true) (l : List UInt8) : tkTo u T S con k l = tkTo u T S con (k + 1) l := by
  rw [show tkTo u T S con (k + 1) l = (tkTo u T S con k l || (ent u T (S k) && con (S k).name.toList && (S k).name.toList == l)) from rfl]
  by_cases e : l = (S k).name.toList
  · subst e; simp [h]
  · have e' : ((S k).name.toList == l) = false := beq_eq_false_iff_ne.2 (fun h => e h.symm)
    simp [e']
theorem tkTo_new (h : ent u T (S k) = true) (h2 : con (S k).name.toList = true) (l : List UInt8) : (if l = (S k).name.toList then true else tkTo u T S con k l) = tkTo u T S con (k + 1) l := by
  rw [show tkTo u T S con (k + 1) l = (tkTo u T S con k l || (ent u T (S k) && con (S k).name.toList && (S k).name.toList == l)) from rfl, h, h2]
  by_cases e : l = (S k).name.toList
  · subst e; simp
  · have e' : ((S k).name.toList == l) = false := beq_eq_false_iff_ne.2 (fun h => e h.symm)
    simp [e, e']
end

/-! ### memory -/
theorem make53c (n : Nat) (hn : n ≤ 1048576) (w : World) :
    (Instr.makeSlice 53 (.int .i64 0) (.int .i64 (n : Int))).run Try.prog w = .ok (.slice (some ⟨w.heap.size, 0, none⟩) 0 n) (w.alloc (.cells (madeCells Try.zeroCells42 (n * 77)) 42)) := by
  obtain ⟨i, hi, hzz⟩ := Option.map_eq_some_iff.1 info42'
  simp only [Prod.mk.injEq] at hzz
  obtain ⟨hz, hs, hb⟩ := hzz
  have hr := run_make (P := Try.prog) w 53 42 i _ Try.underlying53 hi hz .i64 .i64 0 n (by omega) (by omega) (by rw [hb]; omega) (by omega)
  simp only [Int.toNat_natCast, Int.toNat_zero, hs, Value.cells] at hr
  exact hr

/-- servedTo's own memory: a row and a map from block B on; nothing of w2 has turned. -/
structure SM (w2 wr : World) (Rs : Nat → Raw) (B : Nat) (ev : Value) (E : List Nat) (Mt nt : Nat) (ft : List UInt8 → Bool) : Prop where
  ext : Ext w2 wr
  eB : B = w2.heap.size
  oe : wr.ownsRow B 42 77 ev E.length (E.flatMap (fun i => (Rs i).cells))
  mt : MB wr Mt nt ft
  lt : B ≤ Mt
section
variable {w2 wr w' : World} {Rs : Nat → Raw} {B : Nat} {ev : Value} {E : List Nat} {Mt nt : Nat} {ft : List UInt8 → Bool}
theorem SM.call (h : SM w2 wr Rs B ev E Mt nt ft) (e : Ext wr w') : SM w2 w' Rs B ev E Mt nt ft :=
  ⟨h.ext.trans e, h.eB, ownsRow_keep h.oe (fun g c hg => Below.block e g (Array.getElem?_eq_some_iff.1 hg).1), h.mt.ext e, h.lt⟩
theorem SM.putT {nt' : Nat} {ft' : List UInt8 → Bool} (h : SM w2 wr Rs B ev E Mt nt ft) (hM : MB w' Mt nt' ft') (hg : wr.grownBy w' (some Mt)) : SM w2 w' Rs B ev E Mt nt' ft' := by
  obtain ⟨es, cl, hb⟩ := h.mt.obj
  exact ⟨Below.grown h.ext hg h.ext.size (fun j hj => by injection hj with hj; rw [← hj, ← h.eB]; exact h.lt), h.eB, ownsRow_keep h.oe (keep_map hb hg), hM, h.lt⟩
theorem SM.appE {ev' : Value} {i : Nat} (h : SM w2 wr Rs B ev E Mt nt ft) (ho : w'.ownsRow B 42 77 ev' (E.length + 1) (E.flatMap (fun i => (Rs i).cells) ++ (Rs i).cells)) (hg : wr.grownBy w' ev.ownBlock) : SM w2 w' Rs B ev' (E ++ [i]) Mt nt ft :=
  ⟨Below.grown h.ext hg h.ext.size (fun j hj => by rw [← h.eB]; exact (ownBlock_of h.oe hj).1), h.eB, by simpa using ho, h.mt.block (keep_app_map h.oe hg h.mt.obj), h.lt⟩
theorem SM.monoT {ft' : List UInt8 → Bool} (h : SM w2 wr Rs B ev E Mt nt ft) (e : ∀ l, ft l = ft' l) : SM w2 wr Rs B ev E Mt (nt + 1) ft' :=
  { h with mt := (h.mt.mono (Nat.le_succ _)).congr e }
end

set_option maxHeartbeats 2000000 in
set_option maxRecDepth 100000 in
theorem servedTo43 (C n : Nat) (Rs : Nat → Raw) (S : Nat → Sk) (Bs : Nat) (ea : Option Addr) (ec : Nat) (ra : Option Addr) (rc Mc Ms Ml : Nat) (u : ByteArray) (a : Option Addr) (m c : Nat) (T : List ByteArray) (w : World)
    (hn : n ≤ 4096) (hm : m ≤ 1048576) (hC : Cat w C n Rs S Bs ea ec ra rc Mc Ms Ml) (hT : SStr w a m T) (hnm : ∀ k, k < n → (S k).name.size ≤ 1048576) :
    Calls Try.prog 43 #[.pointer (some ⟨C, 0, none⟩), .agg #[.string u, .slice a m c]] w fun e w' => ∃ sa sc, e = .returned (.slice sa (vsTo u T S (conTo S n n) n).length sc) ∧ SkSl w' sa (vsTo u T S (conTo S n n) n) Rs ∧ Ext w w' := by
  have hx1 := (Ext.refl w).alloc (.cells #[.string u, .slice a m c] 46)
  have hC1 := hC.ext hx1
  have hT1 := hT.ext hx1
  have hP : (w.alloc (.cells #[.string u, .slice a m c] 46)).heap[w.heap.size]? = some (.cells #[.string u, .slice a m c] 46 (0, 0)) := heap_alloc_last _ _
  have hev := evTo_le S n
  have hre := reTo_le S n
  clear hC hT
  go_enter Try.func43, Try.ntmps43
  go_wp2
  generalize w.alloc (.cells #[.string u, .slice a m c] 46) = w1 at *
  generalize w.heap.size = P at *
  have c8 := hC1.c8
  have c9 := hC1.c9
  have hmk := make53c ((evTo S n).length + (reTo S n).length) (by omega)
  rw [Int.natCast_add] at hmk
  have hwr : IntKind.i64.wrap (((evTo S n).length : Int) + ((reTo S n).length : Int)) = ((evTo S n).length : Int) + ((reTo S n).length : Int) := by
    generalize (evTo S n).length = x at *
    generalize (reTo S n).length = y at *
    simp [IntKind.wrap, IntKind.bits, IntKind.signed]
    omega
  have HC1 : Hid (Cat w1 C n Rs S Bs ea ec ra rc Mc Ms Ml) := hC1
  have c7 := hC1.c7
  clear hC1
  go_region_held3 (fun w' => w'.cell? ⟨C, 8, none⟩ = some (.slice ea (evTo S n).length ec) ∧ w'.cell? ⟨C, 9, none⟩ = some (.slice ra (reTo S n).length rc)) (go_keep) (fail)
  have hmm := @run_makeMap Try.prog
  have lC : C < w1.heap.size := World.block_lt_of_cell? _ _ c7
  go_wp2
  clear hmm hmk hwr
  have hSM : SM w1 ((w1.alloc (.cells (madeCells Try.zeroCells42 (((evTo S n).length + (reTo S n).length) * 77)) 42)).alloc (.map #[] 0)).drew Rs w1.heap.size (.slice (some ⟨w1.heap.size, 0, none⟩) 0 ((evTo S n).length + (reTo S n).length)) [] (w1.heap.size + 1) 0 (fun _ => false) := by
    have h1 := ((Ext.refl w1).alloc (.cells (madeCells Try.zeroCells42 (((evTo S n).length + (reTo S n).length) * 77)) 42)).alloc (.map #[] 0)
    have hm2 := MB.made (w1.alloc (.cells (madeCells Try.zeroCells42 (((evTo S n).length + (reTo S n).length) * 77)) 42))
    simp only [World.size_alloc] at hm2
    refine ⟨h1.drew, rfl, ?_, hm2.ext (Ext.refl _).drew, by omega⟩
    refine ⟨rfl, .inr ⟨w1.heap.size, _, madeCells Try.zeroCells42 (((evTo S n).length + (reTo S n).length) * 77), rfl, Nat.le_refl _, ?_, Nat.zero_le _, by unfold maxLen; omega, size_madeCells _ _, rfl⟩⟩
    exact (((Ext.refl _).alloc (.map #[] 0)).drew).blk (heap_alloc_last _ _)
  generalize ((w1.alloc (.cells (madeCells Try.zeroCells42 (((evTo S n).length + (reTo S n).length) * 77)) 42)).alloc (.map #[] 0)).drew = w3 at *
  generalize w1.heap.size + 1 = Mt at *
  generalize hBo : w1.heap.size = Bo at *
  go_loopw [5, 27] (fun v i wr => ∃ k : Nat, k ≤ n ∧ i = .int .i64 k ∧ SM w1 wr Rs Bo v (vsTo u T S (conTo S n n) k) Mt k (tkTo u T S (conTo S n n) k)) (fun _ i _ => n - (intOf i).toNat)
  case atStart => exact ⟨0, Nat.zero_le _, rfl, hSM⟩
  case round =>
    obtain ⟨k, hk, rfl, M⟩ := hrel
    clear hSM c8 c9 c7 hev hre
    by_cases hlt : k < n
    · have hlt' : (k : Int) < (n : Int) := by omega
      have hCk := HC1.out.ext M.ext
      have hRk := hCk.row.range (Nat.le_refl _) hlt
      have hnk := hnm k hlt
      have hfree : Hid (∀ w', Ext w1 w' → Calls Try.prog 42 #[.agg #[.string u, .slice a m c], (Rs k).val] w' fun e w'' => e = .returned (.bool (ent u T (S k))) ∧ Ext w' w'') := fun w' e => by
        rw [← (hCk.rd k hlt).1]
        exact entitled42 u a m c T (Rs k) w' (by omega) (hT1.ext e) (((HC1.out.ext e).rd k hlt).2.2) (by have := (hCk.rd k hlt).2.1; omega)
      have hSk : (Rs k).s = S k := (hCk.rd k hlt).1
      clear hCk
      go_wp2_with (first | ((with_reducible apply load42 (Rs k)); exact rfl; exact rfl; exact rfl; exact hRk) | ((with_reducible apply store42_blk (Rs k)); exact rfl; exact rfl; exact rfl; exact rfl; exact heap_alloc_last _ _; exact zero42_size; intro w4 h4 ho4 hs4 hb4; change Hid _))
      unfold Hid
      have hx4 : Ext wr w4 := Below.trans ((Ext.refl wr).alloc (.cells Try.zeroCells42 42)) (hb4 _ (Nat.le_refl _))
      have M4 := M.call hx4
      have hQ := M.lt
      clear ho4 hs4 hb4 hx4 hRk M
      generalize wr.heap.size = Q at *
      have hP4 := M4.ext.blk hP
      have p0 : w4.cell? ⟨P, 0, none⟩ = some (.string u) := by rw [cell_of_row _ _ _ _ _ _ hP4]; rfl
      have p1 : w4.cell? ⟨P, 1, none⟩ = some (.slice a m c) := by rw [cell_of_row _ _ _ _ _ _ hP4]; rfl
      clear hP4
      go_wp2_with ((with_reducible apply load42_blk (Rs k)); exact rfl; exact rfl; exact rfl; exact h4)
      refine (hfree.out _ M4.ext).mono ?_
      rintro e w5 ⟨rfl, hx5⟩
      have M5 := M4.call hx5
      have h5 := hx5.blk h4
      clear M4 h4 p0 p1 hx5 hfree
      cases hent : ent u T (S k) with
      | false =>
        have HE : Hid (ent u T (S k) = false) := hent
        clear hent
        go_wp2
        go_roundw
        case rel =>
          refine ⟨k + 1, by omega, by go_num, ?_⟩
          rw [vsTo_not HE.out]
          exact M5.monoT (tkTo_not HE.out)
        case measure => simp [intOf]; omega
      | true =>
        have HE : Hid (ent u T (S k) = true) := hent
        clear hent
        have hC5 := HC1.out.ext M5.ext
        have hnk' : (S k).name.size ≤ 2147483648 := by omega
        have q1 : w5.cell? ⟨Q, 1, none⟩ = some (.string (S k).name) := by rw [cell_of_row _ _ _ _ _ _ h5, ← hSk]; rfl
        have HK : Hid (∀ w' : World, Ext w5 w' → (Ext w5 w' ∧ w'.cell? ⟨C, 10, none⟩ = some (.map (some Mc)) ∧ w'.cell? ⟨Q, 1, none⟩ = some (.string (S k).name) ∧ (Instr.lookup 55 (.map (some Mc)) (.string (S k).name) false).run Try.prog w' = .ok (.bool (conTo S n n (S k).name.toList)) w')) :=
          fun w' e => ⟨e, e.cellSome hC5.c10, e.cellSome q1, (hC5.mc.ext e).look hnk'⟩
        have hQM : Q ≠ Mt := fun e => by
          obtain ⟨es, cl, hb⟩ := M5.mt.obj
          rw [← e, h5] at hb
          cases hb
        clear hC5 q1
        go_wp2
        go_region_held3 (fun w' => Ext w5 w' ∧ w'.cell? ⟨C, 10, none⟩ = some (.map (some Mc)) ∧ w'.cell? ⟨Q, 1, none⟩ = some (.string (S k).name) ∧ (Instr.lookup 55 (.map (some Mc)) (.string (S k).name) false).run Try.prog w' = .ok (.bool (conTo S n n (S k).name.toList)) w')
          ((go_split_ands; refine HK.out _ ?_; first | assumption | exact (Ext.refl _).drew | (apply Ext.drew; assumption)))
          (fail)
        go_split_ands
        have M6 := M5.call (Ext.refl w5).drew
        have h6 := (Ext.refl w5).drew.blk h5
        have q6 : w5.drew.cell? ⟨Q, 1, none⟩ = some (.string (S k).name) := by rw [cell_of_row _ _ _ _ _ _ h6, ← hSk]; rfl
        clear M5 h5
        generalize w5.drew = w6 at *
        cases hcon : conTo S n n (S k).name.toList with
        | false =>
          have HCO : Hid (conTo S n n (S k).name.toList = false) := hcon
          clear hcon
          have M7 := M6
          have h7 := h6
          have hrg := range_of_blk h7
          have hel := vsTo_le (u := u) (T := T) (S := S) (con := conTo S n n) k
          have hsz := M7.ext.size
          rw [← M7.eB] at hsz
          go_wp2_with (first | ((with_reducible apply load42_blk (Rs k)); exact rfl; exact rfl; exact rfl; exact h7) | ((with_reducible apply wp_build53 (Rs k)); exact rfl; exact rfl; exact rfl) | (at_builtin; refine wp_appE (r := Rs k) M7.oe hsz (by omega) rfl rfl rfl rfl ?_; intro v' w8 ho8 hg8))
          go_roundw
          case rel =>
            have M8 := (M7.call ((Ext.refl _).alloc (.cells (Rs k).arr 42))).appE (i := k) ho8 hg8
            refine ⟨k + 1, by omega, by go_num, ?_⟩
            rw [vsTo_free HE.out HCO.out]
            exact M8.monoT (tkTo_free HCO.out)
          case measure => simp [intOf]; omega
        | true =>
          have HCO : Hid (conTo S n n (S k).name.toList = true) := hcon
          clear hcon
          cases htk : tkTo u T S (conTo S n n) k (S k).name.toList with
          | true =>
            have HTK : Hid (tkTo u T S (conTo S n n) k (S k).name.toList = true) := htk
            go_wp2_with (at_lookup; refine wp_lookB M6.mt hnk' rfl rfl rfl rfl ?_; rw [htk])
            go_roundw
            case rel =>
              refine ⟨k + 1, by omega, by go_num, ?_⟩
              rw [vsTo_taken HCO.out HTK.out]
              exact M6.monoT (tkTo_taken HTK.out)
            case measure => simp [intOf]; omega
          | false =>
          have HTK : Hid (tkTo u T S (conTo S n n) k (S k).name.toList = false) := htk
          go_wp2_with (first | (at_lookup; refine wp_lookB M6.mt hnk' rfl rfl rfl rfl ?_; rw [htk]) | (at_mapUpdate; refine wp_putB M6.mt (by omega) hnk' rfl rfl rfl rfl rfl ?_; intro w7 hM7 hg7; change Hid _))
          unfold Hid
          have M7 := M6.putT (hM7.congr (tkTo_new HE.out HCO.out)) hg7
          have h7 : w7.heap[Q]? = some (.cells (Rs k).arr 42 (0, 0)) := (grown_other hg7 (Array.getElem?_eq_some_iff.1 h6).1 hQM).trans h6
          clear M6 h6 q6 hM7 hg7 htk
          have hrg := range_of_blk h7
          have hel := vsTo_le (u := u) (T := T) (S := S) (con := conTo S n n) k
          have hsz := M7.ext.size
          rw [← M7.eB] at hsz
          go_wp2_with (first | ((with_reducible apply load42_blk (Rs k)); exact rfl; exact rfl; exact rfl; exact h7) | ((with_reducible apply wp_build53 (Rs k)); exact rfl; exact rfl; exact rfl) | (at_builtin; refine wp_appE (r := Rs k) M7.oe hsz (by omega) rfl rfl rfl rfl ?_; intro v' w8 ho8 hg8))
          go_roundw
          case rel =>
            have M8 := (M7.call ((Ext.refl _).alloc (.cells (Rs k).arr 42))).appE (i := k) ho8 hg8
            refine ⟨k + 1, by omega, by go_num, ?_⟩
            rw [vsTo_new HE.out HTK.out]
            exact M8
          case measure => simp [intOf]; omega
    · obtain rfl : n = k := by omega
      obtain ⟨sa, sc, rfl, he⟩ := skSl_of M.oe
      go_wp2
      go_ret
      exact ⟨sa, sc, rfl, he, hx1.trans M.ext⟩
end Go.Proofs.Qxb6613557a
