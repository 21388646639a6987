/-
  FnOpHeapSwapThreeTimesIsOneSwap: the walk. Own text.
-/
import Derived.Test.Qxb6613657aLaw3
namespace Go.Proofs.Qxb6613657a
open Go.RowKit
set_option linter.unusedVariables false

theorem bytes18 (a r : Option Addr) (n c m d : Nat) (i j k : Int) (w : World) (hn : n ≤ 9223372036854775807) (hm : m ≤ 9223372036854775807) :
    Calls Try.prog 18 #[.slice a n c, .slice r m d, .int .i64 i, .int .i64 j, .int .i64 k] w fun e w' => ∃ b : Bool, e = .returned (.bool b) ∧ w = w' := by
  go_enter Try.func18, Try.ntmps18
  go_wp2
  all_goals (go_ret; exact ⟨_, rfl, rfl⟩)

/-- Three exchanges are one. -/
theorem swf3 (f : Nat → Int) (i j k p : Nat) (h1 : i ≠ k) (h2 : j ≠ k) : swf (swf (swf f i j) j k) i j p = swf f i k p := by
  simp only [swf_at]
  by_cases e1 : p = i
  · subst e1
    simp [h1.symm, h2.symm]
  · by_cases e2 : p = j
    · subst e2
      simp [e1, Ne.symm e1, h1, h2]
    · by_cases e3 : p = k
      · subst e3
        simp [e1, e2]
        intro e
        rw [e]
      · simp [e1, e2, e3]

theorem Own64.only {B c n : Nat} {w w' : World} {r : Option Addr} {m : Nat} {g F : Nat → Int} (h : Own64 B w r m g) (hr : w.rowIs c 21 n (fun k => .int .i32 (F k))) (ho : Only c w w') : Own64 B w' r m g := by
  refine ⟨h.1, fun hm => ?_⟩
  obtain ⟨b, rfl, hb, hrow⟩ := h.2 hm
  refine ⟨b, rfl, hb, hrow.of_block (ho.block b ?_)⟩
  intro e
  subst e
  obtain ⟨c1, e1, _⟩ := hrow
  obtain ⟨c2, e2, _⟩ := hr
  rw [e1] at e2
  simp at e2

theorem St.below {w wc w' : World} {B0 Bw hb n : Nat} {r1 : Option Addr} {d1 : Nat} {r2 : Option Addr} {m : Nat} {F f g : Nat → Int} (h : St w wc B0 Bw hb n r1 d1 r2 m F f g)
    (hl : Below wc.heap.size wc w') : St w w' B0 Bw hb n r1 d1 r2 m F f g := by
  have hlt := World.block_lt_of_cell? _ _ h.c0
  have hlt0 := h.row.lt
  exact ⟨h.row.of_block (hl.block _ hlt0), h.want.of_block (hl.block _ h.want.lt), h.o1.keep (fun k _ hk => hl.block k hk), h.o2.keep (fun k _ hk => hl.block k hk),
    (World.cell?_of_block (w := wc) (hl.block hb hlt)).trans h.c0, (World.cell?_of_block (w := wc) (hl.block hb hlt)).trans h.c1, h.bel.trans (hl.mono (by omega)), h.lt1, h.lt2⟩

/-- The second heap beside the first. -/
structure St2 (w wc : World) (B0 Bw hb n : Nat) (r1 : Option Addr) (d1 : Nat) (r2 : Option Addr) (m : Nat) (F f g : Nat → Int) (Bg hg : Nat) (r3 : Option Addr) (d3 : Nat) (G : Nat → Int) : Prop where
  st : St w wc B0 Bw hb n r1 d1 r2 m F f g
  row : wc.rowIs Bg 21 n (fun k => .int .i32 (G k))
  o3 : Own64 0 wc r3 m g
  c2 : wc.cell? ⟨hg, 0, none⟩ = some (.slice (some ⟨Bg, 0, none⟩) n n)
  c3 : wc.cell? ⟨hg, 1, none⟩ = some (.slice r3 m d3)
  lt1 : hb < Bg
  lt2 : Bg < hg

theorem St2.only {w wc w' : World} {B0 Bw hb n : Nat} {r1 : Option Addr} {d1 : Nat} {r2 : Option Addr} {m : Nat} {F f g : Nat → Int} {Bg hg : Nat} {r3 : Option Addr} {d3 : Nat} {G G' : Nat → Int}
    (h : St2 w wc B0 Bw hb n r1 d1 r2 m F f g Bg hg r3 d3 G) (ho : Only Bg wc w') (hr : w'.rowIs Bg 21 n (fun k => .int .i32 (G' k))) : St2 w w' B0 Bw hb n r1 d1 r2 m F f g Bg hg r3 d3 G' := by
  have l1 := h.st.lt1
  have l2 := h.st.lt2
  have l3 := h.lt1
  have l4 := h.lt2
  exact ⟨⟨h.st.row.of_block (ho.block _ (by omega)), h.st.want.of_block (ho.block _ (by omega)), h.st.o1.only h.row ho, h.st.o2.only h.row ho,
    (World.cell?_of_block (w := wc) (ho.block hb (by omega))).trans h.st.c0, (World.cell?_of_block (w := wc) (ho.block hb (by omega))).trans h.st.c1, h.st.bel.trans (ho.below (by omega)), l1, l2⟩,
    hr, h.o3.only h.row ho, (World.cell?_of_block (w := wc) (ho.block hg (by omega))).trans h.c2, (World.cell?_of_block (w := wc) (ho.block hg (by omega))).trans h.c3, l3, l4⟩

theorem St2.drewN {w wc : World} {B0 Bw hb n : Nat} {r1 : Option Addr} {d1 : Nat} {r2 : Option Addr} {m : Nat} {F f g : Nat → Int} {Bg hg : Nat} {r3 : Option Addr} {d3 : Nat} {G : Nat → Int}
    (h : St2 w wc B0 Bw hb n r1 d1 r2 m F f g Bg hg r3 d3 G) (q : Nat) : St2 w (wc.drewN q) B0 Bw hb n r1 d1 r2 m F f g Bg hg r3 d3 G :=
  ⟨h.st.drewN q, h.row, h.o3, h.c2, h.c3, h.lt1, h.lt2⟩

set_option maxHeartbeats 8000000 in
set_option maxRecDepth 100000 in
theorem core4 (b off n c0 : Nat) (r : Option Addr) (m c1 i j k : Nat) (f g : Nat → Int) (w : World) (hn : n ≤ 65536) (hm : m ≤ 65536) (hi : i < n) (hj : j < n) (hk : k < n) (hik : i ≠ k) (hjk : j ≠ k)
    (h0 : ∀ k, k < n → w.cell? ⟨b, off + k, none⟩ = some (.int .i32 (f k))) (hr : r = none → m = 0) (h1 : At .u64 w r m g) :
    Calls Try.prog 4 #[.slice (some ⟨b, off, none⟩) n c0, .slice r m c1, .int .i64 (i : Int), .int .i64 (j : Int), .int .i64 (k : Int)] w fun e w' => e = .returned (.bool true) ∧ Below w.heap.size w w' := by
  have hi' : (i : Int) < (n : Int) := by omega
  have hj' : (j : Int) < (n : Int) := by omega
  have hk' : (k : Int) < (n : Int) := by omega
  have eik : ((i : Int) == (k : Int)) = false := beq_eq_false_iff_ne.2 (by omega)
  have ejk : ((j : Int) == (k : Int)) = false := beq_eq_false_iff_ne.2 (by omega)
  have hb : b < w.heap.size := World.block_lt_of_cell? _ _ (h0 i hi)
  go_enter Try.func4, Try.ntmps4
  go_wp2_with fail
  refine (bytes18 _ _ n c0 m c1 _ _ _ _ (by omega) (by omega)).mono ?_
  rintro e w' ⟨bb, rfl, rfl⟩
  cases bb with
  | false =>
    go_wp2
    go_ret
    exact ⟨rfl, Below.refl _ _⟩
  | true =>
  go_wp2_with fail
  refine (clone32 _ n c0 f _ hn ?_).mono ?_
  · exact fun _ => ⟨b, off, rfl, h0⟩
  rintro e w1 ⟨rfl, hrow1, hbel1, hsz1⟩
  generalize hB0 : w.heap.size = B0 at *
  go_wp2_with fail
  refine (clone64_any r m c1 g _ hm hr ?_).mono ?_
  · intro hm0
    obtain ⟨br, or, rfl, hcr⟩ := h1 hm0
    exact ⟨br, or, rfl, fun k hk => by rw [hbel1.cell (p := ⟨br, or + k, none⟩) (by rw [← hB0]; exact World.block_lt_of_cell? _ _ (hcr k hk))]; exact hcr k hk⟩
  rintro e w2 ⟨r1, d1, rfl, hown2, hbel2⟩
  rw [hsz1] at hown2 hbel2
  have hrow2 := hrow1.of_block (hbel2.block B0 (by omega))
  have hs2 := hbel2.size
  go_wp2_with fail
  refine (clone32 _ n n f _ hn ?_).mono ?_
  · exact fun _ => ⟨B0, 0, rfl, fun k hk => by rw [Nat.zero_add]; exact hrow2.cell hk⟩
  rintro e w3 ⟨rfl, hwant3, hbel3, hsz3⟩
  generalize hBw : w2.heap.size = Bw at *
  go_wp2_with fail
  refine (clone64_any r1 m d1 g _ hm hown2.1 ?_).mono ?_
  · exact (hown2.keep (fun k _ hk => hbel3.block k (by omega))).at
  rintro e w4 ⟨r2, d2, rfl, hown4, hbel4⟩
  go_wp2_with fail
  refine (newheap _ _ _ _ _ _ _).mono ?_
  rintro e w5 ⟨rfl, hc0, hc1, hbel5, hsz5⟩
  have hs4 := hbel4.size
  rw [hsz1] at hs2
  rw [hsz3] at hs4 hown4 hbel4
  have S5 : St w w5 B0 Bw w4.heap.size n r1 d1 r2 m f f g :=
    ⟨((hrow2.of_block (hbel3.block B0 (by omega))).of_block (hbel4.block B0 (by omega))).of_block (hbel5.block B0 (by omega)),
      (hwant3.of_block (hbel4.block Bw (by omega))).of_block (hbel5.block Bw (by omega)),
      ((hown2.keep (fun k _ hk => hbel3.block k (by omega))).keep (fun k _ hk => hbel4.block k (by omega))).keep (fun k _ hk => hbel5.block k hk),
      (hown4.keep (fun k _ hk => hbel5.block k hk)).mono (by omega), hc0, hc1,
      (((hbel1.trans (hbel2.mono (by omega))).trans (hbel3.mono (by omega))).trans (hbel4.mono (by omega))).trans (hbel5.mono (by omega)), by omega, by omega⟩
  clear hc0 hc1 hbel5 hsz5 hs4 hown4 hbel4 hwant3 hbel3 hsz3 hrow2 hown2 hbel2 hs2 hrow1 hbel1 hsz1 h1 h0 hr hb
  generalize w4.heap.size = hB at *
  go_wp2_with fail
  refine (swap_any hB B0 n i j f _ hi hj hn S5.c0 S5.row (by have := S5.lt1; have := S5.lt2; omega)).mono ?_
  rintro e w6 ⟨rfl, hr6, ho6⟩
  have S6 := S5.only ho6 hr6
  clear hr6 ho6 S5
  go_wp2_with fail
  refine (swap_any hB B0 n j k (swf f i j) _ hj hk hn S6.c0 S6.row (by have := S6.lt1; have := S6.lt2; omega)).mono ?_
  rintro e w7 ⟨rfl, hr7, ho7⟩
  have S7 := S6.only ho7 hr7
  clear hr7 ho7 S6
  go_wp2_with fail
  refine (swap_any hB B0 n i j (swf (swf f i j) j k) _ hi hj hn S7.c0 S7.row (by have := S7.lt1; have := S7.lt2; omega)).mono ?_
  rintro e w8 ⟨rfl, hr8, ho8⟩
  have S8 := S7.only (F' := swf f i k) ho8 (hr8.congr (fun p _ => by rw [swf3 f i j k p hik hjk]))
  clear hr8 ho8 S7
  go_wp2_with fail
  refine (clone32 _ n n f _ hn ?_).mono ?_
  · exact fun _ => ⟨Bw, 0, rfl, fun k hk => by rw [Nat.zero_add]; exact S8.want.cell hk⟩
  rintro e w9 ⟨rfl, hrow9, hbel9, hsz9⟩
  have hlt8 := World.block_lt_of_cell? _ _ S8.c0
  have S9 := S8.below hbel9
  clear hbel9 S8
  generalize w8.heap.size = Bg at *
  go_wp2_with fail
  refine (clone64_any r2 m d2 g _ hm S9.o2.1 S9.o2.at).mono ?_
  rintro e w10 ⟨r3, d3, rfl, hown10, hbel10⟩
  have S10 := S9.below hbel10
  have hrow10 := hrow9.of_block (hbel10.block Bg (by omega))
  have hs10 := hbel10.size
  rw [hsz9] at hs10
  clear hbel10 S9 hrow9 hsz9
  have hown10 := hown10.mono (Nat.zero_le _)
  go_wp2_with fail
  refine (newheap _ _ _ _ _ _ _).mono ?_
  rintro e w11 ⟨rfl, hc2, hc3, hbel11, hsz11⟩
  have T11 : St2 w w11 B0 Bw hB n r1 d1 r2 m (swf f i k) f g Bg w10.heap.size r3 d3 f :=
    ⟨S10.below hbel11, hrow10.of_block (hbel11.block Bg (by omega)), hown10.keep (fun k _ hk => hbel11.block k hk), hc2, hc3, by omega, by omega⟩
  clear S10 hrow10 hown10 hc2 hc3 hbel11 hsz11 hs10 hlt8
  generalize w10.heap.size = hG at *
  go_wp2_with fail
  refine (swap_any hG Bg n i k f _ hi hk hn T11.c2 T11.row (by have := T11.lt1; have := T11.lt2; omega)).mono ?_
  rintro e w12 ⟨rfl, hr12, ho12⟩
  have T12 := T11.only ho12 hr12
  clear hr12 ho12 T11
  go_wp2_with fail
  refine (heapOps _ _ _ T12.st.c0).mono ?_
  rintro e w6' ⟨rfl, hw⟩
  subst hw
  go_wp2_with fail
  refine (heapOps _ _ _ T12.c2).mono ?_
  rintro e w6' ⟨rfl, hw⟩
  subst hw
  go_wp2_with fail
  go_loop [17] (fun t => ∃ p : Nat, p ≤ n ∧ t = .int .i64 p) (fun t => n - (intOf t).toNat)
  case atStart => exact ⟨0, Nat.zero_le _, rfl⟩
  case round =>
    obtain ⟨p, hp, rfl⟩ := hrel
    by_cases hlt : p < n
    · have hlt' : (p : Int) < (n : Int) := by omega
      have g1 := T12.st.want.cell hlt
      have g2 := T12.st.row.cell hlt
      have g4 := T12.row.cell hlt
      by_cases e1 : p = i
      · subst e1
        have g3 := T12.st.want.cell hk
        rw [swf_at, if_pos rfl] at g2 g4
        clear T12
        go_wp2
        go_round
        case rel => exact ⟨p + 1, by omega, by go_num⟩
        case measure => simp [intOf]; omega
      · by_cases e2 : p = k
        · subst e2
          have g3 := T12.st.want.cell hi
          rw [swf_at, if_neg e1, if_pos rfl] at g2 g4
          clear T12
          go_wp2
          go_round
          case rel => exact ⟨p + 1, by omega, by go_num⟩
          case measure => simp [intOf]; omega
        · rw [swf_at, if_neg e1, if_neg e2] at g2 g4
          clear T12
          go_wp2
          go_round
          case rel => exact ⟨p + 1, by omega, by go_num⟩
          case measure => simp [intOf]; omega
    · go_wp2_with fail
      refine (heapRank _ _ _ T12.st.c1).mono ?_
      rintro e w6' ⟨rfl, hw⟩
      subst hw
      go_wp2_with fail
      refine (eq64 r1 r2 m d1 d2 g _ hm T12.st.o1.at T12.st.o2.at).mono ?_
      rintro e w7 ⟨rfl, q7, rfl⟩
      have T13 := T12.drewN q7
      clear T12
      generalize w12.drewN q7 = w13 at *
      go_wp2_with fail
      refine (heapRank _ _ _ T13.c3).mono ?_
      rintro e w9' ⟨rfl, hw⟩
      subst hw
      go_wp2_with fail
      refine (eq64 r3 r2 m d3 d2 g _ hm T13.o3.at T13.st.o2.at).mono ?_
      rintro e w10 ⟨rfl, q10, rfl⟩
      go_wp2
      go_ret
      exact ⟨rfl, by rw [hB0]; exact (T13.drewN q10).st.bel⟩

set_option maxRecDepth 100000 in
set_option maxHeartbeats 2000000 in
/-- The early ways out: a bound or an index is not met. -/
theorem early4 (a r : Option Addr) (n c0 m c1 : Nat) (i j k : Int) (w : World) (hn : n ≤ 9223372036854775807) (hm : m ≤ 9223372036854775807)
    (h : 65536 < n ∨ 65536 < m ∨ i < 0 ∨ (n : Int) ≤ i ∨ j < 0 ∨ (n : Int) ≤ j ∨ k < 0 ∨ (n : Int) ≤ k ∨ i = k ∨ j = k) :
    Calls Try.prog 4 #[.slice a n c0, .slice r m c1, .int .i64 i, .int .i64 j, .int .i64 k] w fun e w' => e = .returned (.bool true) ∧ Below w.heap.size w w' := by
  by_cases h1 : 65536 < n
  · clear h
    go_enter Try.func4, Try.ntmps4
    go_wp2_with (go_at_call 18; refine (bytes18 _ _ n c0 m c1 _ _ _ _ hn hm).mono ?_; rintro e w' ⟨bb, rfl, rfl⟩)
    all_goals (go_ret; exact ⟨rfl, Below.refl _ _⟩)
  by_cases h2 : 65536 < m
  · clear h
    go_enter Try.func4, Try.ntmps4
    go_wp2_with (go_at_call 18; refine (bytes18 _ _ n c0 m c1 _ _ _ _ hn hm).mono ?_; rintro e w' ⟨bb, rfl, rfl⟩)
    all_goals (go_ret; exact ⟨rfl, Below.refl _ _⟩)
  by_cases h3 : i < 0
  · clear h
    go_enter Try.func4, Try.ntmps4
    go_wp2_with (go_at_call 18; refine (bytes18 _ _ n c0 m c1 _ _ _ _ hn hm).mono ?_; rintro e w' ⟨bb, rfl, rfl⟩)
    all_goals (go_ret; exact ⟨rfl, Below.refl _ _⟩)
  by_cases h4 : (n : Int) ≤ i
  · clear h
    go_enter Try.func4, Try.ntmps4
    go_wp2_with (go_at_call 18; refine (bytes18 _ _ n c0 m c1 _ _ _ _ hn hm).mono ?_; rintro e w' ⟨bb, rfl, rfl⟩)
    all_goals (go_ret; exact ⟨rfl, Below.refl _ _⟩)
  by_cases h5 : j < 0
  · clear h
    go_enter Try.func4, Try.ntmps4
    go_wp2_with (go_at_call 18; refine (bytes18 _ _ n c0 m c1 _ _ _ _ hn hm).mono ?_; rintro e w' ⟨bb, rfl, rfl⟩)
    all_goals (go_ret; exact ⟨rfl, Below.refl _ _⟩)
  by_cases h6 : (n : Int) ≤ j
  · clear h
    go_enter Try.func4, Try.ntmps4
    go_wp2_with (go_at_call 18; refine (bytes18 _ _ n c0 m c1 _ _ _ _ hn hm).mono ?_; rintro e w' ⟨bb, rfl, rfl⟩)
    all_goals (go_ret; exact ⟨rfl, Below.refl _ _⟩)
  by_cases h7 : k < 0
  · clear h
    go_enter Try.func4, Try.ntmps4
    go_wp2_with (go_at_call 18; refine (bytes18 _ _ n c0 m c1 _ _ _ _ hn hm).mono ?_; rintro e w' ⟨bb, rfl, rfl⟩)
    all_goals (go_ret; exact ⟨rfl, Below.refl _ _⟩)
  by_cases h8 : (n : Int) ≤ k
  · clear h
    go_enter Try.func4, Try.ntmps4
    go_wp2_with (go_at_call 18; refine (bytes18 _ _ n c0 m c1 _ _ _ _ hn hm).mono ?_; rintro e w' ⟨bb, rfl, rfl⟩)
    all_goals (go_ret; exact ⟨rfl, Below.refl _ _⟩)
  by_cases h9 : i = k
  · clear h
    have e9 : (i == k) = true := beq_iff_eq.2 h9
    clear h9
    go_enter Try.func4, Try.ntmps4
    go_wp2_with (go_at_call 18; refine (bytes18 _ _ n c0 m c1 _ _ _ _ hn hm).mono ?_; rintro e w' ⟨bb, rfl, rfl⟩)
    all_goals (go_ret; exact ⟨rfl, Below.refl _ _⟩)
  have h10 : j = k := by omega
  have e9 : (i == k) = false := beq_eq_false_iff_ne.2 h9
  have e10 : (j == k) = true := beq_iff_eq.2 h10
  clear h h9 h10
  go_enter Try.func4, Try.ntmps4
  go_wp2_with (go_at_call 18; refine (bytes18 _ _ n c0 m c1 _ _ _ _ hn hm).mono ?_; rintro e w' ⟨bb, rfl, rfl⟩)
  all_goals (go_ret; exact ⟨rfl, Below.refl _ _⟩)
end Go.Proofs.Qxb6613657a
