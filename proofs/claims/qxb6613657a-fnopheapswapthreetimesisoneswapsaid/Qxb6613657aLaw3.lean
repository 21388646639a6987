/-
  FnOpHeapSwapExchangesThenUndoes: the walk. Own text.
-/
import Derived.Test.Qxb6613657aSwap
import Derived.WalkSmall
namespace Go.Proofs.Qxb6613657a
open Go.RowKit
set_option linter.unusedVariables false

theorem bytes9 (a r : Option Addr) (n c m d : Nat) (i j : Int) (w : World) (hn : n ≤ 9223372036854775807) (hm : m ≤ 9223372036854775807) :
    Calls Try.prog 9 #[.slice a n c, .slice r m d, .int .i64 i, .int .i64 j] w fun e w' => ∃ b : Bool, e = .returned (.bool b) ∧ w = w' := by
  go_enter Try.func9, Try.ntmps9
  go_wp2
  all_goals (go_ret; exact ⟨_, rfl, rfl⟩)

theorem swf_swf (f : Nat → Int) (i j k : Nat) : swf (swf f i j) i j k = f k := by
  simp only [swf]
  by_cases h1 : k = j
  · subst h1
    by_cases h2 : k = i
    · subst h2; simp
    · simp
      intro h; exact absurd h.symm h2
  · by_cases h2 : k = i
    · subst h2; simp [h1]
    · simp [h1, h2]

/-- What the loop over 'got' expects. -/
theorem swf_at (f : Nat → Int) (i j k : Nat) : swf f i j k = if k = i then f j else if k = j then f i else f k := by
  simp only [swf]
  by_cases h1 : k = j
  · subst h1
    by_cases h2 : k = i
    · subst h2; simp
    · simp [h2]
  · by_cases h2 : k = i
    · subst h2; simp [h1]
    · simp [h1, h2]

/-- The law's own memory: the heap's ops in block B0 (they hold F), the copy 'want' in block Bw (it holds f), two copies of rank (g), the heap itself in block hb; nothing below B0 has turned. -/
structure St (w wc : World) (B0 Bw hb n : Nat) (r1 : Option Addr) (d1 : Nat) (r2 : Option Addr) (m : Nat) (F f g : Nat → Int) : Prop where
  row : wc.rowIs B0 21 n (fun k => .int .i32 (F k))
  want : wc.rowIs Bw 21 n (fun k => .int .i32 (f k))
  o1 : Own64 (B0 + 1) wc r1 m g
  o2 : Own64 (B0 + 1) wc r2 m g
  c0 : wc.cell? ⟨hb, 0, none⟩ = some (.slice (some ⟨B0, 0, none⟩) n n)
  c1 : wc.cell? ⟨hb, 1, none⟩ = some (.slice r1 m d1)
  bel : Below B0 w wc
  lt1 : B0 < Bw
  lt2 : Bw < hb

theorem St.only {w wc w' : World} {B0 Bw hb n : Nat} {r1 : Option Addr} {d1 : Nat} {r2 : Option Addr} {m : Nat} {F F' f g : Nat → Int} (h : St w wc B0 Bw hb n r1 d1 r2 m F f g)
    (ho : Only B0 wc w') (hr : w'.rowIs B0 21 n (fun k => .int .i32 (F' k))) : St w w' B0 Bw hb n r1 d1 r2 m F' f g := by
  have l1 := h.lt1
  have l2 := h.lt2
  exact ⟨hr, h.want.of_block (ho.block _ (by omega)), h.o1.keep (fun k hk _ => ho.block k (by omega)), h.o2.keep (fun k hk _ => ho.block k (by omega)),
    (World.cell?_of_block (w := wc) (ho.block hb (by omega))).trans h.c0, (World.cell?_of_block (w := wc) (ho.block hb (by omega))).trans h.c1, h.bel.trans (ho.below (Nat.le_refl _)), l1, l2⟩

theorem St.drewN {w wc : World} {B0 Bw hb n : Nat} {r1 : Option Addr} {d1 : Nat} {r2 : Option Addr} {m : Nat} {F f g : Nat → Int} (h : St w wc B0 Bw hb n r1 d1 r2 m F f g) (q : Nat) :
    St w (wc.drewN q) B0 Bw hb n r1 d1 r2 m F f g :=
  ⟨h.row, h.want, h.o1, h.o2, h.c0, h.c1, below_drewN h.bel q, h.lt1, h.lt2⟩

set_option maxHeartbeats 4000000 in
theorem core3 (b off n c0 : Nat) (r : Option Addr) (m c1 i j : Nat) (f g : Nat → Int) (w : World) (hn : n ≤ 65536) (hm : m ≤ 65536) (hi : i < n) (hj : j < n)
    (hf : ∀ k, k < n → -2147483648 ≤ f k ∧ f k ≤ 2147483647)
    (h0 : ∀ k, k < n → w.cell? ⟨b, off + k, none⟩ = some (.int .i32 (f k))) (hr : r = none → m = 0) (h1 : At .u64 w r m g) :
    Calls Try.prog 3 #[.slice (some ⟨b, off, none⟩) n c0, .slice r m c1, .int .i64 (i : Int), .int .i64 (j : Int)] w fun e w' => e = .returned (.bool true) ∧ Below w.heap.size w w' := by
  have hi' : (i : Int) < (n : Int) := by omega
  have hj' : (j : Int) < (n : Int) := by omega
  have hb : b < w.heap.size := World.block_lt_of_cell? _ _ (h0 i hi)
  go_enter Try.func3, Try.ntmps3
  go_wp2_with fail
  refine (bytes9 _ _ n c0 m c1 _ _ _ (by omega) (by omega)).mono ?_
  rintro e w' ⟨bb, rfl, rfl⟩
  cases bb with
  | false =>
    go_wp2
    go_ret
    exact ⟨rfl, Below.refl _ _⟩
  | true =>
  go_wp2_with fail
  refine (clone32 _ n c0 f _ hn ?_).mono ?_
  · exact fun _ => ⟨b, off, rfl, h0⟩
  rintro e w1 ⟨rfl, hrow1, hbel1, hsz1⟩
  generalize hB0 : w.heap.size = B0 at *
  go_wp2_with fail
  refine (clone64_any r m c1 g _ hm hr ?_).mono ?_
  · intro hm0
    obtain ⟨br, or, rfl, hcr⟩ := h1 hm0
    exact ⟨br, or, rfl, fun k hk => by rw [hbel1.cell (p := ⟨br, or + k, none⟩) (by rw [← hB0]; exact World.block_lt_of_cell? _ _ (hcr k hk))]; exact hcr k hk⟩
  rintro e w2 ⟨r1, d1, rfl, hown2, hbel2⟩
  rw [hsz1] at hown2 hbel2
  have hrow2 := hrow1.of_block (hbel2.block B0 (by omega))
  have hs2 := hbel2.size
  go_wp2_with fail
  refine (clone32 _ n n f _ hn ?_).mono ?_
  · exact fun _ => ⟨B0, 0, rfl, fun k hk => by rw [Nat.zero_add]; exact hrow2.cell hk⟩
  rintro e w3 ⟨rfl, hwant3, hbel3, hsz3⟩
  generalize hBw : w2.heap.size = Bw at *
  go_wp2_with fail
  refine (clone64_any r1 m d1 g _ hm hown2.1 ?_).mono ?_
  · exact (hown2.keep (fun k _ hk => hbel3.block k (by omega))).at
  rintro e w4 ⟨r2, d2, rfl, hown4, hbel4⟩
  go_wp2_with fail
  refine (newheap _ _ _ _ _ _ _).mono ?_
  rintro e w5 ⟨rfl, hc0, hc1, hbel5, hsz5⟩
  have hs4 := hbel4.size
  rw [hsz1] at hs2
  rw [hsz3] at hs4 hown4 hbel4
  have S5 : St w w5 B0 Bw w4.heap.size n r1 d1 r2 m f f g :=
    ⟨((hrow2.of_block (hbel3.block B0 (by omega))).of_block (hbel4.block B0 (by omega))).of_block (hbel5.block B0 (by omega)),
      (hwant3.of_block (hbel4.block Bw (by omega))).of_block (hbel5.block Bw (by omega)),
      ((hown2.keep (fun k _ hk => hbel3.block k (by omega))).keep (fun k _ hk => hbel4.block k (by omega))).keep (fun k _ hk => hbel5.block k hk),
      (hown4.keep (fun k _ hk => hbel5.block k hk)).mono (by omega), hc0, hc1,
      (((hbel1.trans (hbel2.mono (by omega))).trans (hbel3.mono (by omega))).trans (hbel4.mono (by omega))).trans (hbel5.mono (by omega)), by omega, by omega⟩
  clear hc0 hc1 hbel5 hsz5 hs4 hown4 hbel4 hwant3 hbel3 hsz3 hrow2 hown2 hbel2 hs2 hrow1 hbel1 hsz1 h1 h0 hr hb
  generalize w4.heap.size = hB at *
  go_wp2_with fail
  refine (swap_any hB B0 n i j f _ hi hj hn S5.c0 S5.row (by have := S5.lt1; have := S5.lt2; omega)).mono ?_
  rintro e w6 ⟨rfl, hr6, ho6⟩
  have S6 := S5.only ho6 hr6
  clear hr6 ho6 S5
  go_wp2_with fail
  refine (heapOps _ _ _ S6.c0).mono ?_
  rintro e w6' ⟨rfl, hw⟩
  subst hw
  go_wp2_with fail
  go_loop [13] (fun t => ∃ k : Nat, k ≤ n ∧ t = .int .i64 k) (fun t => n - (intOf t).toNat)
  case atStart => exact ⟨0, Nat.zero_le _, rfl⟩
  case round =>
    obtain ⟨k, hk, rfl⟩ := hrel
    by_cases hlt : k < n
    · have hlt' : (k : Int) < (n : Int) := by omega
      have g1 := S6.want.cell hlt
      have g2 := S6.row.cell hlt
      by_cases e1 : k = i
      · subst e1
        have g3 := S6.want.cell hj
        rw [swf_at, if_pos rfl] at g2
        clear S6
        go_wp2
        go_round
        case rel => exact ⟨k + 1, by omega, by go_num⟩
        case measure => simp [intOf]; omega
      · by_cases e2 : k = j
        · subst e2
          have g3 := S6.want.cell hi
          rw [swf_at, if_neg e1, if_pos rfl] at g2
          clear S6
          go_wp2
          go_round
          case rel => exact ⟨k + 1, by omega, by go_num⟩
          case measure => simp [intOf]; omega
        · rw [swf_at, if_neg e1, if_neg e2] at g2
          clear S6
          go_wp2
          go_round
          case rel => exact ⟨k + 1, by omega, by go_num⟩
          case measure => simp [intOf]; omega
    · go_wp2_with fail
      refine (heapRank _ _ _ S6.c1).mono ?_
      rintro e w6' ⟨rfl, hw⟩
      subst hw
      go_wp2_with fail
      refine (eq64 r1 r2 m d1 d2 g _ hm S6.o1.at S6.o2.at).mono ?_
      rintro e w7 ⟨rfl, q7, rfl⟩
      have S7 := S6.drewN q7
      clear S6
      generalize w6.drewN q7 = w7 at *
      go_wp2_with fail
      refine (swap_any hB B0 n i j (swf f i j) _ hi hj hn S7.c0 S7.row (by have := S7.lt1; have := S7.lt2; omega)).mono ?_
      rintro e w8 ⟨rfl, hr8, ho8⟩
      have S8 := S7.only (F' := f) ho8 (hr8.congr (fun k _ => by rw [swf_swf]))
      clear hr8 ho8 S7
      go_wp2_with fail
      refine (heapOps _ _ _ S8.c0).mono ?_
      rintro e w8' ⟨rfl, hw⟩
      subst hw
      go_wp2_with fail
      refine (eq32 _ _ n n n f _ hn ?_ ?_).mono ?_
      · exact fun _ => ⟨B0, 0, rfl, fun k hk => by rw [Nat.zero_add]; exact S8.row.cell hk⟩
      · exact fun _ => ⟨Bw, 0, rfl, fun k hk => by rw [Nat.zero_add]; exact S8.want.cell hk⟩
      rintro e w9 ⟨rfl, q9, rfl⟩
      have S9 := S8.drewN q9
      clear S8
      generalize w8.drewN q9 = w9 at *
      go_wp2_with fail
      refine (heapRank _ _ _ S9.c1).mono ?_
      rintro e w9' ⟨rfl, hw⟩
      subst hw
      go_wp2_with fail
      refine (eq64 r1 r2 m d1 d2 g _ hm S9.o1.at S9.o2.at).mono ?_
      rintro e w10 ⟨rfl, q10, rfl⟩
      go_wp2
      go_ret
      exact ⟨rfl, by rw [hB0]; exact (S9.drewN q10).bel⟩

/-- The early ways out: a bound or an index is not met. -/
theorem early3 (a r : Option Addr) (n c0 m c1 : Nat) (i j : Int) (w : World) (hn : n ≤ 9223372036854775807) (hm : m ≤ 9223372036854775807)
    (h : 65536 < n ∨ 65536 < m ∨ i < 0 ∨ (n : Int) ≤ i ∨ j < 0 ∨ (n : Int) ≤ j) :
    Calls Try.prog 3 #[.slice a n c0, .slice r m c1, .int .i64 i, .int .i64 j] w fun e w' => e = .returned (.bool true) ∧ Below w.heap.size w w' := by
  by_cases h1 : 65536 < n
  · go_enter Try.func3, Try.ntmps3
    go_wp2_with (go_at_call 9; refine (bytes9 _ _ n c0 m c1 _ _ _ hn hm).mono ?_; rintro e w' ⟨bb, rfl, rfl⟩)
    all_goals (go_ret; exact ⟨rfl, Below.refl _ _⟩)
  by_cases h2 : 65536 < m
  · go_enter Try.func3, Try.ntmps3
    go_wp2_with (go_at_call 9; refine (bytes9 _ _ n c0 m c1 _ _ _ hn hm).mono ?_; rintro e w' ⟨bb, rfl, rfl⟩)
    all_goals (go_ret; exact ⟨rfl, Below.refl _ _⟩)
  by_cases h3 : i < 0
  · go_enter Try.func3, Try.ntmps3
    go_wp2_with (go_at_call 9; refine (bytes9 _ _ n c0 m c1 _ _ _ hn hm).mono ?_; rintro e w' ⟨bb, rfl, rfl⟩)
    all_goals (go_ret; exact ⟨rfl, Below.refl _ _⟩)
  by_cases h4 : (n : Int) ≤ i
  · go_enter Try.func3, Try.ntmps3
    go_wp2_with (go_at_call 9; refine (bytes9 _ _ n c0 m c1 _ _ _ hn hm).mono ?_; rintro e w' ⟨bb, rfl, rfl⟩)
    all_goals (go_ret; exact ⟨rfl, Below.refl _ _⟩)
  by_cases h5 : j < 0
  · go_enter Try.func3, Try.ntmps3
    go_wp2_with (go_at_call 9; refine (bytes9 _ _ n c0 m c1 _ _ _ hn hm).mono ?_; rintro e w' ⟨bb, rfl, rfl⟩)
    all_goals (go_ret; exact ⟨rfl, Below.refl _ _⟩)
  have h6 : (n : Int) ≤ j := by omega
  clear h
  go_enter Try.func3, Try.ntmps3
  go_wp2_with (go_at_call 9; refine (bytes9 _ _ n c0 m c1 _ _ _ hn hm).mono ?_; rintro e w' ⟨bb, rfl, rfl⟩)
  all_goals (go_ret; exact ⟨rfl, Below.refl _ _⟩)
end Go.Proofs.Qxb6613657a
