/-
  SkillsFor and what it calls. Own text.
-/
import Derived.Test.Qxb6613557aServe1
namespace Go.Proofs.Qxb6613557a
open Go.RowKit
set_option linter.unusedVariables false
set_option linter.unusedSimpArgs false
attribute [local go_sem ↓] L42.shut

/-- The caller is entitled to one of L. -/
def anyEnt (u : ByteArray) (T : List ByteArray) (S : Nat → Sk) (L : List Nat) : Bool := L.any (fun i => ent u T (S i))

set_option maxHeartbeats 1000000 in
theorem indexFunc49 (sa : Option Addr) (sn sc : Nat) (L : List Nat) (bc bp C n : Nat) (Rs : Nat → Raw) (S : Nat → Sk) (Bs : Nat) (ea : Option Addr) (ec : Nat) (ra : Option Addr) (rc Mc Ms Ml : Nat) (u : ByteArray) (a : Option Addr) (m c : Nat) (T : List ByteArray) (w : World)
    (hL : L.length = sn) (hsn : sn ≤ 1048576) (hI : IntSl w sa L) (hLn : ∀ i, i ∈ L → i < n) (hn : n ≤ 1048576) (hm : m ≤ 1048576) (hC : Cat w C n Rs S Bs ea ec ra rc Mc Ms Ml) (hT : SStr w a m T)
    (h0 : w.cell? ⟨bc, 0, none⟩ = some (.string u)) (h1 : w.cell? ⟨bc, 1, none⟩ = some (.slice a m c)) (h2 : w.cell? ⟨bp, 0, none⟩ = some (.pointer (some ⟨C, 0, none⟩))) :
    Calls Try.prog 49 #[.slice sa sn sc, .func (.func 41) #[] #[.pointer (some ⟨bc, 0, none⟩), .pointer (some ⟨bp, 0, none⟩)]] w fun e w' => ∃ z : Int, e = .returned (.int .i64 z) ∧ (z < 0 → anyEnt u T S L = false) ∧ (0 ≤ z → anyEnt u T S L = true) ∧ Ext w w' := by
  have HCL : Hid (∀ (k : Nat) (w' : World), k < n → Ext w w' → Calls Try.prog 41 #[.int .i64 k, .pointer (some ⟨bc, 0, none⟩), .pointer (some ⟨bp, 0, none⟩)] w' fun e w'' => e = .returned (.bool (ent u T (S k))) ∧ Ext w' w'') := fun k w' hk e => by
    have hC' := hC.ext e
    rw [← (hC.rd k hk).1]
    exact closure41 k bc bp C Bs n u a m c T Rs w' hk hn hm (e.cellSome h0) (e.cellSome h1) (e.cellSome h2) hC'.c7 (hC'.row.range (Nat.le_refl _) hk) (hT.ext e) (hC'.rd k hk).2.2 (hC.rd k hk).2.1
  clear hC hT h0 h1 h2
  go_enter Try.func49, Try.ntmps49
  go_wp2
  go_loopw [8] (fun i wr => ∃ k : Nat, k ≤ sn ∧ i = .int .i64 k ∧ Ext w wr ∧ Hid (∀ t, t < k → ent u T (S (L.getD t 0)) = false)) (fun i _ => sn - (intOf i).toNat)
  case atStart => exact ⟨0, Nat.zero_le _, rfl, Ext.refl _, fun t ht => absurd ht (Nat.not_lt_zero _)⟩
  case round =>
    obtain ⟨k, hk, rfl, hx, HN⟩ := hrel
    by_cases hlt : k < sn
    · obtain ⟨b2, o2, rfl, hcL⟩ := hI (by omega)
      have g := hx.cellSome (hcL k (by omega))
      have hlt' : (k : Int) < (sn : Int) := by omega
      have HL : Hid (L.length = sn) := hL
      have hy : L.getD k 0 < n := hLn _ (by rw [getD_at L 0 k (by omega)]; exact List.getElem_mem _)
      clear hI hcL hL hLn
      obtain ⟨y, hye⟩ : ∃ y, L.getD k 0 = y := ⟨_, rfl⟩
      rw [hye] at g hy
      have HY : Hid (L.getD k 0 = y) := hye
      clear hye
      go_wp2_with (fail)
      refine (HCL.out y _ hy hx).mono ?_
      rintro e w1 ⟨rfl, hx1⟩
      have hx2 := hx.trans hx1
      cases hh : ent u T (S y) with
      | true =>
        have HH : Hid (ent u T (S y) = true) := hh
        clear hh
        go_wp2
        go_ret
        exact ⟨_, rfl, fun h => by omega, fun _ => any_split L _ 0 k (by have := HL.out; omega) (by rw [HY.out]; exact HH.out), hx2⟩
      | false =>
        have HH : Hid (ent u T (S y) = false) := hh
        clear hh
        go_wp2
        go_roundw
        case rel => exact ⟨k + 1, by omega, by go_num, hx2, fun t ht => by
          by_cases e : t = k
          · subst e; rw [HY.out]; exact HH.out
          · exact HN.out t (by omega)⟩
        case measure => simp [intOf]; omega
    · have HL : Hid (L.length = sn) := hL
      clear hL hI
      go_wp2
      go_ret
      exact ⟨_, rfl, fun _ => any_none L _ 0 (fun t ht => HN.out t (by have := HL.out; omega)), fun h => by omega, hx⟩

theorem containsFunc40 (sa : Option Addr) (sn sc : Nat) (L : List Nat) (bc bp C n : Nat) (Rs : Nat → Raw) (S : Nat → Sk) (Bs : Nat) (ea : Option Addr) (ec : Nat) (ra : Option Addr) (rc Mc Ms Ml : Nat) (u : ByteArray) (a : Option Addr) (m c : Nat) (T : List ByteArray) (w : World)
    (hL : L.length = sn) (hsn : sn ≤ 1048576) (hI : IntSl w sa L) (hLn : ∀ i, i ∈ L → i < n) (hn : n ≤ 1048576) (hm : m ≤ 1048576) (hC : Cat w C n Rs S Bs ea ec ra rc Mc Ms Ml) (hT : SStr w a m T)
    (h0 : w.cell? ⟨bc, 0, none⟩ = some (.string u)) (h1 : w.cell? ⟨bc, 1, none⟩ = some (.slice a m c)) (h2 : w.cell? ⟨bp, 0, none⟩ = some (.pointer (some ⟨C, 0, none⟩))) :
    Calls Try.prog 40 #[.slice sa sn sc, .func (.func 41) #[] #[.pointer (some ⟨bc, 0, none⟩), .pointer (some ⟨bp, 0, none⟩)]] w fun e w' => e = .returned (.bool (anyEnt u T S L)) ∧ Ext w w' := by
  have HX : Hid (Calls Try.prog 49 #[.slice sa sn sc, .func (.func 41) #[] #[.pointer (some ⟨bc, 0, none⟩), .pointer (some ⟨bp, 0, none⟩)]] w fun e w' => ∃ z : Int, e = .returned (.int .i64 z) ∧ (z < 0 → anyEnt u T S L = false) ∧ (0 ≤ z → anyEnt u T S L = true) ∧ Ext w w') :=
    indexFunc49 sa sn sc L bc bp C n Rs S Bs ea ec ra rc Mc Ms Ml u a m c T w hL hsn hI hLn hn hm hC hT h0 h1 h2
  clear hI hC hT h0 h1 h2 hLn
  go_enter Try.func40, Try.ntmps40
  go_wp2_with fail
  refine HX.out.mono ?_
  rintro e w' ⟨z, rfl, h1, h2, hx⟩
  by_cases hz : 0 ≤ z
  · have HH : Hid (anyEnt u T S L = true) := h2 hz
    clear h1 h2
    go_wp2
    go_ret
    exact ⟨by rw [HH.out]; simp [hz], hx⟩
  · have HH : Hid (anyEnt u T S L = false) := h1 (by omega)
    clear h1 h2
    go_wp2
    go_ret
    exact ⟨by rw [HH.out]; simp [hz], hx⟩

theorem reTo_lt (S : Nat → Sk) : ∀ k i, i ∈ reTo S k → i < k
  | 0, i, h => by simp [reTo] at h
  | k + 1, i, h => by
    rw [reTo] at h
    split at h
    · have := reTo_lt S k i h; omega
    · rcases List.mem_append.1 h with h | h
      · have := reTo_lt S k i h; omega
      · simp at h; omega
end Go.Proofs.Qxb6613557a
