/-
  zzOriginIn. Own text.
-/
import Derived.Test.Qxb6613557aSame
namespace Go.Proofs.Qxb6613557a
open Go.RowKit
set_option linter.unusedVariables false
set_option linter.unusedSimpArgs false

/-- s is of that origin. -/
def isOrg (s : Sk) (id name src : ByteArray) (x : Option ByteArray) : Bool := (s.id.toList == id.toList) && ((s.name.toList == name.toList) && ((s.src.toList == src.toList) && sameO s.sid x))
/-- One of L is. -/
def orgIn (S : Nat → Sk) (L : List Nat) (id name src : ByteArray) (x : Option ByteArray) : Bool := L.any (fun i => isOrg (S i) id name src x)

set_option maxHeartbeats 2000000 in
set_option maxRecDepth 100000 in
theorem originIn22 (sa : Option Addr) (sn sc : Nat) (L : List Nat) (Rs : Nat → Raw) (id name src : ByteArray) (p : Option Addr) (x : Option ByteArray) (w : World) (hL : L.length = sn) (hsn : sn ≤ 1048576) (hS : SkSl w sa L Rs) (hrd : ∀ i, i ∈ L → Rd w (Rs i)) (hp : PStr w p x) :
    Calls Try.prog 22 #[.slice sa sn sc, .string id, .string name, .string src, .pointer p] w fun e w' => e = .returned (.bool (orgIn (fun i => (Rs i).s) L id name src x)) ∧ Ext w w' := by
  have HRD : Hid (∀ t, t < sn → Rd w (Rs (L.getD t 0))) := fun t ht => hrd _ (by rw [getD_at L 0 t (by omega)]; exact List.getElem_mem _)
  have HP : Hid (PStr w p x) := hp
  clear hrd hp
  go_enter Try.func22, Try.ntmps22
  go_wp2
  go_loopw [11] (fun i wr => ∃ k : Nat, k ≤ sn ∧ i = .int .i64 k ∧ Ext w wr ∧ Hid (∀ t, t < k → isOrg (Rs (L.getD t 0)).s id name src x = false)) (fun i _ => sn - (intOf i).toNat)
  case atStart => exact ⟨0, Nat.zero_le _, rfl, Ext.refl _, fun t ht => absurd ht (Nat.not_lt_zero _)⟩
  case round =>
    obtain ⟨k, hk, rfl, hx, HN⟩ := hrel
    by_cases hlt : k < sn
    · obtain ⟨b2, o2, rfl, hcL⟩ := hS (by omega)
      have g := hx.range (hcL k (by omega))
      have hlt' : (k : Int) < (sn : Int) := by omega
      have HL : Hid (L.length = sn) := hL
      have hrd := (HRD.out k hlt).ext hx
      clear hS hcL hL
      obtain ⟨r, hr⟩ : ∃ r, Rs (L.getD k 0) = r := ⟨_, rfl⟩
      rw [hr] at g hrd
      have HY : Hid (Rs (L.getD k 0) = r) := hr
      have HRr : Hid (PStr wr r.sid r.s.sid) := hrd.sid
      clear hr hrd
      go_upto_region 5 with (first | ((with_reducible apply load42 r); exact rfl; exact rfl; exact rfl; exact g) | ((with_reducible apply store42_blk r); exact rfl; exact rfl; exact rfl; exact rfl; exact heap_alloc_last _ _; exact zero42_size; intro w4 h4 ho4 hs4 hb4))
      have hx4 : Ext wr w4 := Below.trans ((Ext.refl wr).alloc (.cells Try.zeroCells42 42)) (hb4 _ (Nat.le_refl _))
      have hxa := hx.trans hx4
      have q0 : w4.cell? ⟨wr.heap.size, 0, none⟩ = some (.string r.s.id) := by rw [cell_of_row _ _ _ _ _ _ h4]; rfl
      have q1 : w4.cell? ⟨wr.heap.size, 1, none⟩ = some (.string r.s.name) := by rw [cell_of_row _ _ _ _ _ _ h4]; rfl
      have q3 : w4.cell? ⟨wr.heap.size, 3, none⟩ = some (.string r.s.src) := by rw [cell_of_row _ _ _ _ _ _ h4]; rfl
      have q4 : w4.cell? ⟨wr.heap.size, 4, none⟩ = some (.pointer r.sid) := by rw [cell_of_row _ _ _ _ _ _ h4]; rfl
      clear h4 ho4 hs4 hb4 g
      generalize wr.heap.size = Q at *
      cases h1 : (r.s.id.toList == id.toList) with
      | false =>
        have HH : Hid (isOrg r.s id name src x = false) := by show _ = _; rw [isOrg, h1]; rfl
        go_wp2
        go_roundw
        case rel => exact ⟨k + 1, by omega, by go_num, hxa, fun t ht => by
          by_cases e : t = k
          · subst e; rw [HY.out]; exact HH.out
          · exact HN.out t (by omega)⟩
        case measure => simp [intOf]; omega
      | true =>
      cases h2 : (r.s.name.toList == name.toList) with
      | false =>
        have HH : Hid (isOrg r.s id name src x = false) := by show _ = _; rw [isOrg, h1, h2]; rfl
        go_wp2
        go_roundw
        case rel => exact ⟨k + 1, by omega, by go_num, hxa, fun t ht => by
          by_cases e : t = k
          · subst e; rw [HY.out]; exact HH.out
          · exact HN.out t (by omega)⟩
        case measure => simp [intOf]; omega
      | true =>
      cases h3 : (r.s.src.toList == src.toList) with
      | false =>
        have HH : Hid (isOrg r.s id name src x = false) := by show _ = _; rw [isOrg, h1, h2, h3]; rfl
        go_wp2
        go_roundw
        case rel => exact ⟨k + 1, by omega, by go_num, hxa, fun t ht => by
          by_cases e : t = k
          · subst e; rw [HY.out]; exact HH.out
          · exact HN.out t (by omega)⟩
        case measure => simp [intOf]; omega
      | true =>
      have HH : Hid (isOrg r.s id name src x = sameO r.s.sid x) := by show _ = _; rw [isOrg, h1, h2, h3]; rfl
      go_wp2_with fail
      refine (samePtr38 r.sid p r.s.sid x w4 (HRr.out.ext hx4) (HP.out.ext hxa)).mono ?_
      rintro e w5 ⟨rfl, hx5⟩
      have hxb := hxa.trans hx5
      cases h4 : sameO r.s.sid x with
      | false =>
        have HH2 : Hid (isOrg r.s id name src x = false) := by show _ = _; rw [HH.out, h4]
        clear h4 HH
        go_wp2
        go_roundw
        case rel => exact ⟨k + 1, by omega, by go_num, hxb, fun t ht => by
          by_cases e : t = k
          · subst e; rw [HY.out]; exact HH2.out
          · exact HN.out t (by omega)⟩
        case measure => simp [intOf]; omega
      | true =>
        have HH2 : Hid (isOrg r.s id name src x = true) := by show _ = _; rw [HH.out, h4]
        clear h4 HH
        go_wp2
        go_ret
        exact ⟨by rw [show orgIn (fun i => (Rs i).s) L id name src x = true from any_split L _ 0 k (by have := HL.out; omega) (by show isOrg (Rs (L.getD k 0)).s id name src x = true; rw [HY.out]; exact HH2.out)]; rfl, hxb⟩
    · have HL : Hid (L.length = sn) := hL
      clear hL hS
      go_wp2
      go_ret
      exact ⟨by rw [show orgIn (fun i => (Rs i).s) L id name src x = false from any_none L _ 0 (fun t ht => HN.out t (by have := HL.out; omega))]; rfl, hx⟩
end Go.Proofs.Qxb6613557a
