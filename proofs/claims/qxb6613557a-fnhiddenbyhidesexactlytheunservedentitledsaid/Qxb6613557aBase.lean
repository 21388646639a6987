/-
  The records of the catalog laws: how a SkillIn and a Skill lie in memory; what stays while new blocks are laid. Own text.
-/
import Derived.Test.Qxb6613557aProg
import Derived.WalkKit
import Derived.WalkSpells
import Derived.WalkSmall
import Derived.WalkLawsBesides
import Derived.Deep.OwnRows
import Derived.Deep.MidRow
import Derived.Deep.WholeRow
import Derived.Below
import Derived.RegionTactic
import Derived.BigRegion
import Derived.BigQuiet
import Derived.Deep.QuietTactic
import Derived.Deep.RegionWith
namespace Go.Proofs.Qxb6613557a
open Go.RowKit
set_option linter.unusedVariables false

/-- A skill's plain data. -/
structure Sk where
  id : ByteArray
  name : ByteArray
  src : ByteArray
  vis : ByteArray
  sid : Option ByteArray
  own : Option ByteArray
  teams : Option (List ByteArray)

/-- A skill as it lies in memory: its texts by value, the rest by address. -/
structure Raw where
  s : Sk
  sid : Option Addr
  own : Option Addr
  tm : Option Addr
  tl : Nat
  tc : Nat

/-- The tail of a Skill that the laws never write: Metadata, ScanStatus, files, revision, digest, findings, searchText. -/
def tail69 : List Value := .map none :: .string ⟨#[]⟩ :: .slice none 0 0 :: (List.replicate 64 (.int .u8 0) ++ [.slice none 0 0, .string ⟨#[]⟩])

/-- The 77 cells of a catalog.Skill. -/
def Raw.cells (r : Raw) : List Value := .string r.s.id :: .string r.s.name :: .string ⟨#[]⟩ :: .string r.s.src :: .pointer r.sid :: .string r.s.vis :: .slice r.tm r.tl r.tc :: .pointer r.own :: tail69

def Raw.arr (r : Raw) : Array Value := r.cells.toArray

abbrev Raw.val (r : Raw) : Value := .agg r.arr

/-- The 7 cells of a SkillIn. -/
abbrev Raw.valIn (r : Raw) : Value := .agg #[.string r.s.id, .string r.s.name, .string r.s.src, .pointer r.sid, .string r.s.vis, .slice r.tm r.tl r.tc, .pointer r.own]
def Raw.cellIn (r : Raw) : Nat → Value
  | 0 => .string r.s.id
  | 1 => .string r.s.name
  | 2 => .string r.s.src
  | 3 => .pointer r.sid
  | 4 => .string r.s.vis
  | 5 => .slice r.tm r.tl r.tc
  | _ => .pointer r.own

theorem Raw.cells_length (r : Raw) : r.cells.length = 77 := rfl
theorem Raw.arr_size (r : Raw) : r.arr.size = 77 := rfl
theorem Raw.get0 (r : Raw) : r.arr[0]? = some (.string r.s.id) := rfl
theorem Raw.get1 (r : Raw) : r.arr[1]? = some (.string r.s.name) := rfl
theorem Raw.get3 (r : Raw) : r.arr[3]? = some (.string r.s.src) := rfl
theorem Raw.get4 (r : Raw) : r.arr[4]? = some (.pointer r.sid) := rfl
theorem Raw.get5 (r : Raw) : r.arr[5]? = some (.string r.s.vis) := rfl
theorem Raw.get6 (r : Raw) : r.arr[6]? = some (.slice r.tm r.tl r.tc) := rfl
theorem Raw.get7 (r : Raw) : r.arr[7]? = some (.pointer r.own) := rfl
theorem Raw.set4 (r : Raw) (p : Option Addr) : r.arr.setIfInBounds 4 (.pointer p) = ({ r with sid := p } : Raw).arr := rfl
theorem Raw.set7 (r : Raw) (p : Option Addr) : r.arr.setIfInBounds 7 (.pointer p) = ({ r with own := p } : Raw).arr := rfl
theorem Raw.set6 (r : Raw) (p : Option Addr) (n c : Nat) : r.arr.setIfInBounds 6 (.slice p n c) = ({ r with tm := p, tl := n, tc := c } : Raw).arr := rfl

theorem tail69_oneCell : tail69.all (·.oneCell') = true := by decide +kernel
theorem Raw.oneCell (r : Raw) : r.arr.all (·.oneCell') = true := by
  refine all_oneCell_toArray (fun v hv => ?_)
  simp only [Raw.cells, List.mem_cons] at hv
  rcases hv with rfl | rfl | rfl | rfl | rfl | rfl | rfl | rfl | hv
  all_goals first | rfl | exact (List.all_eq_true.1 tail69_oneCell) v hv

/-! ### Worlds -/
/-- All that was there is as it was. -/
abbrev Ext (w w' : World) : Prop := Below w.heap.size w w'

theorem Ext.refl (w : World) : Ext w w := Below.refl _ _
theorem Ext.trans {a b c : World} (h : Ext a b) (k : Ext b c) : Ext a c := Below.trans h (Below.mono k h.size)
theorem Ext.alloc {a b : World} (h : Ext a b) (o : Obj) : Ext a (b.alloc o) := Below.alloc h h.size o
theorem Ext.drewN {a b : World} (h : Ext a b) (n : Nat) : Ext a (b.drewN n) := below_drewN h n
theorem Ext.drew {a b : World} (h : Ext a b) : Ext a b.drew := Below.drew h
theorem Ext.cellSome {a b : World} (h : Ext a b) {p : Addr} {v : Value} (hp : a.cell? p = some v) : b.cell? p = some v := by
  rw [Below.cell h (World.block_lt_of_cell? _ _ hp)]; exact hp
theorem Ext.blk {a b : World} (h : Ext a b) {k : Nat} {o : Obj} (hk : a.heap[k]? = some o) : b.heap[k]? = some o := by
  rw [Below.block h k (Array.getElem?_eq_some_iff.1 hk).1]; exact hk
theorem Ext.range {a b : World} (h : Ext a b) {k o : Nat} {cs : List Value} (hr : a.rangeAt k o cs) : b.rangeAt k o cs := fun j v hv => h.cellSome (hr j v hv)

/-- A pointer to a text, or nil. -/
def PStr (w : World) (p : Option Addr) (x : Option ByteArray) : Prop :=
  (p = none ∧ x = none) ∨ ∃ b o s, p = some ⟨b, o, none⟩ ∧ x = some s ∧ w.cell? ⟨b, o, none⟩ = some (.string s)
theorem PStr.ext {w w' : World} {p : Option Addr} {x : Option ByteArray} (h : PStr w p x) (e : Ext w w') : PStr w' p x := by
  rcases h with h | ⟨b, o, s, h1, h2, h3⟩
  · exact .inl h
  · exact .inr ⟨b, o, s, h1, h2, e.cellSome h3⟩

/-- The texts of a slice. -/
def SStr (w : World) (a : Option Addr) (n : Nat) (l : List ByteArray) : Prop :=
  n = l.length ∧ (0 < n → ∃ b o, a = some ⟨b, o, none⟩ ∧ ∀ j, j < n → w.cell? ⟨b, o + j, none⟩ = some (.string (l.getD j ⟨#[]⟩)))
theorem SStr.ext {w w' : World} {a : Option Addr} {n : Nat} {l : List ByteArray} (h : SStr w a n l) (e : Ext w w') : SStr w' a n l :=
  ⟨h.1, fun hn => by
    obtain ⟨b, o, h1, h2⟩ := h.2 hn
    exact ⟨b, o, h1, fun j hj => e.cellSome (h2 j hj)⟩⟩
/-- .. which may be nil. -/
def TStr (w : World) (a : Option Addr) (n : Nat) (x : Option (List ByteArray)) : Prop :=
  (a = none ∧ n = 0 ∧ x = none) ∨ ∃ ad l, a = some ad ∧ x = some l ∧ SStr w a n l
theorem TStr.ext {w w' : World} {a : Option Addr} {n : Nat} {x : Option (List ByteArray)} (h : TStr w a n x) (e : Ext w w') : TStr w' a n x := by
  rcases h with h | ⟨ad, l, h1, h2, h3⟩
  · exact .inl h
  · exact .inr ⟨ad, l, h1, h2, h3.ext e⟩
theorem TStr.sstr {w : World} {a : Option Addr} {n : Nat} {x : Option (List ByteArray)} (h : TStr w a n x) : SStr w a n (x.getD []) := by
  rcases h with ⟨rfl, rfl, rfl⟩ | ⟨ad, l, rfl, rfl, h3⟩
  · exact ⟨rfl, fun h => by omega⟩
  · exact h3

/-- What a record's addresses lead to is its plain data. -/
structure Rd (w : World) (r : Raw) : Prop where
  sid : PStr w r.sid r.s.sid
  own : PStr w r.own r.s.own
  tm : TStr w r.tm r.tl r.s.teams
theorem Rd.ext {w w' : World} {r : Raw} (h : Rd w r) (e : Ext w w') : Rd w' r := ⟨h.sid.ext e, h.own.ext e, h.tm.ext e⟩

/-- The list of SkillIn: n records of seven cells at block b from o on, each reading as its plain data. -/
structure Lst (w : World) (b o n : Nat) (R : Nat → Raw) : Prop where
  cell : ∀ k, k < n → ∀ t, t < 7 → w.cell? ⟨b, o + k * 7 + t, none⟩ = some ((R k).cellIn t)
  rd : ∀ k, k < n → Rd w (R k)
theorem Lst.ext {w w' : World} {b o n : Nat} {R : Nat → Raw} (h : Lst w b o n R) (e : Ext w w') : Lst w' b o n R :=
  ⟨fun k hk t ht => e.cellSome (h.cell k hk t ht), fun k hk => (h.rd k hk).ext e⟩
theorem Lst.seven {w : World} {b o n : Nat} {R : Nat → Raw} (h : Lst w b o n R) {k : Nat} (hk : k < n) :
    w.cell? ⟨b, o + k * 7, none⟩ = some (.string (R k).s.id) ∧ w.cell? ⟨b, o + k * 7 + 1, none⟩ = some (.string (R k).s.name) ∧ w.cell? ⟨b, o + k * 7 + 2, none⟩ = some (.string (R k).s.src) ∧
    w.cell? ⟨b, o + k * 7 + 3, none⟩ = some (.pointer (R k).sid) ∧ w.cell? ⟨b, o + k * 7 + 4, none⟩ = some (.string (R k).s.vis) ∧
    w.cell? ⟨b, o + k * 7 + 5, none⟩ = some (.slice (R k).tm (R k).tl (R k).tc) ∧ w.cell? ⟨b, o + k * 7 + 6, none⟩ = some (.pointer (R k).own) :=
  ⟨h.cell k hk 0 (by omega), h.cell k hk 1 (by omega), h.cell k hk 2 (by omega), h.cell k hk 3 (by omega), h.cell k hk 4 (by omega), h.cell k hk 5 (by omega), h.cell k hk 6 (by omega)⟩

/-- The texts and the teams of a record are small (zzBytes says so). -/
structure Small (s : Sk) : Prop where
  id : s.id.size ≤ 1048576
  name : s.name.size ≤ 1048576
  src : s.src.size ≤ 1048576
  vis : s.vis.size ≤ 1048576
  sid : ∀ x, s.sid = some x → x.size ≤ 1048576
  own : ∀ x, s.own = some x → x.size ≤ 1048576
  teams : (s.teams.getD []).length ≤ 1048576

/-! ### A whole Skill out of memory and into it -/
theorem info42 : (Try.prog.info? 42).map (·.size) = some 77 := by kernel_rfl

theorem load42 {ops : Array Oper} {rest : List Oper} {op : Oper} {a : Act} {w : World} {Q : Exit → Act → World → Prop} {x : Operand} {b o : Nat} (r : Raw) (hgd : op.guard = none) (ho : op.op = .load 42 x)
    (hx : a.eval x = .pointer (some ⟨b, o, none⟩)) (hc : w.rangeAt b o r.cells) (h : wpList Try.prog ops Q rest (a.put op.dst r.val) w) : wpList Try.prog ops Q (op :: rest) a w :=
  wpList_load_mid hgd 42 _ ho _ _ hx r.cells _ hc Try.underlying42 rfl info42 h

theorem load42_blk {ops : Array Oper} {rest : List Oper} {op : Oper} {a : Act} {w : World} {Q : Exit → Act → World → Prop} {x : Operand} {b : Nat} (r : Raw) (hgd : op.guard = none) (ho : op.op = .load 42 x)
    (hx : a.eval x = .pointer (some ⟨b, 0, none⟩)) (hc : w.heap[b]? = some (.cells r.arr 42 (0, 0))) (h : wpList Try.prog ops Q rest (a.put op.dst r.val) w) : wpList Try.prog ops Q (op :: rest) a w :=
  wpList_load_row hgd 42 _ ho _ hx 42 r.arr (0, 0) _ hc Try.underlying42 rfl info42 h

theorem range_of_blk {w : World} {b : Nat} {r : Raw} (hc : w.heap[b]? = some (.cells r.arr 42 (0, 0))) : w.rangeAt b 0 r.cells := fun j v hv => by
  rw [cell_of_row w b (0 + j) r.arr 42 (0, 0) hc, Nat.zero_add]
  simpa [Raw.arr] using hv

/-- A whole Skill into a block of its own. -/
theorem store42_blk {ops : Array Oper} {rest : List Oper} {op : Oper} {a : Act} {w : World} {Q : Exit → Act → World → Prop} {x y : Operand} {b : Nat} {c : Array Value} (r : Raw) (hgd : op.guard = none) (ho : op.op = .store 42 x y)
    (hx : a.eval x = .pointer (some ⟨b, 0, none⟩)) (hy : a.eval y = r.val) (hc : w.heap[b]? = some (.cells c 42 (0, 0))) (hsz : c.size = 77)
    (h : ∀ w', w'.heap[b]? = some (.cells r.arr 42 (0, 0)) → (∀ k, k ≠ b → w'.heap[k]? = w.heap[k]?) → w'.heap.size = w.heap.size → (∀ B, B ≤ b → Below B w w') → wpList Try.prog ops Q rest (a.put op.dst undef) w') :
    wpList Try.prog ops Q (op :: rest) a w := by
  refine wpList_plain hgd fun K hK => ?_
  have hrun : (storeVar 42 ⟨b, 0, none⟩ (.agg r.arr)).run Try.prog w = .ok () (w.setRow b r.arr) := run_storeVar_row w b 42 42 c r.arr hc info42 hsz r.oneCell
  unfold Oper.wp execOp
  simp only [ho, hx, hy, Instr.storeAt, Instr.sureAddr, Sem.run_bind, Sem.run_pure, Result.andThen_ok, hrun]
  refine hK _ _ (h _ (setRow_heap w b c _ 42 _ hc) (fun k hk => setRow_other w b k r.arr (fun e => hk e)) (size_setRow _ _ _) (fun B hB => ⟨rfl, rfl, rfl, by rw [size_setRow]; exact Nat.le_refl _, fun k hk => setRow_other w b k r.arr (by omega)⟩))

end Go.Proofs.Qxb6613557a
