/-
  No cell of these rows narrows 'for every input' (looked for: loops, veiled, ifaces, maps, wideKeys, modest, calm, conditions, laid).
  DERIVED. THE GIVEN ROWS OF THIS SEAT. 4 by the template 'for every input the law returns true; each argument reads behind the call as it read before'; 0 by the template 'total and deterministic' (their statements: Qxb6613557aTotals.lean).
  GIVEN WITH THE SEED: the statements are not yours to turn. If you find one false, say at which input.
  Laid BY PROGRAM, IN A SANDBOX (cutbox-rows.mjs): the forced cells as the released guide's own fill.sh prints them over the translation 5cc26de47efce1f6… (all of the seat's roots in one cut). By AI agents, Wed Nov 11 2026. No macro, syntax, notation, axiom, sorry.
-/
import Derived.Test.Qxb6613557aChecked
import GoSem.Claim
import GoSem.ClaimJoined
import GoSem.ClaimMapViews
import Derived.JoinedTies
import Derived.KernelRfl
namespace Go.Proofs.Qxb6613557a
/- THE CELL 'sum', in the pinned program and in every row, IS THE sha256 OF THE DUMP (.gsa) THAT Qxb6613557aProg.lean LOADS. Nothing in Lean hashes anything: it is a label: what it is worth is what the hold of that sum in a sandbox is worth. -/
noncomputable def Try.pinned : Pinned := { name := "qxb6613557a", sum := "5cc26de47efce1f6ed697ef8c0ce24e2437c1a8137267eb4f4d268242432e095", checked := Try.checked }
namespace Rows
def none {H : Type} : Left H := { results := [], args := [] }

/-- 'zzlaws_internal_catalog_b1.FnHiddenByIsFirstEntitledNamesakeThatGoesBefore': WHATEVER THE INPUT: true; the input reads as it did. -/
def fnHiddenByIsFirstEntitledNamesakeThatGoesBeforeSpec : ChangeSpec := { name := "fnHiddenByIsFirstEntitledNamesakeThatGoesBefore", fn := fun _ => fun
  | [d1, d2, d3, d4] => { results := [.lit (.bool true)], args := [d1, d2, d3, d4] }
  | _ => none }
def fnHiddenByIsFirstEntitledNamesakeThatGoesBeforeRow : OpenClaim := { program := "qxb6613557a", sum := "5cc26de47efce1f6ed697ef8c0ce24e2437c1a8137267eb4f4d268242432e095", func := "example.com/skillyard/skillyard/zzlaws_internal_catalog_b1.FnHiddenByIsFirstEntitledNamesakeThatGoesBefore", spec := "fnHiddenByIsFirstEntitledNamesakeThatGoesBefore", unfollowed := true, recurses := true, apart := false }
def FnHiddenByIsFirstEntitledNamesakeThatGoesBeforeSaid : Prop := fnHiddenByIsFirstEntitledNamesakeThatGoesBeforeRow.holds Try.pinned (OpenSpec.ofChange fnHiddenByIsFirstEntitledNamesakeThatGoesBeforeSpec)

/-- ITS FALSE NEIGHBOUR: 'it returns false'. Refute it at one input. -/
def fnHiddenByIsFirstEntitledNamesakeThatGoesBeforeWrong : ChangeSpec := { name := "fnHiddenByIsFirstEntitledNamesakeThatGoesBefore", fn := fun _ => fun
  | [d1, d2, d3, d4] => { results := [.lit (.bool false)], args := [d1, d2, d3, d4] }
  | _ => none }
def FnHiddenByIsFirstEntitledNamesakeThatGoesBeforeWrongFalsely : Prop := fnHiddenByIsFirstEntitledNamesakeThatGoesBeforeRow.holds Try.pinned (OpenSpec.ofChange fnHiddenByIsFirstEntitledNamesakeThatGoesBeforeWrong)

/-- 'zzlaws_internal_catalog_b1.FnHiddenByHidesExactlyTheUnservedEntitled': WHATEVER THE INPUT: true; the input reads as it did. -/
def fnHiddenByHidesExactlyTheUnservedEntitledSpec : ChangeSpec := { name := "fnHiddenByHidesExactlyTheUnservedEntitled", fn := fun _ => fun
  | [d1, d2, d3] => { results := [.lit (.bool true)], args := [d1, d2, d3] }
  | _ => none }
def fnHiddenByHidesExactlyTheUnservedEntitledRow : OpenClaim := { program := "qxb6613557a", sum := "5cc26de47efce1f6ed697ef8c0ce24e2437c1a8137267eb4f4d268242432e095", func := "example.com/skillyard/skillyard/zzlaws_internal_catalog_b1.FnHiddenByHidesExactlyTheUnservedEntitled", spec := "fnHiddenByHidesExactlyTheUnservedEntitled", unfollowed := true, recurses := true, apart := false }
def FnHiddenByHidesExactlyTheUnservedEntitledSaid : Prop := fnHiddenByHidesExactlyTheUnservedEntitledRow.holds Try.pinned (OpenSpec.ofChange fnHiddenByHidesExactlyTheUnservedEntitledSpec)

/-- ITS FALSE NEIGHBOUR: 'it returns false'. Refute it at one input. -/
def fnHiddenByHidesExactlyTheUnservedEntitledWrong : ChangeSpec := { name := "fnHiddenByHidesExactlyTheUnservedEntitled", fn := fun _ => fun
  | [d1, d2, d3] => { results := [.lit (.bool false)], args := [d1, d2, d3] }
  | _ => none }
def FnHiddenByHidesExactlyTheUnservedEntitledWrongFalsely : Prop := fnHiddenByHidesExactlyTheUnservedEntitledRow.holds Try.pinned (OpenSpec.ofChange fnHiddenByHidesExactlyTheUnservedEntitledWrong)

/-- 'zzlaws_internal_catalog_b1.FnRemarkedMarksExactlyTheUnscanned': WHATEVER THE INPUT: true; the input reads as it did. -/
def fnRemarkedMarksExactlyTheUnscannedSpec : ChangeSpec := { name := "fnRemarkedMarksExactlyTheUnscanned", fn := fun _ => fun
  | [d1, d2] => { results := [.lit (.bool true)], args := [d1, d2] }
  | _ => none }
def fnRemarkedMarksExactlyTheUnscannedRow : OpenClaim := { program := "qxb6613557a", sum := "5cc26de47efce1f6ed697ef8c0ce24e2437c1a8137267eb4f4d268242432e095", func := "example.com/skillyard/skillyard/zzlaws_internal_catalog_b1.FnRemarkedMarksExactlyTheUnscanned", spec := "fnRemarkedMarksExactlyTheUnscanned", unfollowed := true, recurses := true, apart := false }
def FnRemarkedMarksExactlyTheUnscannedSaid : Prop := fnRemarkedMarksExactlyTheUnscannedRow.holds Try.pinned (OpenSpec.ofChange fnRemarkedMarksExactlyTheUnscannedSpec)

/-- ITS FALSE NEIGHBOUR: 'it returns false'. Refute it at one input. -/
def fnRemarkedMarksExactlyTheUnscannedWrong : ChangeSpec := { name := "fnRemarkedMarksExactlyTheUnscanned", fn := fun _ => fun
  | [d1, d2] => { results := [.lit (.bool false)], args := [d1, d2] }
  | _ => none }
def FnRemarkedMarksExactlyTheUnscannedWrongFalsely : Prop := fnRemarkedMarksExactlyTheUnscannedRow.holds Try.pinned (OpenSpec.ofChange fnRemarkedMarksExactlyTheUnscannedWrong)

/-- 'zzlaws_internal_catalog_b1.FnRemarkedAgreesAtEveryCut': WHATEVER THE INPUT: true; the input reads as it did. -/
def fnRemarkedAgreesAtEveryCutSpec : ChangeSpec := { name := "fnRemarkedAgreesAtEveryCut", fn := fun _ => fun
  | [d1, d2, d3] => { results := [.lit (.bool true)], args := [d1, d2, d3] }
  | _ => none }
def fnRemarkedAgreesAtEveryCutRow : OpenClaim := { program := "qxb6613557a", sum := "5cc26de47efce1f6ed697ef8c0ce24e2437c1a8137267eb4f4d268242432e095", func := "example.com/skillyard/skillyard/zzlaws_internal_catalog_b1.FnRemarkedAgreesAtEveryCut", spec := "fnRemarkedAgreesAtEveryCut", unfollowed := true, recurses := true, apart := false }
def FnRemarkedAgreesAtEveryCutSaid : Prop := fnRemarkedAgreesAtEveryCutRow.holds Try.pinned (OpenSpec.ofChange fnRemarkedAgreesAtEveryCutSpec)

/-- ITS FALSE NEIGHBOUR: 'it returns false'. Refute it at one input. -/
def fnRemarkedAgreesAtEveryCutWrong : ChangeSpec := { name := "fnRemarkedAgreesAtEveryCut", fn := fun _ => fun
  | [d1, d2, d3] => { results := [.lit (.bool false)], args := [d1, d2, d3] }
  | _ => none }
def FnRemarkedAgreesAtEveryCutWrongFalsely : Prop := fnRemarkedAgreesAtEveryCutRow.holds Try.pinned (OpenSpec.ofChange fnRemarkedAgreesAtEveryCutWrong)

end Rows
end Go.Proofs.Qxb6613557a
