/-
  No cell of these rows narrows 'for every input' (looked for: loops, veiled, ifaces, maps, wideKeys, modest, calm, conditions, laid).
  DERIVED. THE GIVEN ROWS OF THIS SEAT. 10 by the template 'for every input the law returns true; each argument reads behind the call as it read before'; 0 by the template 'total and deterministic' (their statements: YtgjpohmjkhgpfaaGreatTotals.lean).
  GIVEN WITH THE SEED: the statements are not yours to turn. If you find one false, say at which input.
  Laid BY PROGRAM, IN A SANDBOX (cutbox-rows.mjs): the forced cells as the released guide's own fill.sh prints them over the translation 6cb9f4aa1c937c35… (all of the seat's roots in one cut). By AI agents, Wed Nov 11 2026. No macro, syntax, notation, axiom, sorry.
-/
import Derived.Test.YtgjpohmjkhgpfaaGreatChecked
import GoSem.Claim
import GoSem.ClaimJoined
import GoSem.ClaimMapViews
import Derived.JoinedTies
import Derived.KernelRfl
namespace Go.Proofs.YtgjpohmjkhgpfaaGreat
/- THE CELL 'sum', in the pinned program and in every row, IS THE sha256 OF THE DUMP (.gsa) THAT YtgjpohmjkhgpfaaGreatProg.lean LOADS. Nothing in Lean hashes anything: it is a label: what it is worth is what the hold of that sum in a sandbox is worth. -/
noncomputable def Tryz.pinned : Pinned := { name := "ytgjpohmjkhgpfaagreat", sum := "6cb9f4aa1c937c3524df62d039482edfc77c316280a4bf8b28bee13c6ce5130f", checked := Tryz.checked }
namespace Rows
def none {H : Type} : Left H := { results := [], args := [] }

/-- 'laws.FnDrawMask': WHATEVER THE INPUT: true; the input reads as it did. -/
def fnDrawMaskSpec : ChangeSpec := { name := "fnDrawMask", fn := fun _ => fun
  | [d1, d2, d3, d4, d5, d6, d7, d8, d9] => { results := [.lit (.bool true)], args := [d1, d2, d3, d4, d5, d6, d7, d8, d9] }
  | _ => none }
def fnDrawMaskRow : OpenClaim := { program := "ytgjpohmjkhgpfaagreat", sum := "6cb9f4aa1c937c3524df62d039482edfc77c316280a4bf8b28bee13c6ce5130f", func := "drawnimages/laws.FnDrawMask", spec := "fnDrawMask", unfollowed := true, recurses := true, apart := false }
def FnDrawMaskSaid : Prop := fnDrawMaskRow.holds Tryz.pinned (OpenSpec.ofChange fnDrawMaskSpec)

/-- ITS FALSE NEIGHBOUR: 'it returns false'. Refute it at one input. -/
def fnDrawMaskWrong : ChangeSpec := { name := "fnDrawMask", fn := fun _ => fun
  | [d1, d2, d3, d4, d5, d6, d7, d8, d9] => { results := [.lit (.bool false)], args := [d1, d2, d3, d4, d5, d6, d7, d8, d9] }
  | _ => none }
def FnDrawMaskWrongFalsely : Prop := fnDrawMaskRow.holds Tryz.pinned (OpenSpec.ofChange fnDrawMaskWrong)

/-- 'laws.FnHalves': WHATEVER THE INPUT: true; the input reads as it did. -/
def fnHalvesSpec : ChangeSpec := { name := "fnHalves", fn := fun _ => fun
  | [d1, d2, d3, d4, d5, d6, d7, d8, d9, d10, d11] => { results := [.lit (.bool true)], args := [d1, d2, d3, d4, d5, d6, d7, d8, d9, d10, d11] }
  | _ => none }
def fnHalvesRow : OpenClaim := { program := "ytgjpohmjkhgpfaagreat", sum := "6cb9f4aa1c937c3524df62d039482edfc77c316280a4bf8b28bee13c6ce5130f", func := "drawnimages/laws.FnHalves", spec := "fnHalves", unfollowed := true, recurses := true, apart := false }
def FnHalvesSaid : Prop := fnHalvesRow.holds Tryz.pinned (OpenSpec.ofChange fnHalvesSpec)

/-- ITS FALSE NEIGHBOUR: 'it returns false'. Refute it at one input. -/
def fnHalvesWrong : ChangeSpec := { name := "fnHalves", fn := fun _ => fun
  | [d1, d2, d3, d4, d5, d6, d7, d8, d9, d10, d11] => { results := [.lit (.bool false)], args := [d1, d2, d3, d4, d5, d6, d7, d8, d9, d10, d11] }
  | _ => none }
def FnHalvesWrongFalsely : Prop := fnHalvesRow.holds Tryz.pinned (OpenSpec.ofChange fnHalvesWrong)

/-- 'laws.FnMoved': WHATEVER THE INPUT: true; the input reads as it did. -/
def fnMovedSpec : ChangeSpec := { name := "fnMoved", fn := fun _ => fun
  | [d1, d2, d3, d4, d5, d6, d7, d8, d9, d10] => { results := [.lit (.bool true)], args := [d1, d2, d3, d4, d5, d6, d7, d8, d9, d10] }
  | _ => none }
def fnMovedRow : OpenClaim := { program := "ytgjpohmjkhgpfaagreat", sum := "6cb9f4aa1c937c3524df62d039482edfc77c316280a4bf8b28bee13c6ce5130f", func := "drawnimages/laws.FnMoved", spec := "fnMoved", unfollowed := true, recurses := true, apart := false }
def FnMovedSaid : Prop := fnMovedRow.holds Tryz.pinned (OpenSpec.ofChange fnMovedSpec)

/-- ITS FALSE NEIGHBOUR: 'it returns false'. Refute it at one input. -/
def fnMovedWrong : ChangeSpec := { name := "fnMoved", fn := fun _ => fun
  | [d1, d2, d3, d4, d5, d6, d7, d8, d9, d10] => { results := [.lit (.bool false)], args := [d1, d2, d3, d4, d5, d6, d7, d8, d9, d10] }
  | _ => none }
def FnMovedWrongFalsely : Prop := fnMovedRow.holds Tryz.pinned (OpenSpec.ofChange fnMovedWrong)

/-- 'laws.FnSlow': WHATEVER THE INPUT: true; the input reads as it did. -/
def fnSlowSpec : ChangeSpec := { name := "fnSlow", fn := fun _ => fun
  | [d1, d2, d3, d4, d5, d6, d7, d8, d9] => { results := [.lit (.bool true)], args := [d1, d2, d3, d4, d5, d6, d7, d8, d9] }
  | _ => none }
def fnSlowRow : OpenClaim := { program := "ytgjpohmjkhgpfaagreat", sum := "6cb9f4aa1c937c3524df62d039482edfc77c316280a4bf8b28bee13c6ce5130f", func := "drawnimages/laws.FnSlow", spec := "fnSlow", unfollowed := true, recurses := true, apart := false }
def FnSlowSaid : Prop := fnSlowRow.holds Tryz.pinned (OpenSpec.ofChange fnSlowSpec)

/-- ITS FALSE NEIGHBOUR: 'it returns false'. Refute it at one input. -/
def fnSlowWrong : ChangeSpec := { name := "fnSlow", fn := fun _ => fun
  | [d1, d2, d3, d4, d5, d6, d7, d8, d9] => { results := [.lit (.bool false)], args := [d1, d2, d3, d4, d5, d6, d7, d8, d9] }
  | _ => none }
def FnSlowWrongFalsely : Prop := fnSlowRow.holds Tryz.pinned (OpenSpec.ofChange fnSlowWrong)

/-- 'laws.FnDraw': WHATEVER THE INPUT: true; the input reads as it did. -/
def fnDrawSpec : ChangeSpec := { name := "fnDraw", fn := fun _ => fun
  | [d1, d2, d3, d4, d5, d6] => { results := [.lit (.bool true)], args := [d1, d2, d3, d4, d5, d6] }
  | _ => none }
def fnDrawRow : OpenClaim := { program := "ytgjpohmjkhgpfaagreat", sum := "6cb9f4aa1c937c3524df62d039482edfc77c316280a4bf8b28bee13c6ce5130f", func := "drawnimages/laws.FnDraw", spec := "fnDraw", unfollowed := true, recurses := true, apart := false }
def FnDrawSaid : Prop := fnDrawRow.holds Tryz.pinned (OpenSpec.ofChange fnDrawSpec)

/-- ITS FALSE NEIGHBOUR: 'it returns false'. Refute it at one input. -/
def fnDrawWrong : ChangeSpec := { name := "fnDraw", fn := fun _ => fun
  | [d1, d2, d3, d4, d5, d6] => { results := [.lit (.bool false)], args := [d1, d2, d3, d4, d5, d6] }
  | _ => none }
def FnDrawWrongFalsely : Prop := fnDrawRow.holds Tryz.pinned (OpenSpec.ofChange fnDrawWrong)

/-- 'laws.FnFilled': WHATEVER THE INPUT: true; the input reads as it did. -/
def fnFilledSpec : ChangeSpec := { name := "fnFilled", fn := fun _ => fun
  | [d1, d2, d3] => { results := [.lit (.bool true)], args := [d1, d2, d3] }
  | _ => none }
def fnFilledRow : OpenClaim := { program := "ytgjpohmjkhgpfaagreat", sum := "6cb9f4aa1c937c3524df62d039482edfc77c316280a4bf8b28bee13c6ce5130f", func := "drawnimages/laws.FnFilled", spec := "fnFilled", unfollowed := true, recurses := true, apart := false }
def FnFilledSaid : Prop := fnFilledRow.holds Tryz.pinned (OpenSpec.ofChange fnFilledSpec)

/-- ITS FALSE NEIGHBOUR: 'it returns false'. Refute it at one input. -/
def fnFilledWrong : ChangeSpec := { name := "fnFilled", fn := fun _ => fun
  | [d1, d2, d3] => { results := [.lit (.bool false)], args := [d1, d2, d3] }
  | _ => none }
def FnFilledWrongFalsely : Prop := fnFilledRow.holds Tryz.pinned (OpenSpec.ofChange fnFilledWrong)

/-- 'laws.FnOntoItself': WHATEVER THE INPUT: true; the input reads as it did. -/
def fnOntoItselfSpec : ChangeSpec := { name := "fnOntoItself", fn := fun _ => fun
  | [d1, d2, d3, d4, d5] => { results := [.lit (.bool true)], args := [d1, d2, d3, d4, d5] }
  | _ => none }
def fnOntoItselfRow : OpenClaim := { program := "ytgjpohmjkhgpfaagreat", sum := "6cb9f4aa1c937c3524df62d039482edfc77c316280a4bf8b28bee13c6ce5130f", func := "drawnimages/laws.FnOntoItself", spec := "fnOntoItself", unfollowed := true, recurses := true, apart := false }
def FnOntoItselfSaid : Prop := fnOntoItselfRow.holds Tryz.pinned (OpenSpec.ofChange fnOntoItselfSpec)

/-- ITS FALSE NEIGHBOUR: 'it returns false'. Refute it at one input. -/
def fnOntoItselfWrong : ChangeSpec := { name := "fnOntoItself", fn := fun _ => fun
  | [d1, d2, d3, d4, d5] => { results := [.lit (.bool false)], args := [d1, d2, d3, d4, d5] }
  | _ => none }
def FnOntoItselfWrongFalsely : Prop := fnOntoItselfRow.holds Tryz.pinned (OpenSpec.ofChange fnOntoItselfWrong)

/-- 'laws.FnOpaqueIsCopied': WHATEVER THE INPUT: true; the input reads as it did. -/
def fnOpaqueIsCopiedSpec : ChangeSpec := { name := "fnOpaqueIsCopied", fn := fun _ => fun
  | [d1, d2, d3, d4, d5, d6] => { results := [.lit (.bool true)], args := [d1, d2, d3, d4, d5, d6] }
  | _ => none }
def fnOpaqueIsCopiedRow : OpenClaim := { program := "ytgjpohmjkhgpfaagreat", sum := "6cb9f4aa1c937c3524df62d039482edfc77c316280a4bf8b28bee13c6ce5130f", func := "drawnimages/laws.FnOpaqueIsCopied", spec := "fnOpaqueIsCopied", unfollowed := true, recurses := true, apart := false }
def FnOpaqueIsCopiedSaid : Prop := fnOpaqueIsCopiedRow.holds Tryz.pinned (OpenSpec.ofChange fnOpaqueIsCopiedSpec)

/-- ITS FALSE NEIGHBOUR: 'it returns false'. Refute it at one input. -/
def fnOpaqueIsCopiedWrong : ChangeSpec := { name := "fnOpaqueIsCopied", fn := fun _ => fun
  | [d1, d2, d3, d4, d5, d6] => { results := [.lit (.bool false)], args := [d1, d2, d3, d4, d5, d6] }
  | _ => none }
def FnOpaqueIsCopiedWrongFalsely : Prop := fnOpaqueIsCopiedRow.holds Tryz.pinned (OpenSpec.ofChange fnOpaqueIsCopiedWrong)

/-- 'laws.FnNothingIsKept': WHATEVER THE INPUT: true; the input reads as it did. -/
def fnNothingIsKeptSpec : ChangeSpec := { name := "fnNothingIsKept", fn := fun _ => fun
  | [d1, d2, d3, d4, d5, d6, d7] => { results := [.lit (.bool true)], args := [d1, d2, d3, d4, d5, d6, d7] }
  | _ => none }
def fnNothingIsKeptRow : OpenClaim := { program := "ytgjpohmjkhgpfaagreat", sum := "6cb9f4aa1c937c3524df62d039482edfc77c316280a4bf8b28bee13c6ce5130f", func := "drawnimages/laws.FnNothingIsKept", spec := "fnNothingIsKept", unfollowed := true, recurses := true, apart := false }
def FnNothingIsKeptSaid : Prop := fnNothingIsKeptRow.holds Tryz.pinned (OpenSpec.ofChange fnNothingIsKeptSpec)

/-- ITS FALSE NEIGHBOUR: 'it returns false'. Refute it at one input. -/
def fnNothingIsKeptWrong : ChangeSpec := { name := "fnNothingIsKept", fn := fun _ => fun
  | [d1, d2, d3, d4, d5, d6, d7] => { results := [.lit (.bool false)], args := [d1, d2, d3, d4, d5, d6, d7] }
  | _ => none }
def FnNothingIsKeptWrongFalsely : Prop := fnNothingIsKeptRow.holds Tryz.pinned (OpenSpec.ofChange fnNothingIsKeptWrong)

/-- 'laws.FnOpaqueMask': WHATEVER THE INPUT: true; the input reads as it did. -/
def fnOpaqueMaskSpec : ChangeSpec := { name := "fnOpaqueMask", fn := fun _ => fun
  | [d1, d2, d3, d4, d5, d6] => { results := [.lit (.bool true)], args := [d1, d2, d3, d4, d5, d6] }
  | _ => none }
def fnOpaqueMaskRow : OpenClaim := { program := "ytgjpohmjkhgpfaagreat", sum := "6cb9f4aa1c937c3524df62d039482edfc77c316280a4bf8b28bee13c6ce5130f", func := "drawnimages/laws.FnOpaqueMask", spec := "fnOpaqueMask", unfollowed := true, recurses := true, apart := false }
def FnOpaqueMaskSaid : Prop := fnOpaqueMaskRow.holds Tryz.pinned (OpenSpec.ofChange fnOpaqueMaskSpec)

/-- ITS FALSE NEIGHBOUR: 'it returns false'. Refute it at one input. -/
def fnOpaqueMaskWrong : ChangeSpec := { name := "fnOpaqueMask", fn := fun _ => fun
  | [d1, d2, d3, d4, d5, d6] => { results := [.lit (.bool false)], args := [d1, d2, d3, d4, d5, d6] }
  | _ => none }
def FnOpaqueMaskWrongFalsely : Prop := fnOpaqueMaskRow.holds Tryz.pinned (OpenSpec.ofChange fnOpaqueMaskWrong)

/- THE SECOND FORM. 'bulk': how many values and letters a reading holds, each counted each time it is reached (what is shared counts as often as it is met; a slice's spare places count too). A statement '..UptoSaid' is the law's where the arguments, and the package variables that the reading takes, are together of bulk at most 1048576: NARROWER than '..Said'. Prove '..Said' where nothing that the law and all that it calls make is longer than what came in: it says more and counts as full. Else prove '..UptoSaid'. A law counts once. -/
mutual
def uptoBulk {H : Type} : DataW H → Nat
  | .lit (.string bytes) => bytes.length + 1
  | .lit _ => 1
  | .nil => 1
  | .ptr d => uptoBulk d + 1
  | .slice elems spare => uptoBulkAll elems + uptoBulkAll spare + 1
  | .agg parts => uptoBulkAll parts + 1
  | .iface _ d => uptoBulk d + 1
  | .map entries => uptoBulkEntries entries + 1
  | .held _ => 1
def uptoBulkAll {H : Type} : List (DataW H) → Nat
  | [] => 0
  | d :: r => uptoBulk d + uptoBulkAll r
def uptoBulkEntries {H : Type} : List (Lit × DataW H) → Nat
  | [] => 0
  | x :: r => uptoBulkEntry x + uptoBulkEntries r
def uptoBulkEntry {H : Type} : Lit × DataW H → Nat
  | (.string bytes, d) => bytes.length + uptoBulk d + 1
  | (_, d) => uptoBulk d + 1
 end
def uptoSmall : (H : Type) → List (DataW H) → Bool := fun _ ds => decide (uptoBulkAll ds ≤ 1048576)
def OpenSpec.upto (s : _root_.Go.ChangeSpec) : _root_.Go.OpenSpec := { _root_.Go.OpenSpec.ofChange s with cond := some uptoSmall }

/-- 'laws.FnDrawMask', WHERE WHAT IT READS IS OF BULK AT MOST 1048576: true; the input reads as it did. -/
def fnDrawMaskUptoRow : OpenClaim := { program := "ytgjpohmjkhgpfaagreat", sum := "6cb9f4aa1c937c3524df62d039482edfc77c316280a4bf8b28bee13c6ce5130f", func := "drawnimages/laws.FnDrawMask", spec := "fnDrawMask", unfollowed := true, recurses := true, apart := false, narrowed := true }
def FnDrawMaskUptoSaid : Prop := fnDrawMaskUptoRow.holds Tryz.pinned (OpenSpec.upto fnDrawMaskSpec)

/-- 'laws.FnHalves', WHERE WHAT IT READS IS OF BULK AT MOST 1048576: true; the input reads as it did. -/
def fnHalvesUptoRow : OpenClaim := { program := "ytgjpohmjkhgpfaagreat", sum := "6cb9f4aa1c937c3524df62d039482edfc77c316280a4bf8b28bee13c6ce5130f", func := "drawnimages/laws.FnHalves", spec := "fnHalves", unfollowed := true, recurses := true, apart := false, narrowed := true }
def FnHalvesUptoSaid : Prop := fnHalvesUptoRow.holds Tryz.pinned (OpenSpec.upto fnHalvesSpec)

/-- 'laws.FnMoved', WHERE WHAT IT READS IS OF BULK AT MOST 1048576: true; the input reads as it did. -/
def fnMovedUptoRow : OpenClaim := { program := "ytgjpohmjkhgpfaagreat", sum := "6cb9f4aa1c937c3524df62d039482edfc77c316280a4bf8b28bee13c6ce5130f", func := "drawnimages/laws.FnMoved", spec := "fnMoved", unfollowed := true, recurses := true, apart := false, narrowed := true }
def FnMovedUptoSaid : Prop := fnMovedUptoRow.holds Tryz.pinned (OpenSpec.upto fnMovedSpec)

/-- 'laws.FnSlow', WHERE WHAT IT READS IS OF BULK AT MOST 1048576: true; the input reads as it did. -/
def fnSlowUptoRow : OpenClaim := { program := "ytgjpohmjkhgpfaagreat", sum := "6cb9f4aa1c937c3524df62d039482edfc77c316280a4bf8b28bee13c6ce5130f", func := "drawnimages/laws.FnSlow", spec := "fnSlow", unfollowed := true, recurses := true, apart := false, narrowed := true }
def FnSlowUptoSaid : Prop := fnSlowUptoRow.holds Tryz.pinned (OpenSpec.upto fnSlowSpec)

/-- 'laws.FnDraw', WHERE WHAT IT READS IS OF BULK AT MOST 1048576: true; the input reads as it did. -/
def fnDrawUptoRow : OpenClaim := { program := "ytgjpohmjkhgpfaagreat", sum := "6cb9f4aa1c937c3524df62d039482edfc77c316280a4bf8b28bee13c6ce5130f", func := "drawnimages/laws.FnDraw", spec := "fnDraw", unfollowed := true, recurses := true, apart := false, narrowed := true }
def FnDrawUptoSaid : Prop := fnDrawUptoRow.holds Tryz.pinned (OpenSpec.upto fnDrawSpec)

/-- 'laws.FnFilled', WHERE WHAT IT READS IS OF BULK AT MOST 1048576: true; the input reads as it did. -/
def fnFilledUptoRow : OpenClaim := { program := "ytgjpohmjkhgpfaagreat", sum := "6cb9f4aa1c937c3524df62d039482edfc77c316280a4bf8b28bee13c6ce5130f", func := "drawnimages/laws.FnFilled", spec := "fnFilled", unfollowed := true, recurses := true, apart := false, narrowed := true }
def FnFilledUptoSaid : Prop := fnFilledUptoRow.holds Tryz.pinned (OpenSpec.upto fnFilledSpec)

/-- 'laws.FnOntoItself', WHERE WHAT IT READS IS OF BULK AT MOST 1048576: true; the input reads as it did. -/
def fnOntoItselfUptoRow : OpenClaim := { program := "ytgjpohmjkhgpfaagreat", sum := "6cb9f4aa1c937c3524df62d039482edfc77c316280a4bf8b28bee13c6ce5130f", func := "drawnimages/laws.FnOntoItself", spec := "fnOntoItself", unfollowed := true, recurses := true, apart := false, narrowed := true }
def FnOntoItselfUptoSaid : Prop := fnOntoItselfUptoRow.holds Tryz.pinned (OpenSpec.upto fnOntoItselfSpec)

/-- 'laws.FnOpaqueIsCopied', WHERE WHAT IT READS IS OF BULK AT MOST 1048576: true; the input reads as it did. -/
def fnOpaqueIsCopiedUptoRow : OpenClaim := { program := "ytgjpohmjkhgpfaagreat", sum := "6cb9f4aa1c937c3524df62d039482edfc77c316280a4bf8b28bee13c6ce5130f", func := "drawnimages/laws.FnOpaqueIsCopied", spec := "fnOpaqueIsCopied", unfollowed := true, recurses := true, apart := false, narrowed := true }
def FnOpaqueIsCopiedUptoSaid : Prop := fnOpaqueIsCopiedUptoRow.holds Tryz.pinned (OpenSpec.upto fnOpaqueIsCopiedSpec)

/-- 'laws.FnNothingIsKept', WHERE WHAT IT READS IS OF BULK AT MOST 1048576: true; the input reads as it did. -/
def fnNothingIsKeptUptoRow : OpenClaim := { program := "ytgjpohmjkhgpfaagreat", sum := "6cb9f4aa1c937c3524df62d039482edfc77c316280a4bf8b28bee13c6ce5130f", func := "drawnimages/laws.FnNothingIsKept", spec := "fnNothingIsKept", unfollowed := true, recurses := true, apart := false, narrowed := true }
def FnNothingIsKeptUptoSaid : Prop := fnNothingIsKeptUptoRow.holds Tryz.pinned (OpenSpec.upto fnNothingIsKeptSpec)

/-- 'laws.FnOpaqueMask', WHERE WHAT IT READS IS OF BULK AT MOST 1048576: true; the input reads as it did. -/
def fnOpaqueMaskUptoRow : OpenClaim := { program := "ytgjpohmjkhgpfaagreat", sum := "6cb9f4aa1c937c3524df62d039482edfc77c316280a4bf8b28bee13c6ce5130f", func := "drawnimages/laws.FnOpaqueMask", spec := "fnOpaqueMask", unfollowed := true, recurses := true, apart := false, narrowed := true }
def FnOpaqueMaskUptoSaid : Prop := fnOpaqueMaskUptoRow.holds Tryz.pinned (OpenSpec.upto fnOpaqueMaskSpec)

end Rows
end Go.Proofs.YtgjpohmjkhgpfaaGreat
