/-
  No cell of these rows narrows 'for every input' (looked for: loops, veiled, ifaces, maps, wideKeys, modest, calm, conditions, laid).
  DERIVED. THE GIVEN ROWS OF THIS SEAT. 7 by the template 'for every input the law returns true; each argument reads behind the call as it read before'; 0 by the template 'total and deterministic' (their statements: YtbffnmoklpapiaaTotals.lean).
  GIVEN WITH THE SEED: the statements are not yours to turn. If you find one false, say at which input.
  Laid BY PROGRAM, IN A SANDBOX (cutbox-rows.mjs): the forced cells as the released guide's own fill.sh prints them over the translation 2d86b9c02669b18d… (all of the seat's roots in one cut). By AI agents, Wed Nov 11 2026. No macro, syntax, notation, axiom, sorry.
-/
import Derived.Test.YtbffnmoklpapiaaChecked
import GoSem.Claim
import GoSem.ClaimJoined
import GoSem.ClaimMapViews
import Derived.JoinedTies
import Derived.KernelRfl
namespace Go.Proofs.Ytbffnmoklpapiaa
/- THE CELL 'sum', in the pinned program and in every row, IS THE sha256 OF THE DUMP (.gsa) THAT YtbffnmoklpapiaaProg.lean LOADS. Nothing in Lean hashes anything: it is a label: what it is worth is what the hold of that sum in a sandbox is worth. -/
noncomputable def Try.pinned : Pinned := { name := "ytbffnmoklpapiaa", sum := "2d86b9c02669b18d9bc85743b34a5421fb8c28b61c03a546445a0f9c63c98702", checked := Try.checked }
namespace Rows
def none {H : Type} : Left H := { results := [], args := [] }

/-- 'laws.FnTagged': WHATEVER THE INPUT: true; the input reads as it did. -/
def fnTaggedSpec : ChangeSpec := { name := "fnTagged", fn := fun _ => fun
  | [d1, d2] => { results := [.lit (.bool true)], args := [d1, d2] }
  | _ => none }
def fnTaggedRow : OpenClaim := { program := "ytbffnmoklpapiaa", sum := "2d86b9c02669b18d9bc85743b34a5421fb8c28b61c03a546445a0f9c63c98702", func := "pub-sigillum/laws.FnTagged", spec := "fnTagged", unfollowed := true, recurses := true, apart := false }
def FnTaggedSaid : Prop := fnTaggedRow.holds Try.pinned (OpenSpec.ofChange fnTaggedSpec)

/-- ITS FALSE NEIGHBOUR: 'it returns false'. Refute it at one input. -/
def fnTaggedWrong : ChangeSpec := { name := "fnTagged", fn := fun _ => fun
  | [d1, d2] => { results := [.lit (.bool false)], args := [d1, d2] }
  | _ => none }
def FnTaggedWrongFalsely : Prop := fnTaggedRow.holds Try.pinned (OpenSpec.ofChange fnTaggedWrong)

/-- 'laws.FnScalarSet': WHATEVER THE INPUT: true; the input reads as it did. -/
def fnScalarSetSpec : ChangeSpec := { name := "fnScalarSet", fn := fun _ => fun
  | [d] => { results := [.lit (.bool true)], args := [d] }
  | _ => none }
def fnScalarSetRow : OpenClaim := { program := "ytbffnmoklpapiaa", sum := "2d86b9c02669b18d9bc85743b34a5421fb8c28b61c03a546445a0f9c63c98702", func := "pub-sigillum/laws.FnScalarSet", spec := "fnScalarSet", inPlace := ["math/bits.Sub64"], apart := false }
def FnScalarSetSaid : Prop := fnScalarSetRow.holds Try.pinned (OpenSpec.ofChange fnScalarSetSpec)

/-- ITS FALSE NEIGHBOUR: 'it returns false'. Refute it at one input. -/
def fnScalarSetWrong : ChangeSpec := { name := "fnScalarSet", fn := fun _ => fun
  | [d] => { results := [.lit (.bool false)], args := [d] }
  | _ => none }
def FnScalarSetWrongFalsely : Prop := fnScalarSetRow.holds Try.pinned (OpenSpec.ofChange fnScalarSetWrong)

/-- 'laws.FnScalarAsks': WHATEVER THE INPUT: true; the input reads as it did. -/
def fnScalarAsksSpec : ChangeSpec := { name := "fnScalarAsks", fn := fun _ => fun
  | [d1, d2] => { results := [.lit (.bool true)], args := [d1, d2] }
  | _ => none }
def fnScalarAsksRow : OpenClaim := { program := "ytbffnmoklpapiaa", sum := "2d86b9c02669b18d9bc85743b34a5421fb8c28b61c03a546445a0f9c63c98702", func := "pub-sigillum/laws.FnScalarAsks", spec := "fnScalarAsks", inPlace := ["math/bits.Sub64"], apart := false }
def FnScalarAsksSaid : Prop := fnScalarAsksRow.holds Try.pinned (OpenSpec.ofChange fnScalarAsksSpec)

/-- ITS FALSE NEIGHBOUR: 'it returns false'. Refute it at one input. -/
def fnScalarAsksWrong : ChangeSpec := { name := "fnScalarAsks", fn := fun _ => fun
  | [d1, d2] => { results := [.lit (.bool false)], args := [d1, d2] }
  | _ => none }
def FnScalarAsksWrongFalsely : Prop := fnScalarAsksRow.holds Try.pinned (OpenSpec.ofChange fnScalarAsksWrong)

/-- 'laws.FnScalarSlice': WHATEVER THE INPUT: true; the input reads as it did. -/
def fnScalarSliceSpec : ChangeSpec := { name := "fnScalarSlice", fn := fun _ => fun
  | [d] => { results := [.lit (.bool true)], args := [d] }
  | _ => none }
def fnScalarSliceRow : OpenClaim := { program := "ytbffnmoklpapiaa", sum := "2d86b9c02669b18d9bc85743b34a5421fb8c28b61c03a546445a0f9c63c98702", func := "pub-sigillum/laws.FnScalarSlice", spec := "fnScalarSlice", inPlace := ["math/bits.Sub64"], apart := false }
def FnScalarSliceSaid : Prop := fnScalarSliceRow.holds Try.pinned (OpenSpec.ofChange fnScalarSliceSpec)

/-- ITS FALSE NEIGHBOUR: 'it returns false'. Refute it at one input. -/
def fnScalarSliceWrong : ChangeSpec := { name := "fnScalarSlice", fn := fun _ => fun
  | [d] => { results := [.lit (.bool false)], args := [d] }
  | _ => none }
def FnScalarSliceWrongFalsely : Prop := fnScalarSliceRow.holds Try.pinned (OpenSpec.ofChange fnScalarSliceWrong)

/-- 'laws.FnFieldSet': WHATEVER THE INPUT: true; the input reads as it did. -/
def fnFieldSetSpec : ChangeSpec := { name := "fnFieldSet", fn := fun _ => fun
  | [d] => { results := [.lit (.bool true)], args := [d] }
  | _ => none }
def fnFieldSetRow : OpenClaim := { program := "ytbffnmoklpapiaa", sum := "2d86b9c02669b18d9bc85743b34a5421fb8c28b61c03a546445a0f9c63c98702", func := "pub-sigillum/laws.FnFieldSet", spec := "fnFieldSet", inPlace := ["math/bits.Sub64"], apart := false }
def FnFieldSetSaid : Prop := fnFieldSetRow.holds Try.pinned (OpenSpec.ofChange fnFieldSetSpec)

/-- ITS FALSE NEIGHBOUR: 'it returns false'. Refute it at one input. -/
def fnFieldSetWrong : ChangeSpec := { name := "fnFieldSet", fn := fun _ => fun
  | [d] => { results := [.lit (.bool false)], args := [d] }
  | _ => none }
def FnFieldSetWrongFalsely : Prop := fnFieldSetRow.holds Try.pinned (OpenSpec.ofChange fnFieldSetWrong)

/-- 'laws.FnFieldSlice': WHATEVER THE INPUT: true; the input reads as it did. -/
def fnFieldSliceSpec : ChangeSpec := { name := "fnFieldSlice", fn := fun _ => fun
  | [d] => { results := [.lit (.bool true)], args := [d] }
  | _ => none }
def fnFieldSliceRow : OpenClaim := { program := "ytbffnmoklpapiaa", sum := "2d86b9c02669b18d9bc85743b34a5421fb8c28b61c03a546445a0f9c63c98702", func := "pub-sigillum/laws.FnFieldSlice", spec := "fnFieldSlice", inPlace := ["math/bits.Sub64"], apart := false }
def FnFieldSliceSaid : Prop := fnFieldSliceRow.holds Try.pinned (OpenSpec.ofChange fnFieldSliceSpec)

/-- ITS FALSE NEIGHBOUR: 'it returns false'. Refute it at one input. -/
def fnFieldSliceWrong : ChangeSpec := { name := "fnFieldSlice", fn := fun _ => fun
  | [d] => { results := [.lit (.bool false)], args := [d] }
  | _ => none }
def FnFieldSliceWrongFalsely : Prop := fnFieldSliceRow.holds Try.pinned (OpenSpec.ofChange fnFieldSliceWrong)

/-- 'laws.FnFieldAsks': WHATEVER THE INPUT: true; the input reads as it did. -/
def fnFieldAsksSpec : ChangeSpec := { name := "fnFieldAsks", fn := fun _ => fun
  | [d1, d2] => { results := [.lit (.bool true)], args := [d1, d2] }
  | _ => none }
def fnFieldAsksRow : OpenClaim := { program := "ytbffnmoklpapiaa", sum := "2d86b9c02669b18d9bc85743b34a5421fb8c28b61c03a546445a0f9c63c98702", func := "pub-sigillum/laws.FnFieldAsks", spec := "fnFieldAsks", inPlace := ["math/bits.Sub64"], apart := false }
def FnFieldAsksSaid : Prop := fnFieldAsksRow.holds Try.pinned (OpenSpec.ofChange fnFieldAsksSpec)

/-- ITS FALSE NEIGHBOUR: 'it returns false'. Refute it at one input. -/
def fnFieldAsksWrong : ChangeSpec := { name := "fnFieldAsks", fn := fun _ => fun
  | [d1, d2] => { results := [.lit (.bool false)], args := [d1, d2] }
  | _ => none }
def FnFieldAsksWrongFalsely : Prop := fnFieldAsksRow.holds Try.pinned (OpenSpec.ofChange fnFieldAsksWrong)

/- THE SECOND FORM. 'bulk': how many values and letters a reading holds, each counted each time it is reached (what is shared counts as often as it is met; a slice's spare places count too). A statement '..UptoSaid' is the law's where the arguments, and the package variables that the reading takes, are together of bulk at most 1048576: NARROWER than '..Said'. Prove '..Said' where nothing that the law and all that it calls make is longer than what came in: it says more and counts as full. Else prove '..UptoSaid'. A law counts once. -/
mutual
def uptoBulk {H : Type} : DataW H → Nat
  | .lit (.string bytes) => bytes.length + 1
  | .lit _ => 1
  | .nil => 1
  | .ptr d => uptoBulk d + 1
  | .slice elems spare => uptoBulkAll elems + uptoBulkAll spare + 1
  | .agg parts => uptoBulkAll parts + 1
  | .iface _ d => uptoBulk d + 1
  | .map entries => uptoBulkEntries entries + 1
  | .held _ => 1
def uptoBulkAll {H : Type} : List (DataW H) → Nat
  | [] => 0
  | d :: r => uptoBulk d + uptoBulkAll r
def uptoBulkEntries {H : Type} : List (Lit × DataW H) → Nat
  | [] => 0
  | x :: r => uptoBulkEntry x + uptoBulkEntries r
def uptoBulkEntry {H : Type} : Lit × DataW H → Nat
  | (.string bytes, d) => bytes.length + uptoBulk d + 1
  | (_, d) => uptoBulk d + 1
 end
def uptoSmall : (H : Type) → List (DataW H) → Bool := fun _ ds => decide (uptoBulkAll ds ≤ 1048576)
def OpenSpec.upto (s : _root_.Go.ChangeSpec) : _root_.Go.OpenSpec := { _root_.Go.OpenSpec.ofChange s with cond := some uptoSmall }

/-- 'laws.FnTagged', WHERE WHAT IT READS IS OF BULK AT MOST 1048576: true; the input reads as it did. -/
def fnTaggedUptoRow : OpenClaim := { program := "ytbffnmoklpapiaa", sum := "2d86b9c02669b18d9bc85743b34a5421fb8c28b61c03a546445a0f9c63c98702", func := "pub-sigillum/laws.FnTagged", spec := "fnTagged", unfollowed := true, recurses := true, apart := false, narrowed := true }
def FnTaggedUptoSaid : Prop := fnTaggedUptoRow.holds Try.pinned (OpenSpec.upto fnTaggedSpec)

/-- 'laws.FnScalarSet', WHERE WHAT IT READS IS OF BULK AT MOST 1048576: true; the input reads as it did. -/
def fnScalarSetUptoRow : OpenClaim := { program := "ytbffnmoklpapiaa", sum := "2d86b9c02669b18d9bc85743b34a5421fb8c28b61c03a546445a0f9c63c98702", func := "pub-sigillum/laws.FnScalarSet", spec := "fnScalarSet", inPlace := ["math/bits.Sub64"], apart := false, narrowed := true }
def FnScalarSetUptoSaid : Prop := fnScalarSetUptoRow.holds Try.pinned (OpenSpec.upto fnScalarSetSpec)

/-- 'laws.FnScalarAsks', WHERE WHAT IT READS IS OF BULK AT MOST 1048576: true; the input reads as it did. -/
def fnScalarAsksUptoRow : OpenClaim := { program := "ytbffnmoklpapiaa", sum := "2d86b9c02669b18d9bc85743b34a5421fb8c28b61c03a546445a0f9c63c98702", func := "pub-sigillum/laws.FnScalarAsks", spec := "fnScalarAsks", inPlace := ["math/bits.Sub64"], apart := false, narrowed := true }
def FnScalarAsksUptoSaid : Prop := fnScalarAsksUptoRow.holds Try.pinned (OpenSpec.upto fnScalarAsksSpec)

/-- 'laws.FnScalarSlice', WHERE WHAT IT READS IS OF BULK AT MOST 1048576: true; the input reads as it did. -/
def fnScalarSliceUptoRow : OpenClaim := { program := "ytbffnmoklpapiaa", sum := "2d86b9c02669b18d9bc85743b34a5421fb8c28b61c03a546445a0f9c63c98702", func := "pub-sigillum/laws.FnScalarSlice", spec := "fnScalarSlice", inPlace := ["math/bits.Sub64"], apart := false, narrowed := true }
def FnScalarSliceUptoSaid : Prop := fnScalarSliceUptoRow.holds Try.pinned (OpenSpec.upto fnScalarSliceSpec)

/-- 'laws.FnFieldSet', WHERE WHAT IT READS IS OF BULK AT MOST 1048576: true; the input reads as it did. -/
def fnFieldSetUptoRow : OpenClaim := { program := "ytbffnmoklpapiaa", sum := "2d86b9c02669b18d9bc85743b34a5421fb8c28b61c03a546445a0f9c63c98702", func := "pub-sigillum/laws.FnFieldSet", spec := "fnFieldSet", inPlace := ["math/bits.Sub64"], apart := false, narrowed := true }
def FnFieldSetUptoSaid : Prop := fnFieldSetUptoRow.holds Try.pinned (OpenSpec.upto fnFieldSetSpec)

/-- 'laws.FnFieldSlice', WHERE WHAT IT READS IS OF BULK AT MOST 1048576: true; the input reads as it did. -/
def fnFieldSliceUptoRow : OpenClaim := { program := "ytbffnmoklpapiaa", sum := "2d86b9c02669b18d9bc85743b34a5421fb8c28b61c03a546445a0f9c63c98702", func := "pub-sigillum/laws.FnFieldSlice", spec := "fnFieldSlice", inPlace := ["math/bits.Sub64"], apart := false, narrowed := true }
def FnFieldSliceUptoSaid : Prop := fnFieldSliceUptoRow.holds Try.pinned (OpenSpec.upto fnFieldSliceSpec)

/-- 'laws.FnFieldAsks', WHERE WHAT IT READS IS OF BULK AT MOST 1048576: true; the input reads as it did. -/
def fnFieldAsksUptoRow : OpenClaim := { program := "ytbffnmoklpapiaa", sum := "2d86b9c02669b18d9bc85743b34a5421fb8c28b61c03a546445a0f9c63c98702", func := "pub-sigillum/laws.FnFieldAsks", spec := "fnFieldAsks", inPlace := ["math/bits.Sub64"], apart := false, narrowed := true }
def FnFieldAsksUptoSaid : Prop := fnFieldAsksUptoRow.holds Try.pinned (OpenSpec.upto fnFieldAsksSpec)

end Rows
end Go.Proofs.Ytbffnmoklpapiaa
