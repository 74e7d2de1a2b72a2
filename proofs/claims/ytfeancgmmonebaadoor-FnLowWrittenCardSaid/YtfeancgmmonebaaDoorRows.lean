/-
  NARROWER THAN 'FOR EVERY INPUT', by the rows' own cells (each row's printed sentence says how): FnLowS: laid · FnLowWritten: laid.
  DERIVED. THE GIVEN ROWS OF THIS SEAT. 2 by the template 'for every input the law returns true; each argument reads behind the call as it read before'; 0 by the template 'total and deterministic' (their statements: YtfeancgmmonebaaDoorTotals.lean).
  GIVEN WITH THE SEED: the statements are not yours to turn. If you find one false, say at which input.
  Laid BY PROGRAM, IN A SANDBOX (cutbox-rows.mjs): the forced cells as the released guide's own fill.sh prints them over the translation bc06538ce7da5351… (all of the seat's roots in one cut). By AI agents, Wed Nov 11 2026. No macro, syntax, notation, axiom, sorry.
-/
import Derived.Test.YtfeancgmmonebaaDoorChecked
import GoSem.Claim
import GoSem.ClaimJoined
import GoSem.ClaimMapViews
import Derived.JoinedTies
import Derived.KernelRfl
namespace Go.Proofs.YtfeancgmmonebaaDoor
/- THE CELL 'sum', in the pinned program and in every row, IS THE sha256 OF THE DUMP (.gsa) THAT YtfeancgmmonebaaDoorProg.lean LOADS. Nothing in Lean hashes anything: it is a label: what it is worth is what the hold of that sum in a sandbox is worth. -/
noncomputable def Tryd.pinned : Pinned := { name := "ytfeancgmmonebaadoor", sum := "bc06538ce7da5351657b75d8a863a82510eb3e728c4ab838ca375ebf52f0fd1c", checked := Tryd.checked }
namespace Rows
def none {H : Type} : Left H := { results := [], args := [] }

/- WHAT THE LISTED PACKAGE-LEVEL VARIABLES READ AS WHEN THE CALL BEGINS. Each datum BY PROGRAM (the guide's laid-datum.mjs) off the statement by which the dump's own 'gosem.cut.vars' lays the variable. In a bare row this is a premise. The card (YtfeancgmmonebaaDoorCards.lean) ties it to the program's text. -/
def laid_pub_sigillum_pub_btcdbtcec_ecdsa_errNegativeValue {H : Type} : DataW H := .iface "*errors.errorString" (.ptr (.agg [.lit (.string [118, 97, 108, 117, 101, 32, 109, 97, 121, 32, 98, 101, 32, 105, 110, 116, 101, 114, 112, 114, 101, 116, 101, 100, 32, 97, 115, 32, 110, 101, 103, 97, 116, 105, 118, 101])]))
def laid_pub_sigillum_pub_btcdbtcec_ecdsa_errExcessivelyPaddedValue {H : Type} : DataW H := .iface "*errors.errorString" (.ptr (.agg [.lit (.string [118, 97, 108, 117, 101, 32, 105, 115, 32, 101, 120, 99, 101, 115, 115, 105, 118, 101, 108, 121, 32, 112, 97, 100, 100, 101, 100])]))
def laid_pub_sigillum_pub_btcdbtcec_ecdsa_errHighS {H : Type} : DataW H := .iface "*errors.errorString" (.ptr (.agg [.lit (.string [110, 111, 110, 45, 99, 97, 110, 111, 110, 105, 99, 97, 108, 32, 115, 105, 103, 110, 97, 116, 117, 114, 101, 58, 32, 83, 32, 118, 97, 108, 117, 101, 32, 110, 111, 116, 32, 105, 110, 32, 108, 111, 119, 45, 83, 32, 102, 111, 114, 109])]))
def laid_pub_sigillum_pub_btcdbtcec_ecdsa_errNoHeaderMagic {H : Type} : DataW H := .iface "*errors.errorString" (.ptr (.agg [.lit (.string [109, 97, 108, 102, 111, 114, 109, 101, 100, 32, 115, 105, 103, 110, 97, 116, 117, 114, 101, 58, 32, 110, 111, 32, 104, 101, 97, 100, 101, 114, 32, 109, 97, 103, 105, 99])]))

/-- 'laws.FnLowS': WHATEVER THE INPUT: true; the input reads as it did. -/
def fnLowSSpec : ChangeSpec := { name := "fnLowS", fn := fun _ => fun
  | [d] => { results := [.lit (.bool true)], args := [d] }
  | _ => none }
def fnLowSRow : OpenClaim := { program := "ytfeancgmmonebaadoor", sum := "bc06538ce7da5351657b75d8a863a82510eb3e728c4ab838ca375ebf52f0fd1c", func := "pub-sigillum/laws.FnLowS", spec := "fnLowS", inPlace := ["math/bits.Sub64"], named := ["pub-sigillum/pub/btcdbtcec/ecdsa.errHighS", "pub-sigillum/pub/btcdbtcec/ecdsa.errNoHeaderMagic", "pub-sigillum/pub/btcdbtcec/ecdsa.errNegativeValue", "pub-sigillum/pub/btcdbtcec/ecdsa.errExcessivelyPaddedValue"], apart := false, laid := [("pub-sigillum/pub/btcdbtcec/ecdsa.errNegativeValue", laid_pub_sigillum_pub_btcdbtcec_ecdsa_errNegativeValue), ("pub-sigillum/pub/btcdbtcec/ecdsa.errExcessivelyPaddedValue", laid_pub_sigillum_pub_btcdbtcec_ecdsa_errExcessivelyPaddedValue), ("pub-sigillum/pub/btcdbtcec/ecdsa.errHighS", laid_pub_sigillum_pub_btcdbtcec_ecdsa_errHighS), ("pub-sigillum/pub/btcdbtcec/ecdsa.errNoHeaderMagic", laid_pub_sigillum_pub_btcdbtcec_ecdsa_errNoHeaderMagic)] }
def FnLowSSaid : Prop := fnLowSRow.holds Tryd.pinned (OpenSpec.ofChange fnLowSSpec)

/-- ITS FALSE NEIGHBOUR: 'it returns false'. Refute it at one input. -/
def fnLowSWrong : ChangeSpec := { name := "fnLowS", fn := fun _ => fun
  | [d] => { results := [.lit (.bool false)], args := [d] }
  | _ => none }
def FnLowSWrongFalsely : Prop := fnLowSRow.holds Tryd.pinned (OpenSpec.ofChange fnLowSWrong)

/-- 'laws.FnLowWritten': WHATEVER THE INPUT: true; the input reads as it did. -/
def fnLowWrittenSpec : ChangeSpec := { name := "fnLowWritten", fn := fun _ => fun
  | [d] => { results := [.lit (.bool true)], args := [d] }
  | _ => none }
def fnLowWrittenRow : OpenClaim := { program := "ytfeancgmmonebaadoor", sum := "bc06538ce7da5351657b75d8a863a82510eb3e728c4ab838ca375ebf52f0fd1c", func := "pub-sigillum/laws.FnLowWritten", spec := "fnLowWritten", named := ["pub-sigillum/pub/btcdbtcec/ecdsa.errHighS", "pub-sigillum/pub/btcdbtcec/ecdsa.errNoHeaderMagic", "pub-sigillum/pub/btcdbtcec/ecdsa.errNegativeValue", "pub-sigillum/pub/btcdbtcec/ecdsa.errExcessivelyPaddedValue"], apart := false, laid := [("pub-sigillum/pub/btcdbtcec/ecdsa.errNegativeValue", laid_pub_sigillum_pub_btcdbtcec_ecdsa_errNegativeValue), ("pub-sigillum/pub/btcdbtcec/ecdsa.errExcessivelyPaddedValue", laid_pub_sigillum_pub_btcdbtcec_ecdsa_errExcessivelyPaddedValue), ("pub-sigillum/pub/btcdbtcec/ecdsa.errHighS", laid_pub_sigillum_pub_btcdbtcec_ecdsa_errHighS), ("pub-sigillum/pub/btcdbtcec/ecdsa.errNoHeaderMagic", laid_pub_sigillum_pub_btcdbtcec_ecdsa_errNoHeaderMagic)] }
def FnLowWrittenSaid : Prop := fnLowWrittenRow.holds Tryd.pinned (OpenSpec.ofChange fnLowWrittenSpec)

/-- ITS FALSE NEIGHBOUR: 'it returns false'. Refute it at one input. -/
def fnLowWrittenWrong : ChangeSpec := { name := "fnLowWritten", fn := fun _ => fun
  | [d] => { results := [.lit (.bool false)], args := [d] }
  | _ => none }
def FnLowWrittenWrongFalsely : Prop := fnLowWrittenRow.holds Tryd.pinned (OpenSpec.ofChange fnLowWrittenWrong)

/- THE SECOND FORM. 'bulk': how many values and letters a reading holds, each counted each time it is reached (what is shared counts as often as it is met; a slice's spare places count too). A statement '..UptoSaid' is the law's where the arguments, and the package variables that the reading takes, are together of bulk at most 1048576: NARROWER than '..Said'. Prove '..Said' where nothing that the law and all that it calls make is longer than what came in: it says more and counts as full. Else prove '..UptoSaid'. A law counts once. -/
mutual
def uptoBulk {H : Type} : DataW H → Nat
  | .lit (.string bytes) => bytes.length + 1
  | .lit _ => 1
  | .nil => 1
  | .ptr d => uptoBulk d + 1
  | .slice elems spare => uptoBulkAll elems + uptoBulkAll spare + 1
  | .agg parts => uptoBulkAll parts + 1
  | .iface _ d => uptoBulk d + 1
  | .map entries => uptoBulkEntries entries + 1
  | .held _ => 1
def uptoBulkAll {H : Type} : List (DataW H) → Nat
  | [] => 0
  | d :: r => uptoBulk d + uptoBulkAll r
def uptoBulkEntries {H : Type} : List (Lit × DataW H) → Nat
  | [] => 0
  | x :: r => uptoBulkEntry x + uptoBulkEntries r
def uptoBulkEntry {H : Type} : Lit × DataW H → Nat
  | (.string bytes, d) => bytes.length + uptoBulk d + 1
  | (_, d) => uptoBulk d + 1
 end
def uptoSmall : (H : Type) → List (DataW H) → Bool := fun _ ds => decide (uptoBulkAll ds ≤ 1048576)
def OpenSpec.upto (s : _root_.Go.ChangeSpec) : _root_.Go.OpenSpec := { _root_.Go.OpenSpec.ofChange s with cond := some uptoSmall }

/-- 'laws.FnLowS', WHERE WHAT IT READS IS OF BULK AT MOST 1048576: true; the input reads as it did. -/
def fnLowSUptoRow : OpenClaim := { program := "ytfeancgmmonebaadoor", sum := "bc06538ce7da5351657b75d8a863a82510eb3e728c4ab838ca375ebf52f0fd1c", func := "pub-sigillum/laws.FnLowS", spec := "fnLowS", inPlace := ["math/bits.Sub64"], named := ["pub-sigillum/pub/btcdbtcec/ecdsa.errHighS", "pub-sigillum/pub/btcdbtcec/ecdsa.errNoHeaderMagic", "pub-sigillum/pub/btcdbtcec/ecdsa.errNegativeValue", "pub-sigillum/pub/btcdbtcec/ecdsa.errExcessivelyPaddedValue"], apart := false, laid := [("pub-sigillum/pub/btcdbtcec/ecdsa.errNegativeValue", laid_pub_sigillum_pub_btcdbtcec_ecdsa_errNegativeValue), ("pub-sigillum/pub/btcdbtcec/ecdsa.errExcessivelyPaddedValue", laid_pub_sigillum_pub_btcdbtcec_ecdsa_errExcessivelyPaddedValue), ("pub-sigillum/pub/btcdbtcec/ecdsa.errHighS", laid_pub_sigillum_pub_btcdbtcec_ecdsa_errHighS), ("pub-sigillum/pub/btcdbtcec/ecdsa.errNoHeaderMagic", laid_pub_sigillum_pub_btcdbtcec_ecdsa_errNoHeaderMagic)], narrowed := true }
def FnLowSUptoSaid : Prop := fnLowSUptoRow.holds Tryd.pinned (OpenSpec.upto fnLowSSpec)

/-- 'laws.FnLowWritten', WHERE WHAT IT READS IS OF BULK AT MOST 1048576: true; the input reads as it did. -/
def fnLowWrittenUptoRow : OpenClaim := { program := "ytfeancgmmonebaadoor", sum := "bc06538ce7da5351657b75d8a863a82510eb3e728c4ab838ca375ebf52f0fd1c", func := "pub-sigillum/laws.FnLowWritten", spec := "fnLowWritten", named := ["pub-sigillum/pub/btcdbtcec/ecdsa.errHighS", "pub-sigillum/pub/btcdbtcec/ecdsa.errNoHeaderMagic", "pub-sigillum/pub/btcdbtcec/ecdsa.errNegativeValue", "pub-sigillum/pub/btcdbtcec/ecdsa.errExcessivelyPaddedValue"], apart := false, laid := [("pub-sigillum/pub/btcdbtcec/ecdsa.errNegativeValue", laid_pub_sigillum_pub_btcdbtcec_ecdsa_errNegativeValue), ("pub-sigillum/pub/btcdbtcec/ecdsa.errExcessivelyPaddedValue", laid_pub_sigillum_pub_btcdbtcec_ecdsa_errExcessivelyPaddedValue), ("pub-sigillum/pub/btcdbtcec/ecdsa.errHighS", laid_pub_sigillum_pub_btcdbtcec_ecdsa_errHighS), ("pub-sigillum/pub/btcdbtcec/ecdsa.errNoHeaderMagic", laid_pub_sigillum_pub_btcdbtcec_ecdsa_errNoHeaderMagic)], narrowed := true }
def FnLowWrittenUptoSaid : Prop := fnLowWrittenUptoRow.holds Tryd.pinned (OpenSpec.upto fnLowWrittenSpec)

end Rows
end Go.Proofs.YtfeancgmmonebaaDoor
