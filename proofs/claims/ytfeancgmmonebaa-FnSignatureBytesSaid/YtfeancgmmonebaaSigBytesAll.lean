/-
  FnSignatureBytes returns true at every input, and its input reads as before. Conditions: none.
-/
import Derived.Test.YtfeancgmmonebaaMgk
import Derived.Test.YtfeancgmmonebaaMgv
namespace Go.Proofs.Ytfeancgmmonebaa.fnSignatureBytesDone
open Go Go.Proofs Go.ChangeShapes Go.WideShapes Go.ChangeAt Go.RowKit Go.Proofs.Ytfeancgmmonebaa.Sx
set_option linter.unusedVariables false

theorem own : ownKnob Try.prog.godebug = none := by kernel_rfl
theorem laidOut : laidOutB Try.prog = true := by kernel_rfl

theorem walk (bs0 bs1 : List Int) (hl0 : bs0.length = 32) (hd0 : Dg 8 bs0) (hl1 : bs1.length = 32) (hd1 : Dg 8 bs1) (w : World) :
    Calls Try.prog 5 #[.agg (bs0.map (Value.int .u8)).toArray, .agg (bs1.map (Value.int .u8)).toArray] w fun e w' => e = .returned (.bool true) ∧ Below w.heap.size w w' :=
  law_sigbytes hl0 hd0 hl1 hd1 w

set_option maxRecDepth 100000 in
theorem lifted (os : Os) (started : os.Started) (H : Type) (enc : TypeId × Value → H) :
    ReturnsInHanded {} Try.checked os 5 .any (Rows.fnSignatureBytesSpec.pre6 enc Try.prog Try.f5 Rows.fnSignatureBytesRow.domain false) (Rows.fnSignatureBytesSpec.post enc Try.prog Try.f5 false true false false) := by
  refine returnsInHanded_of_change (C := Try.checked) own started (by kernel_rfl) Try.func5
    (ChangeSpec.witness6 (enc := enc) (C := Try.checked) false ⟨#[], #[.agg (Array.replicate 32 (.int .u8 0)), .agg (Array.replicate 32 (.int .u8 0))], []⟩ 8 (by kernel_rfl) (by kernel_rfl) (by kernel_rfl) (by kernel_rfl)) ?_
  intro W base args ds gs before hval0 hW hcnd _
  have hval : ∀ (j : Nat) t v, Try.f5.params[j]? = some t → args[j]? = some v → Value.okWide Try.prog W .any base t v := hval0
  have hW' := hW
  obtain ⟨p, q, hA0, hV, rfl, hfz, hnd⟩ := hW
  have hA : DataW.TrodAll enc Try.prog W 0 (fun _ => true) true Try.f5.params.toList args.toList ds p := hA0
  rw [Try.params5] at hA hval
  obtain ⟨v0, vs0, d0, ds0, p0, q0, hargs, rfl, rfl, h0, r0⟩ := trodAll_cons hA
  obtain ⟨v1, vs1, d1, ds1, p1, q1, rfl, rfl, rfl, h1, r1⟩ := trodAll_cons r0
  obtain ⟨rfl, rfl, rfl⟩ := trodAll_nil r1
  obtain rfl : args = #[v0, v1] := by cases args; simp_all
  obtain ⟨rfl, rfl⟩ := trodVars_none hV
  obtain ⟨c0, rfl, hsz0, _⟩ : ∃ cs, v0 = .agg cs ∧ cs.size = Try.prog.cellsOf 24 ∧ Row.okWide Try.prog W .any base 24 cs := by
    have := hval 0 24 v0 rfl rfl
    simpa [Value.okWide, Try.underlying24] using this
  have k0 := h0
  have lt0 : ∀ x ∈ p0, x.block < W.heap.size := by obtain ⟨m, hm⟩ := k0; exact DataW.trod_lt m _ _ _ hm
  obtain ⟨fuel0, hf0⟩ := h0
  obtain ⟨bs0, hl0, he0, hd0⟩ := open_bytes Try.underlying24 Try.underlying5 (by kernel_rfl) (by kernel_rfl) hf0
  have hc0 : c0 = (bs0.map (Value.int .u8)).toArray := by
    apply Array.ext'
    simpa [Value.cells] using he0
  subst hc0
  obtain ⟨c1, rfl, hsz1, _⟩ : ∃ cs, v1 = .agg cs ∧ cs.size = Try.prog.cellsOf 24 ∧ Row.okWide Try.prog W .any base 24 cs := by
    have := hval 1 24 v1 rfl rfl
    simpa [Value.okWide, Try.underlying24] using this
  have k1 := h1
  have lt1 : ∀ x ∈ p1, x.block < W.heap.size := by obtain ⟨m, hm⟩ := k1; exact DataW.trod_lt m _ _ _ hm
  obtain ⟨fuel1, hf1⟩ := h1
  obtain ⟨bs1, hl1, he1, hd1⟩ := open_bytes Try.underlying24 Try.underlying5 (by kernel_rfl) (by kernel_rfl) hf1
  have hc1 : c1 = (bs1.map (Value.int .u8)).toArray := by
    apply Array.ext'
    simpa [Value.cells] using he1
  subst hc1
  clear hA0 hval0
  refine (walk bs0 bs1 hl0 hd0 hl1 hd1 W).mono fun e W' ⟨he, bel⟩ => ?_
  subst he
  exact ⟨_, rfl, _, _, _, [], _, [], hW', trodAll_mk1 (shut_bool Try.underlying4 _), (trodAll_cons_mk (Below.trod laidOut (by kernel_rfl) (of_decide_eq_true (by kernel_rfl)) k0 bel lt0) (trodAll_cons_mk (Below.trod laidOut (by kernel_rfl) (of_decide_eq_true (by kernel_rfl)) k1 bel lt1) trodAll_mk0)), rfl, bel.frame _, fun h => by cases h⟩

theorem over : Rows.fnSignatureBytesRow.holds Try.pinned (OpenSpec.ofChange Rows.fnSignatureBytesSpec) :=
  OpenClaim.holds_of_wide 5 Try.f5 rfl rfl rfl rfl rfl rfl rfl ⟨rfl, rfl, rfl, rfl, rfl⟩ rfl rfl rfl rfl rfl (by kernel_rfl) Try.func5 (by kernel_rfl)
    (of_decide_eq_true (by kernel_rfl)) (by unfold Func.isWrapper; first | (rw [if_pos (by decide +kernel)]; kernel_rfl) | (rw [if_neg (by decide +kernel)]; exact ⟨rfl, rfl⟩))
    (fun os started H enc _ => lifted os started H enc)

theorem proved : Rows.FnSignatureBytesSaid := over
#print axioms proved
end Go.Proofs.Ytfeancgmmonebaa.fnSignatureBytesDone
