/-
  FnScalarSet returns true at every input, and its input reads as before. Conditions: none.
-/
import Derived.Test.YtbffnmoklpapiaaSzh
namespace Go.Proofs.Ytbffnmoklpapiaa.fnScalarSetDone
open Go Go.Proofs Go.ChangeShapes Go.WideShapes Go.ChangeAt Go.RowKit Go.Proofs.Ytbffnmoklpapiaa.Sx
set_option linter.unusedVariables false

theorem own : ownKnob Try.prog.godebug = none := by kernel_rfl
theorem laidOut : laidOutB Try.prog = true := by kernel_rfl

theorem walk (bs0 : List Int) (hl0 : bs0.length = 32) (hd0 : Dg 8 bs0) (w : World) :
    Calls Try.prog 4 #[.agg (bs0.map (Value.int .u8)).toArray] w fun e w' => e = .returned (.bool true) ∧ Below w.heap.size w w' := by
  have h := calls_true m_fnsset (by kernel_rfl) (base := bs0) (by simp only [hl0]; rfl) rfl (hd0) rfl rfl rfl w
  obtain ⟨a0, a1, a2, a3, a4, a5, a6, a7, a8, a9, a10, a11, a12, a13, a14, a15, a16, a17, a18, a19, a20, a21, a22, a23, a24, a25, a26, a27, a28, a29, a30, a31, rfl⟩ := len32 hl0
  exact h

set_option maxRecDepth 100000 in
theorem lifted (os : Os) (started : os.Started) (H : Type) (enc : TypeId × Value → H) :
    ReturnsInHanded {} Try.checked os 4 .any (Rows.fnScalarSetSpec.pre6 enc Try.prog Try.f4 Rows.fnScalarSetRow.domain false) (Rows.fnScalarSetSpec.post enc Try.prog Try.f4 false true false false) := by
  refine returnsInHanded_of_change (C := Try.checked) own started (by kernel_rfl) Try.func4
    (ChangeSpec.witness6 (enc := enc) (C := Try.checked) false ⟨#[], #[.agg (Array.replicate 32 (.int .u8 0))], []⟩ 8 (by kernel_rfl) (by kernel_rfl) (by kernel_rfl) (by kernel_rfl)) ?_
  intro W base args ds gs before hval0 hW hcnd _
  have hval : ∀ (j : Nat) t v, Try.f4.params[j]? = some t → args[j]? = some v → Value.okWide Try.prog W .any base t v := hval0
  have hW' := hW
  obtain ⟨p, q, hA0, hV, rfl, hfz, hnd⟩ := hW
  have hA : DataW.TrodAll enc Try.prog W 0 (fun _ => true) true Try.f4.params.toList args.toList ds p := hA0
  rw [Try.params4] at hA hval
  obtain ⟨v0, vs0, d0, ds0, p0, q0, hargs, rfl, rfl, h0, r0⟩ := trodAll_cons hA
  obtain ⟨rfl, rfl, rfl⟩ := trodAll_nil r0
  obtain rfl : args = #[v0] := by cases args; simp_all
  obtain ⟨rfl, rfl⟩ := trodVars_none hV
  obtain ⟨c0, rfl, hsz0, _⟩ : ∃ cs, v0 = .agg cs ∧ cs.size = Try.prog.cellsOf 24 ∧ Row.okWide Try.prog W .any base 24 cs := by
    have := hval 0 24 v0 rfl rfl
    simpa [Value.okWide, Try.underlying24] using this
  have k0 := h0
  have lt0 : ∀ x ∈ p0, x.block < W.heap.size := by obtain ⟨m, hm⟩ := k0; exact DataW.trod_lt m _ _ _ hm
  obtain ⟨fuel0, hf0⟩ := h0
  obtain ⟨bs0, hl0, he0, hd0⟩ := open_bytes Try.underlying24 Try.underlying5 (by kernel_rfl) (by kernel_rfl) hf0
  have hc0 : c0 = (bs0.map (Value.int .u8)).toArray := by
    apply Array.ext'
    simpa [Value.cells] using he0
  subst hc0
  clear hA0 hval0
  refine (walk bs0 hl0 hd0 W).mono fun e W' ⟨he, bel⟩ => ?_
  subst he
  exact ⟨_, rfl, _, _, _, [], _, [], hW', trodAll_mk1 (shut_bool Try.underlying4 _), (trodAll_cons_mk (Below.trod laidOut (by kernel_rfl) (of_decide_eq_true (by kernel_rfl)) k0 bel lt0) trodAll_mk0), rfl, bel.frame _, fun h => by cases h⟩

theorem over : Rows.fnScalarSetRow.holds Try.pinned (OpenSpec.ofChange Rows.fnScalarSetSpec) :=
  OpenClaim.holds_of_wide 4 Try.f4 rfl rfl rfl rfl rfl rfl rfl ⟨rfl, rfl, rfl, rfl, rfl⟩ rfl rfl rfl rfl rfl (by kernel_rfl) Try.func4 (by kernel_rfl)
    (of_decide_eq_true (by kernel_rfl)) (by unfold Func.isWrapper; first | (rw [if_pos (by decide +kernel)]; kernel_rfl) | (rw [if_neg (by decide +kernel)]; exact ⟨rfl, rfl⟩))
    (fun os started H enc _ => lifted os started H enc)

theorem proved : Rows.FnScalarSetSaid := over
#print axioms proved
end Go.Proofs.Ytbffnmoklpapiaa.fnScalarSetDone
