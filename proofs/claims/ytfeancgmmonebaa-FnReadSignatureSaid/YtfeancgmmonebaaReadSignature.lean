/-
  FnReadSignature returns true at every input, and its input reads as before. Conditions: none.
-/
import Derived.Test.YtfeancgmmonebaaSwr
import Derived.Test.YtfeancgmmonebaaSzh
import Derived.ChangeSlices
namespace Go.Proofs.Ytfeancgmmonebaa.fnReadSignatureDone
open Go Go.Proofs Go.ChangeShapes Go.WideShapes Go.ChangeAt Go.RowKit Go.Proofs.Ytfeancgmmonebaa.Sx
set_option linter.unusedVariables false

theorem own : ownKnob Try.prog.godebug = none := by kernel_rfl
theorem laidOut : laidOutB Try.prog = true := by kernel_rfl

/-- A slice of bytes, opened: what it reads as, nil let in. -/
theorem open_slice {H : Type} {enc : TypeId × Value → H} {P : Program} {W : World} {fuel : Nat} {t u : TypeId} {cs : List Value} {x : DataW H × List MemPlace} (ht : P.underlying t = some (.slice u)) (hu : P.underlying u = some (.int .u8)) (hc : P.cellsOf u = 1)
    (h : DataW.trod enc P W 0 (fun _ => true) true fuel t cs = some x) :
    ∃ (A : Option Addr) (n c : Nat) (bs : List Int), cs = [.slice A n c] ∧ n ≤ 9223372036854775807 ∧ n ≤ c ∧ Reads W W.heap.size A n (bs.map (Value.int .u8)) ∧ Dg 8 bs := by
  rcases open_ints ht hu hc h with ⟨rfl, rfl⟩ | ⟨a, len, cap, zs, rfl, _, hlc, hcm, hlen, hx, hcell, hwf⟩
  · exact ⟨none, 0, 0, [], rfl, by omega, by omega, ⟨rfl, fun h => absurd h (by omega)⟩, fun y hy => by cases hy⟩
  · have hlen : zs.length = cap := by simpa using hlen
    unfold maxLen at hcm
    refine ⟨some a, len, cap, zs.take len, rfl, by omega, hlc, ⟨by simp; omega, fun h0 => ⟨a, rfl, ?_, ?_⟩⟩, ?_⟩
    · have h2 := hcell 0 (by omega)
      exact World.block_lt_of_cell? _ _ (by rw [show a.add 0 = a by unfold Addr.add; simp] at h2; exact h2)
    · intro j v hj
      rw [List.getElem?_map, Option.map_eq_some_iff] at hj
      obtain ⟨z, hz, rfl⟩ := hj
      rw [List.getElem?_take] at hz
      split at hz
      · rename_i hjl
        rw [hcell j (by omega), List.getD, hz]
        rfl
      · cases hz
    · intro z hz
      have := bounds_u8 (hwf z (List.mem_of_mem_take hz))
      exact ⟨this.1, by omega⟩

set_option maxRecDepth 100000 in
theorem lifted (os : Os) (started : os.Started) (H : Type) (enc : TypeId × Value → H) :
    ReturnsInHanded {} Try.checked os 4 .any (Rows.fnReadSignatureSpec.pre6 enc Try.prog Try.f4 Rows.fnReadSignatureRow.domain false) (Rows.fnReadSignatureSpec.post enc Try.prog Try.f4 false true false false) := by
  refine returnsInHanded_of_change (C := Try.checked) own started (by kernel_rfl) Try.func4
    (ChangeSpec.witness6 (enc := enc) (C := Try.checked) false ⟨#[], #[.slice none 0 0], []⟩ 8 (by kernel_rfl) (by kernel_rfl) (by kernel_rfl) (by kernel_rfl)) ?_
  intro W base args ds gs before hval0 hW hcnd _
  have hval : ∀ (j : Nat) t v, Try.f4.params[j]? = some t → args[j]? = some v → Value.okWide Try.prog W .any base t v := hval0
  have hW' := hW
  obtain ⟨p, q, hA0, hV, rfl, hfz, hnd⟩ := hW
  have hA : DataW.TrodAll enc Try.prog W 0 (fun _ => true) true Try.f4.params.toList args.toList ds p := hA0
  rw [Try.params4] at hA hval
  obtain ⟨v0, vs0, d0, ds0, p0, q0, hargs, rfl, rfl, h0, r0⟩ := trodAll_cons hA
  obtain ⟨rfl, rfl, rfl⟩ := trodAll_nil r0
  obtain rfl : args = #[v0] := by cases args; simp_all
  obtain ⟨rfl, rfl⟩ := trodVars_none hV
  have k0 := h0
  have lt0 : ∀ x ∈ p0, x.block < W.heap.size := by obtain ⟨m, hm⟩ := k0; exact DataW.trod_lt m _ _ _ hm
  obtain ⟨fuel0, hf0⟩ := h0
  obtain ⟨A, n, c, bs, hcs, hm, hc, hr, hd⟩ := open_slice Try.underlying22 Try.underlying5 (by kernel_rfl) hf0
  obtain rfl : v0 = .slice A n c := by
    obtain ⟨a1, l1, c1, rfl⟩ := okWide_slice Try.underlying22 (hval 0 22 v0 rfl rfl)
    simpa [Value.cells] using hcs
  clear hA0 hval0
  refine (law_readsig n c bs A W hm hc hr hd).mono fun e W' ⟨he, bel⟩ => ?_
  subst he
  exact ⟨_, rfl, _, _, _, [], _, [], hW', trodAll_mk1 (shut_bool Try.underlying4 _), (trodAll_cons_mk (Below.trod laidOut (by kernel_rfl) (of_decide_eq_true (by kernel_rfl)) k0 bel lt0) trodAll_mk0), rfl, bel.frame _, fun h => by cases h⟩

theorem over : Rows.fnReadSignatureRow.holds Try.pinned (OpenSpec.ofChange Rows.fnReadSignatureSpec) :=
  OpenClaim.holds_of_wide 4 Try.f4 rfl rfl rfl rfl rfl rfl rfl ⟨rfl, rfl, rfl, rfl, rfl⟩ rfl rfl rfl rfl rfl (by kernel_rfl) Try.func4 (by kernel_rfl)
    (of_decide_eq_true (by kernel_rfl)) (by unfold Func.isWrapper; first | (rw [if_pos (by decide +kernel)]; kernel_rfl) | (rw [if_neg (by decide +kernel)]; exact ⟨rfl, rfl⟩))
    (fun os started H enc _ => lifted os started H enc)

theorem proved : Rows.FnReadSignatureSaid := over
#print axioms proved
end Go.Proofs.Ytfeancgmmonebaa.fnReadSignatureDone
