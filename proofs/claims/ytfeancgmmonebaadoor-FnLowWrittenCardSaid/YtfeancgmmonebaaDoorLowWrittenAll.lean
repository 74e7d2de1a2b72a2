/-
  The tied card of FnLowWritten: it returns true at every input, and its input reads as before. Conditions: the four listed variables hold what the program's text lays.
-/
import Derived.Test.YtfeancgmmonebaaDoorMh
import Derived.Test.YtfeancgmmonebaaDoorMgv
import Derived.Test.YtfeancgmmonebaaDoorTie
import Derived.Test.YtfeancgmmonebaaDoorCards
import Derived.ChangeSlices
import Derived.ChangeSame
import Derived.ChangeVars
import Derived.JoinedOf
import Derived.LaidLaws
import Derived.LaidHandle
import Derived.MakeChecks
import Derived.Stop.LaidErr
import Derived.Stop.Joined
import Derived.SevenTiedAt
namespace Go.Proofs.YtfeancgmmonebaaDoor.fnLowWrittenDone
open Go Go.Proofs Go.ChangeShapes Go.WideShapes Go.ChangeAt Go.RowKit Go.Proofs.YtfeancgmmonebaaDoor.Sx
set_option linter.unusedVariables false

theorem own : ownKnob Tryd.prog.godebug = none := by kernel_rfl
theorem laidOut : laidOutB Tryd.prog = true := by kernel_rfl

/-- The first listed variable holds an interface value that is not nil. -/
theorem head_iface {P : Program} {n nm : String} {d : DataW Unit} {r : List (String × DataW Unit)} {W : World} {g : Nat} {ti : TypeId} {ms : Array (String × TypeId)} (h : laidMet P ((n, .iface nm d) :: r) W)
    (hg : P.globalNamed n = some g) (ht : (P.globals[g]?).map (·.type) = some ti) (hi : P.underlying ti = some (.interface ms)) : ∃ t v, W.cell? ⟨g, 0, none⟩ = some (.iface t v) := by
  obtain ⟨ps, ⟨g0, t0, cs0, f0, p0, q0, hg0, ht0, hv0, hd0, _, _⟩, _, _⟩ := h
  obtain rfl := Option.some.inj (hg.symm.trans hg0)
  obtain rfl := Option.some.inj (ht.symm.trans ht0)
  obtain ⟨f1, u, v, hl, _⟩ := iface_of_trod hi hd0
  refine ⟨u, v, ?_⟩
  rw [World.var?_cell hg0 hv0 0]
  obtain ⟨l0⟩ := cs0
  have hl' : l0 = [.iface u v] := hl
  subst hl'
  rfl

theorem errs_of_laid {W : World} (hL : laidMetH Tryd.prog Rows.fnLowWrittenRow.laid W) : ErrVars W := by
  have h : laidMet Tryd.prog Rows.fnLowWrittenRow.laid W := by rwa [MakeChecks.laidMetH_plain _ _ _ (by kernel_rfl)] at hL
  exact ⟨head_iface (h.tail.tail) (by kernel_rfl : Tryd.prog.globalNamed _ = some 0) (by kernel_rfl) Tryd.underlying43, head_iface (h) (by kernel_rfl : Tryd.prog.globalNamed _ = some 2) (by kernel_rfl) Tryd.underlying43, head_iface (h.tail) (by kernel_rfl : Tryd.prog.globalNamed _ = some 3) (by kernel_rfl) Tryd.underlying43⟩

abbrev letters0 : ByteArray := { data := #[118, 97, 108, 117, 101, 32, 109, 97, 121, 32, 98, 101, 32, 105, 110, 116, 101, 114, 112, 114, 101, 116, 101, 100, 32, 97, 115, 32, 110, 101, 103, 97, 116, 105, 118, 101] }
abbrev letters1 : ByteArray := { data := #[118, 97, 108, 117, 101, 32, 105, 115, 32, 101, 120, 99, 101, 115, 115, 105, 118, 101, 108, 121, 32, 112, 97, 100, 100, 101, 100] }
abbrev letters2 : ByteArray := { data := #[110, 111, 110, 45, 99, 97, 110, 111, 110, 105, 99, 97, 108, 32, 115, 105, 103, 110, 97, 116, 117, 114, 101, 58, 32, 83, 32, 118, 97, 108, 117, 101, 32, 110, 111, 116, 32, 105, 110, 32, 108, 111, 119, 45, 83, 32, 102, 111, 114, 109] }
abbrev letters3 : ByteArray := { data := #[109, 97, 108, 102, 111, 114, 109, 101, 100, 32, 115, 105, 103, 110, 97, 116, 117, 114, 101, 58, 32, 110, 111, 32, 104, 101, 97, 100, 101, 114, 32, 109, 97, 103, 105, 99] }

noncomputable def low : Nat := (World.holding Tryd.prog default ⟨#[], #[], []⟩).heap.size

/-- A world that meets the condition: the settled one, the listed variables' cells laid. -/
noncomputable def laidWorld (os : Os) : World :=
  let w0 := World.holding Tryd.prog os ⟨#[.cells #[.string letters0] 89, .cells #[.string letters1] 89, .cells #[.string letters2] 89, .cells #[.string letters3] 89], #[], []⟩
  { w0 with heap := ((((w0.heap.modify 2 fun
      | .cells _ t frozen => .cells #[.iface 87 (.pointer (some ⟨low + 0, 0, none⟩))] t frozen
      | o => o).modify 3 fun
      | .cells _ t frozen => .cells #[.iface 87 (.pointer (some ⟨low + 1, 0, none⟩))] t frozen
      | o => o).modify 0 fun
      | .cells _ t frozen => .cells #[.iface 87 (.pointer (some ⟨low + 2, 0, none⟩))] t frozen
      | o => o).modify 1 fun
      | .cells _ t frozen => .cells #[.iface 87 (.pointer (some ⟨low + 3, 0, none⟩))] t frozen
      | o => o) }

theorem laidWorld_met (os : Os) (args : Array Value) : laidMetH Tryd.prog Rows.fnLowWrittenRow.laid ((laidWorld os).forCall (fun _ _ => 0) ⟨#[], args, []⟩).memory := by
  rw [MakeChecks.laidMetH_plain _ _ _ (by kernel_rfl)]
  exact laidMet_of_run' 8 (by kernel_rfl) (by kernel_rfl)

/-- A slice of bytes, opened: what it reads as, nil let in. -/
theorem open_slice {H : Type} {enc : TypeId × Value → H} {P : Program} {W : World} {fuel : Nat} {t u : TypeId} {cs : List Value} {x : DataW H × List MemPlace} (ht : P.underlying t = some (.slice u)) (hu : P.underlying u = some (.int .u8)) (hc : P.cellsOf u = 1)
    (h : DataW.trod enc P W 0 (fun _ => true) true fuel t cs = some x) :
    ∃ (A : Option Addr) (n c : Nat) (bs : List Int), cs = [.slice A n c] ∧ n ≤ 9223372036854775807 ∧ n ≤ c ∧ Reads W W.heap.size A n (bs.map (Value.int .u8)) ∧ Dg 8 bs := by
  rcases open_ints ht hu hc h with ⟨rfl, rfl⟩ | ⟨a, len, cap, zs, rfl, _, hlc, hcm, hlen, hx, hcell, hwf⟩
  · exact ⟨none, 0, 0, [], rfl, by omega, by omega, ⟨rfl, fun h => absurd h (by omega)⟩, fun y hy => by cases hy⟩
  · have hlen : zs.length = cap := by simpa using hlen
    unfold maxLen at hcm
    refine ⟨some a, len, cap, zs.take len, rfl, by omega, hlc, ⟨by simp; omega, fun h0 => ⟨a, rfl, ?_, ?_⟩⟩, ?_⟩
    · have h2 := hcell 0 (by omega)
      exact World.block_lt_of_cell? _ _ (by rw [show a.add 0 = a by unfold Addr.add; simp] at h2; exact h2)
    · intro j v hj
      rw [List.getElem?_map, Option.map_eq_some_iff] at hj
      obtain ⟨z, hz, rfl⟩ := hj
      rw [List.getElem?_take] at hz
      split at hz
      · rename_i hjl
        rw [hcell j (by omega), List.getD, hz]
        rfl
      · cases hz
    · intro z hz
      have := bounds_u8 (hwf z (List.mem_of_mem_take hz))
      exact ⟨this.1, by omega⟩

set_option maxRecDepth 100000 in
theorem lifted (os : Os) (started : os.Started) (H : Type) (enc : TypeId × Value → H) :
    ReturnsInHanded {} Tryd.checked os 4 .any (fun w args => (Rows.fnLowWrittenSpec.pre enc Tryd.prog Tryd.f4 Rows.fnLowWrittenRow.domain false w args ∧ laidMetH Tryd.prog Rows.fnLowWrittenRow.laid w) ∧ sizedMet enc Tryd.prog Tryd.f4 (OpenSpec.ofChange Rows.fnLowWrittenSpec) false w args)
      (Rows.fnLowWrittenSpec.post enc Tryd.prog Tryd.f4 false true false false) := by
  refine returnsInHanded_of_change_and (C := Tryd.checked) (X := fun w _ => laidMetH Tryd.prog Rows.fnLowWrittenRow.laid w) (fun _ _ _ hh h => h.of_heap hh) own started (by kernel_rfl) Tryd.func4
    (ChangeSpec.witness_at (enc := enc) (C := Tryd.checked) (os := os) (X := fun w _ => laidMetH Tryd.prog Rows.fnLowWrittenRow.laid w) false (laidWorld os) #[.slice none 0 0] 8 rfl (by kernel_rfl) (by kernel_rfl) (by kernel_rfl) (by kernel_rfl) (by kernel_rfl) (laidWorld_met os _)) ?_
  intro W base args ds gs before hval0 hW hcnd _ hL _
  have hval : ∀ (j : Nat) t v, Tryd.f4.params[j]? = some t → args[j]? = some v → Value.okWide Tryd.prog W .any base t v := hval0
  have hW' := hW
  obtain ⟨p, q, hA0, hV, rfl, hfz, hnd⟩ := hW
  have hA : DataW.TrodAll enc Tryd.prog W 0 (fun _ => true) true Tryd.f4.params.toList args.toList ds p := hA0
  rw [Tryd.params4] at hA hval
  obtain ⟨v0, vs0, d0, ds0, p0, q0, hargs, rfl, rfl, h0, r0⟩ := trodAll_cons hA
  obtain ⟨rfl, rfl, rfl⟩ := trodAll_nil r0
  obtain rfl : args = #[v0] := by cases args; simp_all
  obtain ⟨rfl, rfl⟩ := trodVars_none hV
  have k0 := h0
  have lt0 : ∀ x ∈ p0, x.block < W.heap.size := by obtain ⟨m, hm⟩ := k0; exact DataW.trod_lt m _ _ _ hm
  obtain ⟨fuel0, hf0⟩ := h0
  obtain ⟨A, n, c, bs, hcs, hm, hc, hr, hd⟩ := open_slice Tryd.underlying22 Tryd.underlying5 (by kernel_rfl) hf0
  obtain rfl : v0 = .slice A n c := by
    obtain ⟨a1, l1, c1, rfl⟩ := okWide_slice Tryd.underlying22 (hval 0 22 v0 rfl rfl)
    simpa [Value.cells] using hcs
  clear hA0 hval0
  refine (law_lowwritten n c bs A W hm hc hr hd (errs_of_laid hL)).mono fun e W' ⟨he, bel⟩ => ?_
  subst he
  exact ⟨_, rfl, _, _, _, [], _, [], hW', trodAll_mk1 (shut_bool Tryd.underlying4 _), (trodAll_cons_mk (Below.trod laidOut (by kernel_rfl) (of_decide_eq_true (by kernel_rfl)) k0 bel lt0) trodAll_mk0), rfl, bel.frame _, fun h => by cases h⟩

theorem over : Rows.FnLowWrittenSaid :=
  OpenClaim.holds_of_wide 4 Tryd.f4 rfl rfl rfl rfl rfl rfl rfl ⟨rfl, rfl, rfl, rfl, rfl⟩ rfl rfl rfl rfl rfl (by kernel_rfl) Tryd.func4 (by kernel_rfl)
    (of_decide_eq_true (by kernel_rfl)) (by unfold Func.isWrapper; first | (rw [if_pos (by decide +kernel)]; kernel_rfl) | (rw [if_neg (by decide +kernel)]; exact ⟨rfl, rfl⟩))
    (fun os started H enc _ => lifted os started H enc)

theorem proved : Rows.FnLowWrittenCardSaid :=
  Claim7.holds_tied_plain_at .later [] [.sentinel, .sentinel, .sentinel, .sentinel] true (true, "11b05783217bf217621530983181e20be5dfaf02b183889e80edcf319b6b4b84") true
    over (fun _ h => by cases h) (by kernel_rfl) (fun _ h => by cases h) fnLowWritten_row_tie rfl ⟨rfl, rfl⟩ (by kernel_rfl) rfl
    (fun f fn hf hfn => by
      obtain rfl : f = 4 := Option.some.inj (hf.symm.trans (by kernel_rfl))
      obtain rfl : fn = Tryd.f4 := (Option.some.inj (Tryd.func4.symm.trans hfn)).symm
      exact ⟨by kernel_rfl, fun j t ht => by
        rw [Tryd.params4] at ht
        have h3 : t = 22 := by
          rcases j with _ | j
          · simpa using ht.symm
          · simp at ht
        subst h3
        exact (show Tryd.prog.wantsStandIn 22 = false by kernel_rfl)⟩)
    (by kernel_rfl)
#print axioms proved
end Go.Proofs.YtfeancgmmonebaaDoor.fnLowWrittenDone
