/-
  What is left of a function's body, run symbolically from a frame of which some slots are known. Conditions: none; each theorem bears its own.
-/
import Derived.Test.YtfeancgmmonebaaSxj
namespace Go.Proofs.Ytfeancgmmonebaa.Sx
open Go

/-- What is known at a place in the body: how many numbers, the frame's size, some slots, some objects. -/
structure Tail where
  n : Nat
  nt : Nat
  slots : List (Nat × SV)
  mem : List SO

def setSlots : List (Nat × SV) → Tr SV → Tr SV
  | [], t => t
  | p :: r, t => setSlots r (Tr.set 20 t p.1 (some p.2))

theorem setSlots_get : ∀ (l : List (Nat × SV)) (t : Tr SV) (m : Nat) (y : SV), (setSlots l t).get m = some y → (m, y) ∈ l ∨ t.get m = some y
  | [], _, _, _, h => .inr h
  | p :: r, t, m, y, h => by
    rcases setSlots_get r _ m y h with h1 | h1
    · exact .inl (List.mem_cons_of_mem _ h1)
    · rcases Tr.get_set _ _ _ _ _ _ h1 with ⟨rfl, e⟩ | ⟨_, h2⟩
      · cases e
        exact .inl List.mem_cons_self
      · exact .inr h2

def Tail.st (t : Tail) : St := { nt := t.nt, tm := setSlots t.slots .nil, mem := t.mem, n := t.n, defs := [], asm := [] }

def Tail.ok (t : Tail) : Bool := t.slots.all (fun p => p.2.ok t.n t.mem.length) && t.mem.all (fun so => so.cells.all (SC.ok t.n t.mem.length))

/-- The slots hold what is said. -/
def slotsOk (ρ : En) (tmps : Array Value) : List (Nat × SV) → Prop
  | [] => True
  | p :: r => tmps[p.1]? = some (p.2.den ρ) ∧ slotsOk ρ tmps r

theorem slotsOk_mem {ρ : En} {tmps : Array Value} : ∀ {l : List (Nat × SV)} {p : Nat × SV}, slotsOk ρ tmps l → p ∈ l → tmps[p.1]? = some (p.2.den ρ)
  | q :: r, p, h, hp => by
    rcases List.mem_cons.1 hp with rfl | hp
    · exact h.1
    · exact slotsOk_mem h.2 hp

theorem Tail.relA {Γ : List Entry} {t : Tail} (hok : t.ok = true) {base : List Int} {bs : List (Nat × Nat)} (hb : base.length = t.n) (hbs : bs.length = t.mem.length) {a : Act} (ha : a.tmps.size = t.nt) (hd : a.defers = [])
    (hs : slotsOk ⟨base, bs⟩ a.tmps t.slots) : RelA Γ base ⟨base, bs⟩ t.st a := by
  simp only [Tail.ok, Bool.and_eq_true] at hok
  refine ⟨rfl, hb, hbs, ha, hd, ?_, (fun c hc => by cases hc), (fun c hc => by cases hc)⟩
  intro i sv hi
  rcases setSlots_get _ _ _ _ hi with h | h
  · exact ⟨List.all_eq_true.1 hok.1 _ h, slotsOk_mem hs h⟩
  · simp [Tr.get] at h

theorem Tail.relM {t : Tail} (hok : t.ok = true) {base : List Int} {bs : List (Nat × Nat)} {w : World} (hm : MemOk w ⟨base, bs⟩ t.mem) (hd : Dis ⟨base, bs⟩ t.mem) : RelM (WOf ⟨base, bs⟩ t.mem) w bs ⟨base, bs⟩ t.st w := by
  simp only [Tail.ok, Bool.and_eq_true] at hok
  exact ⟨hm, fun o so ho => List.all_eq_true.1 hok.2 so (List.mem_of_getElem? ho), hd, fun o so ho hw => .inr fun j hj => ⟨o, so, ho, hw, rfl, by omega, by omega⟩, Fr.refl _ _, [], by simp⟩

/-- Results by their shapes, the numbers from the n-th on. -/
def resSh : Nat → List RSh → List S1
  | n, .int k :: r => .sc (.int k (.var n)) :: resSh (n + 1) r
  | n, .bool :: r => .sc (.bool (.var n)) :: resSh (n + 1) r
  | n, .agg ks :: r => .agg (kcells n ks) :: resSh (n + ks.length) r
  | _, _ => []

def outsOf : List S1 → List SI
  | [] => []
  | v :: r => siOf v.cells ++ outsOf r

def tailPath (P : Program) (rs : List ResultVar) (res : List RSh) (s : St) : Option Path :=
  match resAll P s rs with
  | none => none
  | some vs =>
    let outs := outsOf vs
    let τ : Sub := ⟨outs, s.n, [], s.mem.length⟩
    if outs.all (SI.ok s.n) && lbeq S1.beq ((resSh 0 res).map τ.s1) vs then some ⟨s.defs, s.asm, outs⟩ else none

def tailPaths (P : Program) (rs : List ResultVar) (res : List RSh) : List (EK × St) → Option (List Path)
  | [] => some []
  | (.exit _, _) :: _ => none
  | (_, s) :: r => match tailPath P rs res s, tailPaths P rs res r with
    | some p, some ps => some (p :: ps)
    | _, _ => none

def tailRun (P : Program) (Γ : List Entry) (t : Tail) (c : Code) (rs : List ResultVar) (res : List RSh) : Option (List Need × List Path) :=
  if t.ok then
    match exec P Γ 4000 c t.st with
    | some (nds, outs) => match tailPaths P rs res outs with
      | some ps => some (nds, ps)
      | none => none
    | none => none
  else none

theorem tailPaths_spec {P : Program} {rs : List ResultVar} {res : List RSh} : ∀ {outs : List (EK × St)} {ps : List Path}, tailPaths P rs res outs = some ps → ∀ x ∈ outs, (x.1 = .normal ∨ x.1 = .ret) ∧ ∃ p ∈ ps, tailPath P rs res x.2 = some p
  | [], _, _, x, hx => by cases hx
  | (ek, s) :: r, ps, h, x, hx => by
    have key : ∀ (hne : ek = .normal ∨ ek = .ret), (match tailPath P rs res s, tailPaths P rs res r with | some p, some ps => some (p :: ps) | _, _ => none) = some ps →
        (x.1 = .normal ∨ x.1 = .ret) ∧ ∃ p ∈ ps, tailPath P rs res x.2 = some p := by
      intro hne h
      split at h
      · rename_i p ps' h1 h2
        cases h
        rcases List.mem_cons.1 hx with rfl | hx
        · exact ⟨hne, p, List.mem_cons_self, h1⟩
        · obtain ⟨g1, q, g2, g3⟩ := tailPaths_spec h2 x hx
          exact ⟨g1, q, List.mem_cons_of_mem _ g2, g3⟩
      · cases h
    cases ek with
    | normal => exact key (.inl rfl) h
    | ret => exact key (.inr rfl) h
    | exit id => cases h

def retDen (l : List Value) : Value := if h : l.length = 1 then l[0]'(by omega) else .tuple l.toArray

/-- The result by its shapes and numbers. -/
def resV (res : List RSh) (xs : List Int) : Value := (retOf (resSh 0 res)).den ⟨xs, []⟩

/-- A path's end. -/
theorem tail_end {P : Program} {Γ : List Entry} {fn : Func} {res : List RSh} {ps : List Path} {outs : List (EK × St)} (hps : tailPaths P fn.results.toList res outs = some ps) {base : List Int} {W : Nat → Nat → Prop} {w : World} {O : List (Nat × Nat)}
    {R : Ending → World → Prop} (hR : ∀ p ∈ ps, asmHolds (runR Γ p.defs base) p.asm → ∀ w', Fr W w w' → R (.returned (resV res (p.outs.map (·.val (runR Γ p.defs base))))) w') :
    ∀ x ∈ outs, ∀ ρ' a' w', RelA Γ base ρ' x.2 a' → RelM W w O ρ' x.2 w' → bodyPost P fn R x.1.ex a' w' := by
  intro x hx ρ' a' w' hA hM
  obtain ⟨hx1, p, hp, hpath⟩ := tailPaths_spec hps x hx
  unfold tailPath at hpath
  split at hpath
  · cases hpath
  rename_i vs hvs
  simp only at hpath
  split at hpath
  case isFalse => cases hpath
  rename_i hc
  cases hpath
  simp only [Bool.and_eq_true] at hc
  have c2 := lbeq_eq S1.beq_eq _ _ hc.2
  generalize hτ : (⟨outsOf vs, x.2.n, [], x.2.mem.length⟩ : Sub) = τ at c2
  have he : ρ'.e.length = τ.n0 := by rw [← hτ]; exact hA.len
  have hoo : ρ'.o.length = τ.m0 := by rw [← hτ]; exact hA.lenO
  have hxx : τ.xs.all (SI.ok τ.n0) = true := by rw [← hτ]; exact hc.1
  have hpp : τ.os.all (fun p => Nat.blt p.1 τ.m0) = true := by rw [← hτ]; rfl
  have hv : vs.map (S1.den ρ') = (resSh 0 res).map (S1.den ⟨(outsOf vs).map (·.val ρ'.e), []⟩) := by
    have key : ∀ v, (τ.s1 v).den ρ' = v.den ⟨(outsOf vs).map (·.val ρ'.e), []⟩ := fun v => by
      have := Sub.s1_den he hoo hxx hpp [] [] v
      simp only [List.append_nil, Sub.env, ← hτ, List.map_nil] at this
      rw [← hτ]
      exact this
    have h1 := congrArg (List.map (S1.den ρ')) c2
    rw [List.map_map] at h1
    rw [← h1]
    exact List.map_congr_left fun v _ => key v
  have hres : (results fn a'.tmps).run P w' = .ok (resV res ((outsOf vs).map (·.val ρ'.e))) w' := by
    rw [results_run hA hM.objs hvs, retOf_den]
    unfold resV
    rw [retOf_den]
    congr 1
    have : retDen (vs.map (S1.den ρ')) = retDen ((resSh 0 res).map (S1.den ⟨(outsOf vs).map (·.val ρ'.e), []⟩)) := congrArg retDen hv
    exact this
  have hr := hR _ hp (by rw [← hA.env]; exact hA.asm) w' hM.fr
  simp only [← hA.env] at hr
  rcases hx1 with e | e <;> rw [e]
  · exact bodyPost_end hres hA.dfr hr
  · exact bodyPost_ret hres hA.dfr hr


theorem tail_sound {P : Program} {Γ : List Entry} (hmix : P.follows .mixedOrders = true) (hΓ : ∀ e ∈ Γ, Meets P e) {t : Tail} {c : Code} {fn : Func} {res : List RSh} {nds : List Need} {ps : List Path}
    (h : tailRun P Γ t c fn.results.toList res = some (nds, ps)) {base : List Int} {bs : List (Nat × Nat)} (hb : base.length = t.n) (hbs : bs.length = t.mem.length) (hn : ∀ nd ∈ nds, nd.holds Γ base) {a : Act} (ha : a.tmps.size = t.nt) (hd : a.defers = [])
    (hs : slotsOk ⟨base, bs⟩ a.tmps t.slots) {w : World} (hm : MemOk w ⟨base, bs⟩ t.mem) (hdis : Dis ⟨base, bs⟩ t.mem) {R : Ending → World → Prop}
    (hR : ∀ p ∈ ps, asmHolds (runR Γ p.defs base) p.asm → ∀ w', Fr (WOf ⟨base, bs⟩ t.mem) w w' → R (.returned (resV res (p.outs.map (·.val (runR Γ p.defs base))))) w') :
    c.wp P (bodyPost P fn R) a w := by
  unfold tailRun at h
  split at h
  case isFalse => cases h
  rename_i hok
  split at h
  case h_2 => cases h
  rename_i nds' outs hex
  split at h
  case h_2 => cases h
  rename_i ps' hps
  simp only [Option.some.injEq, Prod.mk.injEq] at h
  obtain ⟨rfl, rfl⟩ := h
  exact exec_sound hmix hΓ 4000 c _ t.st ⟨base, bs⟩ a w _ outs hex hn (Tail.relA hok hb hbs ha hd hs) (Tail.relM hok hm hdis) (tail_end hps hR)

/-- First some operations of a region, then the code behind it. -/
def tailRunL (P : Program) (Γ : List Entry) (t : Tail) (ops : Array Oper) (rest : List Oper) (c : Code) (rs : List ResultVar) (res : List RSh) : Option (List Need × List Path) :=
  if t.ok then
    match runOps P Γ false ops rest t.st with
    | some (n1, ss) => match thenAll (exec P Γ 4000 c) (ss.map fun s => (.normal, s)) with
      | some (n2, outs) => match tailPaths P rs res outs with
        | some ps => some (n1 ++ n2, ps)
        | none => none
      | none => none
    | none => none
  else none

theorem tail_list {P : Program} {Γ : List Entry} (hmix : P.follows .mixedOrders = true) (hΓ : ∀ e ∈ Γ, Meets P e) {t : Tail} {ops : Array Oper} {rest : List Oper} {c : Code} {fn : Func} {res : List RSh} {nds : List Need} {ps : List Path}
    (h : tailRunL P Γ t ops rest c fn.results.toList res = some (nds, ps)) {base : List Int} {bs : List (Nat × Nat)} (hb : base.length = t.n) (hbs : bs.length = t.mem.length) (hn : ∀ nd ∈ nds, nd.holds Γ base) {a : Act} (ha : a.tmps.size = t.nt) (hd : a.defers = [])
    (hs : slotsOk ⟨base, bs⟩ a.tmps t.slots) {w : World} (hm : MemOk w ⟨base, bs⟩ t.mem) (hdis : Dis ⟨base, bs⟩ t.mem) {R : Ending → World → Prop} {K : Act → World → Prop} (hK : ∀ a w, c.wp P (bodyPost P fn R) a w → K a w)
    (hR : ∀ p ∈ ps, asmHolds (runR Γ p.defs base) p.asm → ∀ w', Fr (WOf ⟨base, bs⟩ t.mem) w w' → R (.returned (resV res (p.outs.map (·.val (runR Γ p.defs base))))) w') :
    wpList P ops (Exit.then K (bodyPost P fn R)) rest a w := by
  unfold tailRunL at h
  split at h
  case isFalse => cases h
  rename_i hok
  split at h
  case h_2 => cases h
  rename_i n1 ss hrun
  split at h
  case h_2 => cases h
  rename_i n2 outs hex
  split at h
  case h_2 => cases h
  rename_i ps' hps
  simp only [Option.some.injEq, Prod.mk.injEq] at h
  obtain ⟨rfl, rfl⟩ := h
  refine runOps_sound hΓ ops rest t.st ⟨base, bs⟩ a w n1 ss hrun (fun nd hnd => hn nd (by simp [hnd])) (Tail.relA hok hb hbs ha hd hs) (Tail.relM hok hm hdis) fun s' hs' ρ' a' w' _ hA hM => ?_
  refine hK _ _ ?_
  rcases thenAll_spec hex (.normal, s') (List.mem_map.2 ⟨s', hs', rfl⟩) with ⟨_, n3, o3, g1, g2, g3⟩ | ⟨hne, _⟩
  · exact exec_sound hmix hΓ 4000 c _ s' ρ' a' w' n3 o3 g1 (fun nd hnd => hn nd (by simp [g2 nd hnd])) hA hM fun x hx => tail_end hps hR x (g3 x hx)
  · exact absurd rfl hne

end Go.Proofs.Ytfeancgmmonebaa.Sx
