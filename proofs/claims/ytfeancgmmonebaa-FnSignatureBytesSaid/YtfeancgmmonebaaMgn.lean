/-
  What is left of a function's body, run symbolically from a frame of which some slots are known. Conditions: none; each theorem bears its own.
-/
import Derived.Test.YtfeancgmmonebaaMgf
import Derived.Test.YtfeancgmmonebaaMgm
import Derived.Maps.AppendAt
namespace Go.Proofs.Ytfeancgmmonebaa.Sx
open Go

/-- What is known at a place in the body: how many numbers, the frame's size, some slots, some objects. -/
structure Tail where
  n : Nat
  nt : Nat
  slots : List (Nat × SV)
  mem : List SO

def setSlots : List (Nat × SV) → Tr SV → Tr SV
  | [], t => t
  | p :: r, t => setSlots r (Tr.set 20 t p.1 (some p.2))

theorem setSlots_get : ∀ (l : List (Nat × SV)) (t : Tr SV) (m : Nat) (y : SV), (setSlots l t).get m = some y → (m, y) ∈ l ∨ t.get m = some y
  | [], _, _, _, h => .inr h
  | p :: r, t, m, y, h => by
    rcases setSlots_get r _ m y h with h1 | h1
    · exact .inl (List.mem_cons_of_mem _ h1)
    · rcases Tr.get_set _ _ _ _ _ _ h1 with ⟨rfl, e⟩ | ⟨_, h2⟩
      · cases e
        exact .inl List.mem_cons_self
      · exact .inr h2

def Tail.st (t : Tail) : St := { nt := t.nt, tm := setSlots t.slots .nil, mem := t.mem, n := t.n, defs := [], asm := [] }

def Tail.ok (t : Tail) : Bool := t.slots.all (fun p => p.2.ok t.n t.mem.length) && t.mem.all (fun so => so.cells.all (SC.ok t.n t.mem.length))

/-- The slots hold what is said. -/
def slotsOk (ρ : En) (tmps : Array Value) : List (Nat × SV) → Prop
  | [] => True
  | p :: r => tmps[p.1]? = some (p.2.den ρ) ∧ slotsOk ρ tmps r

theorem slotsOk_mem {ρ : En} {tmps : Array Value} : ∀ {l : List (Nat × SV)} {p : Nat × SV}, slotsOk ρ tmps l → p ∈ l → tmps[p.1]? = some (p.2.den ρ)
  | q :: r, p, h, hp => by
    rcases List.mem_cons.1 hp with rfl | hp
    · exact h.1
    · exact slotsOk_mem h.2 hp

theorem Tail.relA {Γ : List Entry} {t : Tail} (hok : t.ok = true) {base : List Int} {bs : List (Nat × Nat)} (hb : base.length = t.n) (hbs : bs.length = t.mem.length) {a : Act} (ha : a.tmps.size = t.nt) (hd : a.defers = [])
    (hs : slotsOk ⟨base, bs⟩ a.tmps t.slots) : RelA Γ base ⟨base, bs⟩ t.st a := by
  simp only [Tail.ok, Bool.and_eq_true] at hok
  refine ⟨rfl, hb, hbs, ha, hd, ?_, (fun c hc => by cases hc), (fun c hc => by cases hc)⟩
  intro i sv hi
  rcases setSlots_get _ _ _ _ hi with h | h
  · exact ⟨List.all_eq_true.1 hok.1 _ h, slotsOk_mem hs h⟩
  · simp [Tr.get] at h

theorem Tail.relM {t : Tail} (hok : t.ok = true) {base : List Int} {bs : List (Nat × Nat)} {w : World} (hm : MemOk w ⟨base, bs⟩ t.mem) (hd : Dis ⟨base, bs⟩ t.mem) : RelM (WOf ⟨base, bs⟩ t.mem) w bs ⟨base, bs⟩ t.st w := by
  simp only [Tail.ok, Bool.and_eq_true] at hok
  exact ⟨hm, fun o so ho => List.all_eq_true.1 hok.2 so (List.mem_of_getElem? ho), hd, fun o so ho hw => .inr fun j hj => ⟨o, so, ho, hw, rfl, by omega, by omega⟩, Fr.refl _ _, [], by simp⟩

/-- Results by their shapes, the numbers from the n-th on. -/
def resSh : Nat → List RSh → List S1
  | n, .int k :: r => .sc (.int k (.var n)) :: resSh (n + 1) r
  | n, .bool :: r => .sc (.bool (.var n)) :: resSh (n + 1) r
  | n, .agg ks :: r => .agg (kcells n ks) :: resSh (n + ks.length) r
  | _, _ => []

def outsOf : List S1 → List SI
  | [] => []
  | v :: r => siOf v.cells ++ outsOf r

def tailPath (P : Program) (rs : List ResultVar) (res : List RSh) (s : St) : Option Path :=
  match resAll P s rs with
  | none => none
  | some vs =>
    let outs := outsOf vs
    let τ : Sub := ⟨outs, s.n, [], s.mem.length⟩
    if outs.all (SI.ok s.n) && lbeq S1.beq ((resSh 0 res).map τ.s1) vs then some ⟨s.defs, s.asm, outs⟩ else none

def tailPaths (P : Program) (rs : List ResultVar) (res : List RSh) : List (EK × St) → Option (List Path)
  | [] => some []
  | (.exit _, _) :: _ => none
  | (_, s) :: r => match tailPath P rs res s, tailPaths P rs res r with
    | some p, some ps => some (p :: ps)
    | _, _ => none

def tailRun (P : Program) (Γ : List Entry) (t : Tail) (c : Code) (rs : List ResultVar) (res : List RSh) : Option (List Need × List Path) :=
  if t.ok then
    match exec P Γ 4000 c t.st with
    | some (nds, outs) => match tailPaths P rs res outs with
      | some ps => some (nds, ps)
      | none => none
    | none => none
  else none

theorem tailPaths_spec {P : Program} {rs : List ResultVar} {res : List RSh} : ∀ {outs : List (EK × St)} {ps : List Path}, tailPaths P rs res outs = some ps → ∀ x ∈ outs, (x.1 = .normal ∨ x.1 = .ret) ∧ ∃ p ∈ ps, tailPath P rs res x.2 = some p
  | [], _, _, x, hx => by cases hx
  | (ek, s) :: r, ps, h, x, hx => by
    have key : ∀ (hne : ek = .normal ∨ ek = .ret), (match tailPath P rs res s, tailPaths P rs res r with | some p, some ps => some (p :: ps) | _, _ => none) = some ps →
        (x.1 = .normal ∨ x.1 = .ret) ∧ ∃ p ∈ ps, tailPath P rs res x.2 = some p := by
      intro hne h
      split at h
      · rename_i p ps' h1 h2
        cases h
        rcases List.mem_cons.1 hx with rfl | hx
        · exact ⟨hne, p, List.mem_cons_self, h1⟩
        · obtain ⟨g1, q, g2, g3⟩ := tailPaths_spec h2 x hx
          exact ⟨g1, q, List.mem_cons_of_mem _ g2, g3⟩
      · cases h
    cases ek with
    | normal => exact key (.inl rfl) h
    | ret => exact key (.inr rfl) h
    | exit id => cases h

def retDen (l : List Value) : Value := if h : l.length = 1 then l[0]'(by omega) else .tuple l.toArray

/-- The result by its shapes and numbers. -/
def resV (res : List RSh) (xs : List Int) : Value := (retOf (resSh 0 res)).den ⟨xs, []⟩

/-- A path's end. -/
theorem tail_end {P : Program} {Γ : List Entry} {fn : Func} {res : List RSh} {ps : List Path} {outs : List (EK × St)} (hps : tailPaths P fn.results.toList res outs = some ps) {base : List Int} {W : Nat → Nat → Prop} {w : World} {O : List (Nat × Nat)}
    {R : Ending → World → Prop} (hR : ∀ p ∈ ps, asmHolds (runR Γ p.defs base) p.asm → ∀ w', Fr W w w' → R (.returned (resV res (p.outs.map (·.val (runR Γ p.defs base))))) w') :
    ∀ x ∈ outs, ∀ ρ' a' w', RelA Γ base ρ' x.2 a' → RelM W w O ρ' x.2 w' → bodyPost P fn R x.1.ex a' w' := by
  intro x hx ρ' a' w' hA hM
  obtain ⟨hx1, p, hp, hpath⟩ := tailPaths_spec hps x hx
  unfold tailPath at hpath
  split at hpath
  · cases hpath
  rename_i vs hvs
  simp only at hpath
  split at hpath
  case isFalse => cases hpath
  rename_i hc
  cases hpath
  simp only [Bool.and_eq_true] at hc
  have c2 := lbeq_eq S1.beq_eq _ _ hc.2
  generalize hτ : (⟨outsOf vs, x.2.n, [], x.2.mem.length⟩ : Sub) = τ at c2
  have he : ρ'.e.length = τ.n0 := by rw [← hτ]; exact hA.len
  have hoo : ρ'.o.length = τ.m0 := by rw [← hτ]; exact hA.lenO
  have hxx : τ.xs.all (SI.ok τ.n0) = true := by rw [← hτ]; exact hc.1
  have hpp : τ.os.all (fun p => Nat.blt p.1 τ.m0) = true := by rw [← hτ]; rfl
  have hv : vs.map (S1.den ρ') = (resSh 0 res).map (S1.den ⟨(outsOf vs).map (·.val ρ'.e), []⟩) := by
    have key : ∀ v, (τ.s1 v).den ρ' = v.den ⟨(outsOf vs).map (·.val ρ'.e), []⟩ := fun v => by
      have := Sub.s1_den he hoo hxx hpp [] [] v
      simp only [List.append_nil, Sub.env, ← hτ, List.map_nil] at this
      rw [← hτ]
      exact this
    have h1 := congrArg (List.map (S1.den ρ')) c2
    rw [List.map_map] at h1
    rw [← h1]
    exact List.map_congr_left fun v _ => key v
  have hres : (results fn a'.tmps).run P w' = .ok (resV res ((outsOf vs).map (·.val ρ'.e))) w' := by
    rw [results_run hA hM.objs hvs, retOf_den]
    unfold resV
    rw [retOf_den]
    congr 1
    have : retDen (vs.map (S1.den ρ')) = retDen ((resSh 0 res).map (S1.den ⟨(outsOf vs).map (·.val ρ'.e), []⟩)) := congrArg retDen hv
    exact this
  have hr := hR _ hp (by rw [← hA.env]; exact hA.asm) w' hM.fr
  simp only [← hA.env] at hr
  rcases hx1 with e | e <;> rw [e]
  · exact bodyPost_end hres hA.dfr hr
  · exact bodyPost_ret hres hA.dfr hr


theorem tail_sound {P : Program} {Γ : List Entry} (hmix : P.follows .mixedOrders = true) (hΓ : ∀ e ∈ Γ, Meets P e) {t : Tail} {c : Code} {fn : Func} {res : List RSh} {nds : List Need} {ps : List Path}
    (h : tailRun P Γ t c fn.results.toList res = some (nds, ps)) {base : List Int} {bs : List (Nat × Nat)} (hb : base.length = t.n) (hbs : bs.length = t.mem.length) (hn : ∀ nd ∈ nds, nd.holds Γ base) {a : Act} (ha : a.tmps.size = t.nt) (hd : a.defers = [])
    (hs : slotsOk ⟨base, bs⟩ a.tmps t.slots) {w : World} (hm : MemOk w ⟨base, bs⟩ t.mem) (hdis : Dis ⟨base, bs⟩ t.mem) {R : Ending → World → Prop}
    (hR : ∀ p ∈ ps, asmHolds (runR Γ p.defs base) p.asm → ∀ w', Fr (WOf ⟨base, bs⟩ t.mem) w w' → R (.returned (resV res (p.outs.map (·.val (runR Γ p.defs base))))) w') :
    c.wp P (bodyPost P fn R) a w := by
  unfold tailRun at h
  split at h
  case isFalse => cases h
  rename_i hok
  split at h
  case h_2 => cases h
  rename_i nds' outs hex
  split at h
  case h_2 => cases h
  rename_i ps' hps
  simp only [Option.some.injEq, Prod.mk.injEq] at h
  obtain ⟨rfl, rfl⟩ := h
  exact exec_sound hmix hΓ 4000 c _ t.st ⟨base, bs⟩ a w _ outs hex hn (Tail.relA hok hb hbs ha hd hs) (Tail.relM hok hm hdis) (tail_end hps hR)

/-- First some operations of a region, then the code behind it. -/
def tailRunL (P : Program) (Γ : List Entry) (t : Tail) (ops : Array Oper) (rest : List Oper) (c : Code) (rs : List ResultVar) (res : List RSh) : Option (List Need × List Path) :=
  if t.ok then
    match runOps P Γ false ops rest t.st with
    | some (n1, ss) => match thenAll (exec P Γ 4000 c) (ss.map fun s => (.normal, s)) with
      | some (n2, outs) => match tailPaths P rs res outs with
        | some ps => some (n1 ++ n2, ps)
        | none => none
      | none => none
    | none => none
  else none

theorem tail_list {P : Program} {Γ : List Entry} (hmix : P.follows .mixedOrders = true) (hΓ : ∀ e ∈ Γ, Meets P e) {t : Tail} {ops : Array Oper} {rest : List Oper} {c : Code} {fn : Func} {res : List RSh} {nds : List Need} {ps : List Path}
    (h : tailRunL P Γ t ops rest c fn.results.toList res = some (nds, ps)) {base : List Int} {bs : List (Nat × Nat)} (hb : base.length = t.n) (hbs : bs.length = t.mem.length) (hn : ∀ nd ∈ nds, nd.holds Γ base) {a : Act} (ha : a.tmps.size = t.nt) (hd : a.defers = [])
    (hs : slotsOk ⟨base, bs⟩ a.tmps t.slots) {w : World} (hm : MemOk w ⟨base, bs⟩ t.mem) (hdis : Dis ⟨base, bs⟩ t.mem) {R : Ending → World → Prop} {K : Act → World → Prop} (hK : ∀ a w, c.wp P (bodyPost P fn R) a w → K a w)
    (hR : ∀ p ∈ ps, asmHolds (runR Γ p.defs base) p.asm → ∀ w', Fr (WOf ⟨base, bs⟩ t.mem) w w' → R (.returned (resV res (p.outs.map (·.val (runR Γ p.defs base))))) w') :
    wpList P ops (Exit.then K (bodyPost P fn R)) rest a w := by
  unfold tailRunL at h
  split at h
  case isFalse => cases h
  rename_i hok
  split at h
  case h_2 => cases h
  rename_i n1 ss hrun
  split at h
  case h_2 => cases h
  rename_i n2 outs hex
  split at h
  case h_2 => cases h
  rename_i ps' hps
  simp only [Option.some.injEq, Prod.mk.injEq] at h
  obtain ⟨rfl, rfl⟩ := h
  refine runOps_sound hΓ ops rest t.st ⟨base, bs⟩ a w n1 ss hrun (fun nd hnd => hn nd (by simp [hnd])) (Tail.relA hok hb hbs ha hd hs) (Tail.relM hok hm hdis) fun s' hs' ρ' a' w' _ hA hM => ?_
  refine hK _ _ ?_
  rcases thenAll_spec hex (.normal, s') (List.mem_map.2 ⟨s', hs', rfl⟩) with ⟨_, n3, o3, g1, g2, g3⟩ | ⟨hne, _⟩
  · exact exec_sound hmix hΓ 4000 c _ s' ρ' a' w' n3 o3 g1 (fun nd hnd => hn nd (by simp [g2 nd hnd])) hA hM fun x hx => tail_end hps hR x (g3 x hx)
  · exact absurd rfl hne

end Go.Proofs.Ytfeancgmmonebaa.Sx

/-
  Bytes of any length as a number: the reference's own reading of them. Conditions: none; each theorem bears its own.
-/
namespace Go.Proofs.Ytfeancgmmonebaa.Sx
open Go Go.Proofs Go.RowKit

theorem resV_agg (k : IntKind) {xs : List Int} {m : Nat} (h : xs.length = m) : resV [.agg (List.replicate m (some k))] xs = .agg (xs.map (Value.int k)).toArray :=
  agg_at k [] (pre := []) (post := []) (n := 0) (by simp) rfl h

/-- Behind the copy: the array is loaded, its number told. -/
def t_n256 : Tail := { n := 32, nt := 17, slots := [(2, .one (.sc (.ptr 0 0))), (3, .one (.sc (.ptr 1 0)))], mem := [⟨List.replicate 4 (.int .u64 (.lit 0)), true⟩, ⟨kcells 0 (List.replicate 32 (some .u8)), false⟩] }
def p_n256 : Path := ⟨[.app 0 (vars 0 32) 4], [], vars 32 4⟩

theorem out_n256 {base : List Int} (hl : base.length = 32) (hd : Dg 8 base) : p_n256.outs.map (·.val (runR [e_uof] p_n256.defs base)) = dig 64 4 (be base) := by
  show (vars 32 4).map (·.val (base ++ fit 4 (e_uof.F ((vars 0 32).map (·.val base))))) = _
  have h0 : (vars 0 32).map (·.val base) = base := vars_all [e_uof] [] hl
  rw [h0, uof_spec hl hd, fit_eq (dig_length 64 4 _)]
  have := vars_last [e_uof] [] (a := base) (l := dig 64 4 (be base)) (i := 32) hl (dig_length 64 4 _)
  exact this

/-- The walk stands still here. -/
def Halt (p : Prop) : Prop := p
theorem Halt.of {p : Prop} (h : Halt p) : p := h

section
variable {P : Program} {w w' : World} {ops : Array Oper} {rest : List Oper} {o : Oper} {a : Act} {Q : Exit → Act → World → Prop} {v : Value}
/-- An operation whose run is known. -/
theorem wpList_run (hgd : o.guard = none) (hrun : (execOp a.eval o).run P w = .ok (.value v) w') (h : wpList P ops Q rest (a.put o.dst v) w') : wpList P ops Q (o :: rest) a w := by
  refine wpList_plain hgd fun K hK => ?_
  unfold Oper.wp
  rw [hrun]
  exact hK _ _ h
end

abbrev zero4 : Array Value := #[.int .u64 0, .int .u64 0, .int .u64 0, .int .u64 0]

theorem zeros_at (w : World) (x : Obj) (m : Nat) (T : TypeId) : ((w.alloc x).alloc (.cells (List.replicate m (Value.int .u8 0)).toArray T)).heap[w.heap.size + 1]? = some (.cells (List.replicate m (Value.int .u8 0)).toArray T (0, 0)) := by
  have h := heap_alloc_new (w.alloc x) (.cells (List.replicate m (Value.int .u8 0)).toArray T)
  rw [show (w.alloc x).heap.size = w.heap.size + 1 by simp] at h
  exact h

set_option maxRecDepth 100000 in
theorem n256_short (n c : Nat) (bs : List Int) (A : Option Addr) (w : World) (hn : n ≤ 32) (hr : Reads w w.heap.size A n (bs.map (Value.int .u8))) (hd : Dg 8 bs) :
    Calls Try.prog 7 #[.slice A n c] w fun en w' => en = .returned (.agg ((dig 64 4 (be bs)).map (Value.int .u64)).toArray) ∧ Below w.heap.size w w' := by
  have H1 : Hid (Reads w w.heap.size A n (bs.map (Value.int .u8))) := hr
  clear hr
  obtain ⟨ad, had⟩ : ∃ ad : Addr, ad = if 32 = 32 - n then (⟨w.heap.size + 1, 0, none⟩ : Addr) else (⟨w.heap.size + 1, 0, none⟩ : Addr).add (32 - n) := ⟨_, rfl⟩
  have q3 : ∀ W, (Instr.sliceAt 24 (.pointer (some ⟨w.heap.size + 1, 0, none⟩)) (some (.int .i64 (32 - n))) none none).run Try.prog W = .ok (.slice (some ad) n n) W := fun W => by
    have := run_cut_arr Try.underlying24 (by kernel_rfl) ⟨w.heap.size + 1, 0, none⟩ (some (32 - (n : Int))) none (32 - n) 32 (by show (32 - (n : Int)) = _; omega) rfl (by omega) (by omega) W
    rw [← had, show 32 - (32 - n) = n by omega] at this
    exact this
  have HA := Lib.hid had
  clear had
  obtain ⟨xs, hxs⟩ : ∃ xs, xs = bs.map (Value.int .u8) := ⟨_, rfl⟩
  have hbl : bs.length = n := by have h : (bs.map (Value.int .u8)).length = n := H1.out.1; simpa using h
  have hxl : xs.length = n := by rw [hxs]; simp [hbl]
  have hx1 : Hid (∀ v ∈ xs, v.oneCell' = true) := by
    show ∀ v ∈ xs, v.oneCell' = true
    intro v hv
    rw [hxs] at hv
    obtain ⟨z, _, rfl⟩ := List.mem_map.1 hv
    rfl
  obtain ⟨W0, hW0⟩ : ∃ W0, W0 = w.alloc (.cells zero4 27) := ⟨_, rfl⟩
  have hWs : W0.heap.size = w.heap.size + 1 := by rw [hW0]; simp
  have hWb : Below w.heap.size w W0 := by rw [hW0]; exact (Below.refl _ _).alloc (Nat.le_refl _) _
  have hWr : W0.heap[w.heap.size]? = some (.cells zero4 27 (0, 0)) := by rw [hW0]; exact heap_alloc_new w _
  have hpos : Hid (∀ x, 0 < xs.length → some ad = some ⟨w.heap.size + 1, 32 - n, none⟩ ∧ ∃ ad', A = some ad' ∧ ∀ j v, xs[j]? = some v → (W0.alloc x).cell? (ad'.add j) = some v) := fun x h0 => by
    have hr3 : Reads (W0.alloc x) w.heap.size A n xs := by rw [hxs]; exact Reads.below H1 (hWb.alloc hWb.size _)
    obtain ⟨ad', e, _, hc'⟩ := hr3.2 (by omega)
    refine ⟨?_, ad', e, hc'⟩
    rw [HA.out, if_neg (by omega), addr_add, Nat.zero_add]
  have hfit : Hid (32 - n + xs.length ≤ (List.replicate 32 (Value.int .u8 0)).length) := by show _ ≤ _; simp only [List.length_replicate]; omega
  have hn1 : Hid (xs.length = Nat.min n n) := hxl.trans (Nat.min_self n).symm
  have HW0 := Lib.hid hW0
  have HWs := Lib.hid hWs
  have HWr := Lib.hid hWr
  have HX := Lib.hid hxs
  have HL := Lib.hid hxl
  have HB := Lib.hid hbl
  clear hxs hxl hbl hW0 hWs hWr
  go_enter Try.func7, Try.ntmps7
  go_wp2_with (refine wpList_copy_splice rfl (.tmp 12) (.tmp 13) _ _ rfl _ Try.underlying22 (by kernel_rfl) _ _ _ _ _ _ rfl rfl (w.heap.size + 1) (32 - n) (List.replicate 32 (Value.int .u8 0)) _ (by exact zeros_at w _ 32 _) xs hn1 (by have := HW0.out; subst this; exact hpos.out _) hfit hx1 (w.heap.size + 1) W0 (by have := HW0.out; subst this; exact (Below.refl _ _).alloc (by simp) _) (Nat.le_refl _) ?_; intro w3 g3 hb3; refine Halt.of ?_)
  rename_i hle K hK
  refine Halt.of (p := wpList _ _ _ [] _ _) (wpList_nil (hK _ _ ?_))
  have hpl : (List.replicate (32 - n) (0 : Int) ++ bs).length = 32 := by
    have h1 := HB.out
    simp only [List.length_append, List.length_replicate, h1]
    omega
  have g3' : w3.heap[w.heap.size + 1]? = some (.cells ((List.replicate (32 - n) (0 : Int) ++ bs).map (Value.int .u8)).toArray 24 (0, 0)) := by
    have h : w3.heap[w.heap.size + 1]? = some (.cells (splice (List.replicate 32 (Value.int .u8 0)) (32 - n) xs).toArray 24 (0, 0)) := g3
    rw [splice_pad hn HL.out] at h
    rw [h, HX.out]
    simp
  have g2 : w3.heap[w.heap.size]? = some (.cells zero4 27 (0, 0)) := (hb3.block w.heap.size (by omega)).trans HWr.out
  refine tail_sound mixed (Γ := [e_uof]) (fun e he => by simp only [List.mem_cons, List.not_mem_nil, or_false] at he; subst he; exact m_uof) (t := t_n256) (res := [.agg (List.replicate 4 (some .u64))]) (nds := []) (ps := [p_n256]) (by kernel_rfl)
    (base := List.replicate (32 - n) (0 : Int) ++ bs) (bs := [(w.heap.size, 0), (w.heap.size + 1, 0)]) hpl rfl (fun _ h => by cases h) rfl rfl ⟨rfl, rfl, trivial⟩ ?_ ?_ ?_
  · intro o so hso
    match o with
    | 0 =>
      obtain rfl := Option.some.inj hso
      exact ObjOk.whole (cs := zero4.toList) g2 rfl rfl rfl
    | 1 =>
      obtain rfl := Option.some.inj hso
      exact ObjOk.whole g3' rfl rfl (kcells_at .u8 _ _ [] [] _ 0 32 (by simp) rfl hpl)
    | o + 2 => cases hso
  · intro o o' so so' hoo h1 h2 h3
    match o, o' with
    | 0, 1 => exact .inl (by show w.heap.size ≠ w.heap.size + 1; omega)
    | 1, 0 => exact .inl (by show w.heap.size + 1 ≠ w.heap.size; omega)
    | 0, 0 => exact absurd rfl hoo
    | 1, 1 => exact absurd rfl hoo
    | o + 2, _ => cases h1
    | _, o' + 2 => cases h2
  · intro p hp _ w' hfr
    obtain rfl : p = p_n256 := by simpa using hp
    rw [out_n256 hpl (pad_dg hd), be_pad]
    refine ⟨congrArg Ending.returned (resV_agg .u64 (dig_length 64 4 _)), ?_⟩
    have h1 : Below w.heap.size w3 w' := hfr.below (by have := hb3.size; have := HWs.out; omega) fun k j hk ⟨o, so, hso, hw, hk', _⟩ => by
      match o with
      | 0 => have : w.heap.size = k := hk'; omega
      | 1 => have : w.heap.size + 1 = k := hk'; omega
      | o + 2 => cases hso
    exact (hWb.trans (hb3.mono (by omega))).trans h1

theorem splice_all {m : Nat} {xs : List Value} (hx : xs.length = m) : splice (List.replicate m (Value.int .u8 0)) 0 xs = xs := by
  have := splice_pad (m := m) (k := m) (Nat.le_refl _) hx
  rw [Nat.sub_self] at this
  simpa using this

set_option maxRecDepth 100000 in
theorem n256_long (n c : Nat) (bs : List Int) (A : Option Addr) (w : World) (hn : 32 < n) (hc : n ≤ c) (hr : Reads w w.heap.size A n (bs.map (Value.int .u8))) (hd : Dg 8 bs) :
    Calls Try.prog 7 #[.slice A n c] w fun en w' => en = .returned (.agg ((dig 64 4 (be (bs.take 32))).map (Value.int .u64)).toArray) ∧ Below w.heap.size w w' := by
  have H1 : Hid (Reads w w.heap.size A n (bs.map (Value.int .u8))) := hr
  clear hr
  obtain ⟨xs, hxs⟩ : ∃ xs, xs = (bs.map (Value.int .u8)).take 32 := ⟨_, rfl⟩
  have hbl : bs.length = n := by have h : (bs.map (Value.int .u8)).length = n := H1.out.1; simpa using h
  have hxl : xs.length = 32 := by rw [hxs]; simp [hbl]; omega
  have hx1 : Hid (∀ v ∈ xs, v.oneCell' = true) := by
    show ∀ v ∈ xs, v.oneCell' = true
    intro v hv
    rw [hxs] at hv
    obtain ⟨z, _, rfl⟩ := List.mem_map.1 (List.mem_of_mem_take hv)
    rfl
  obtain ⟨W0, hW0⟩ : ∃ W0, W0 = w.alloc (.cells zero4 27) := ⟨_, rfl⟩
  have hWs : W0.heap.size = w.heap.size + 1 := by rw [hW0]; simp
  have hWb : Below w.heap.size w W0 := by rw [hW0]; exact (Below.refl _ _).alloc (Nat.le_refl _) _
  have hWr : W0.heap[w.heap.size]? = some (.cells zero4 27 (0, 0)) := by rw [hW0]; exact heap_alloc_new w _
  have hpos : Hid (∀ x, 0 < xs.length → (some ⟨w.heap.size + 1, 0, none⟩ : Option Addr) = some ⟨w.heap.size + 1, 0, none⟩ ∧ ∃ ad', A = some ad' ∧ ∀ j v, xs[j]? = some v → (W0.alloc x).cell? (ad'.add j) = some v) := fun x h0 => by
    have hr3 : Reads (W0.alloc x) w.heap.size A 32 xs := by rw [hxs]; exact (Reads.below H1 (hWb.alloc hWb.size _)).take (by omega)
    obtain ⟨ad', e, _, hc'⟩ := hr3.2 (by omega)
    exact ⟨rfl, ad', e, hc'⟩
  have hfit : Hid (0 + xs.length ≤ (List.replicate 32 (Value.int .u8 0)).length) := by show _ ≤ _; simp only [List.length_replicate]; omega
  have hn1 : Hid (xs.length = Nat.min 32 32) := hxl
  have HW0 := Lib.hid hW0
  have HWs := Lib.hid hWs
  have HWr := Lib.hid hWr
  have HX := Lib.hid hxs
  have HL := Lib.hid hxl
  have HB := Lib.hid hbl
  clear hxs hxl hbl hW0 hWs hWr
  go_enter Try.func7, Try.ntmps7
  go_wp2_with (refine wpList_copy_splice rfl (.tmp 12) (.tmp 13) _ _ rfl _ Try.underlying22 (by kernel_rfl) _ _ _ _ _ _ rfl rfl (w.heap.size + 1) 0 (List.replicate 32 (Value.int .u8 0)) _ (by exact zeros_at w _ 32 _) xs hn1 (by have := HW0.out; subst this; exact hpos.out _) hfit hx1 (w.heap.size + 1) W0 (by have := HW0.out; subst this; exact (Below.refl _ _).alloc (by simp) _) (Nat.le_refl _) ?_; intro w3 g3 hb3; refine Halt.of ?_)
  rename_i hle K hK
  refine Halt.of (p := wpList _ _ _ [] _ _) (wpList_nil (hK _ _ ?_))
  have hpl : (bs.take 32).length = 32 := by
    have h1 := HB.out
    simp only [List.length_take, h1]
    omega
  have g3' : w3.heap[w.heap.size + 1]? = some (.cells ((bs.take 32).map (Value.int .u8)).toArray 24 (0, 0)) := by
    have h : w3.heap[w.heap.size + 1]? = some (.cells (splice (List.replicate 32 (Value.int .u8 0)) 0 xs).toArray 24 (0, 0)) := g3
    rw [splice_all (HL.out)] at h
    rw [h, HX.out, List.map_take]
  have g2 : w3.heap[w.heap.size]? = some (.cells zero4 27 (0, 0)) := (hb3.block w.heap.size (by omega)).trans HWr.out
  refine tail_sound mixed (Γ := [e_uof]) (fun e he => by simp only [List.mem_cons, List.not_mem_nil, or_false] at he; subst he; exact m_uof) (t := t_n256) (res := [.agg (List.replicate 4 (some .u64))]) (nds := []) (ps := [p_n256]) (by kernel_rfl)
    (base := bs.take 32) (bs := [(w.heap.size, 0), (w.heap.size + 1, 0)]) hpl rfl (fun _ h => by cases h) rfl rfl ⟨rfl, rfl, trivial⟩ ?_ ?_ ?_
  · intro o so hso
    match o with
    | 0 =>
      obtain rfl := Option.some.inj hso
      exact ObjOk.whole (cs := zero4.toList) g2 rfl rfl rfl
    | 1 =>
      obtain rfl := Option.some.inj hso
      exact ObjOk.whole g3' rfl rfl (kcells_at .u8 _ _ [] [] _ 0 32 (by simp) rfl hpl)
    | o + 2 => cases hso
  · intro o o' so so' hoo h1 h2 h3
    match o, o' with
    | 0, 1 => exact .inl (by show w.heap.size ≠ w.heap.size + 1; omega)
    | 1, 0 => exact .inl (by show w.heap.size + 1 ≠ w.heap.size; omega)
    | 0, 0 => exact absurd rfl hoo
    | 1, 1 => exact absurd rfl hoo
    | o + 2, _ => cases h1
    | _, o' + 2 => cases h2
  · intro p hp _ w' hfr
    obtain rfl : p = p_n256 := by simpa using hp
    rw [out_n256 hpl (hd.take 32)]
    refine ⟨congrArg Ending.returned (resV_agg .u64 (dig_length 64 4 _)), ?_⟩
    have h1 : Below w.heap.size w3 w' := hfr.below (by have := hb3.size; have := HWs.out; omega) fun k j hk ⟨o, so, hso, hw, hk', _⟩ => by
      match o with
      | 0 => have : w.heap.size = k := hk'; omega
      | 1 => have : w.heap.size + 1 = k := hk'; omega
      | o + 2 => cases hso
    exact (hWb.trans (hb3.mono (by omega))).trans h1

/-- Number256, of bytes however many. -/
theorem n256_calls (n c : Nat) (bs : List Int) (A : Option Addr) (w : World) (hc : n ≤ c) (hr : Reads w w.heap.size A n (bs.map (Value.int .u8))) (hd : Dg 8 bs) :
    Calls Try.prog 7 #[.slice A n c] w fun en w' => en = .returned (.agg ((dig 64 4 (be (bs.take 32))).map (Value.int .u64)).toArray) ∧ Below w.heap.size w w' := by
  rcases Nat.lt_or_ge 32 n with h | h
  · exact n256_long n c bs A w h hc hr hd
  · have hl : bs.length = n := by simpa using hr.1
    rw [List.take_of_length_le (by omega)]
    exact n256_short n c bs A w h hr hd

end Go.Proofs.Ytfeancgmmonebaa.Sx

/-
  append onto a row of bytes of the call's own, whatever the source; copies of slices; errors. Conditions: none; each theorem bears its own.
-/
namespace Go.Proofs.Ytfeancgmmonebaa.Sx
open Go Go.Proofs Go.RowKit

theorem Reads.drew {w : World} {B n : Nat} {A : Option Addr} {xs : List Value} (h : Reads w B A n xs) : Reads w.drew B A n xs := h
theorem Reads.alloc {w : World} {B n : Nat} {A : Option Addr} {xs : List Value} (h : Reads w B A n xs) (hB : B ≤ w.heap.size) (o : Obj) : Reads (w.alloc o) B A n xs := h.keep fun p hp => World.cell?_alloc_lt w o p (by omega)
theorem Reads.of_own {w : World} {base : Nat} {e : TypeId} {n c : Nat} {A : Option Addr} {xs : List Value} (h : w.ownsRow base e 1 (.slice A n c) n xs) : Reads w w.heap.size A n xs := by
  refine ⟨by simpa using h.1, fun hn => ?_⟩
  rcases h.2 with ⟨_, h0⟩ | ⟨g, cap, cur, hv, _, hg, hnc, _, hcs, htake⟩
  · omega
  · obtain ⟨rfl, _⟩ : A = some ⟨g, 0, none⟩ ∧ c = cap := by injection hv with h1 h2 h3; exact ⟨h1, h3⟩
    have hlt : g < w.heap.size := by
      rcases Nat.lt_or_ge g w.heap.size with h' | h'
      · exact h'
      · rw [Array.getElem?_eq_none h'] at hg; cases hg
    refine ⟨_, rfl, hlt, fun j u hj => ?_⟩
    rw [addr_add, Nat.zero_add]
    simp only [World.cell?, hg]
    rw [← htake, Nat.mul_one, List.getElem?_take] at hj
    split at hj
    · simpa using hj
    · cases hj

section
variable {P : Program} {w : World}

theorem run_append_of_nil (base : Nat) (t ty e : TypeId) (i : TypeInfo) (ht : P.underlying t = some (.slice e)) (hi : P.info? e = some i)
    (v : Value) (n : Nat) (xs : List Value) (hown : w.ownsRow base e 1 v n xs) (c : Nat) : (Builtin.append_ #[t, t] ty #[v, .slice none 0 c]).run P w = .ok v w := by
  rcases hown.2 with ⟨rfl, rfl⟩ | ⟨g, cap, cur, rfl, _, _, hnc, _⟩
  · simp [Builtin.append_, run_underlying ht, sizeOf, typeInfo, hi, Builtin.lenOf, Builtin.firstCells]
  · simp [Builtin.append_, run_underlying ht, sizeOf, typeInfo, hi, Builtin.lenOf, Builtin.firstCells, hnc, storeCells]

theorem run_append_any (base : Nat) (t ty e : TypeId) (i : TypeInfo) (z : Value) (ht : P.underlying t = some (.slice e)) (hi : P.info? e = some i) (hz : i.zero = some z)
    (hsize : i.size = 1) (hby : i.bytes = 1) (hzs : z.cells.size = 1)
    (v : Value) (n : Nat) (xs : List Value) (hown : w.ownsRow base e 1 v n xs)
    (B : Nat) (A : Option Addr) (m c : Nat) (news : List Value) (hr : Reads w B A m news) (h1 : ∀ u ∈ news, u.oneCell' = true)
    (hbytes : n + m ≤ 140737488355328) (hbase : base ≤ w.heap.size) :
    ∃ v' w', (Builtin.append_ #[t, t] ty #[v, .slice A m c]).run P w = .ok v' w' ∧ w'.ownsRow base e 1 v' (n + m) (xs ++ news) ∧ w.grownBy w' v.ownBlock ∧
      (v'.ownBlock = v.ownBlock ∨ v'.ownBlock = some w.heap.size) := by
  have h63 : n + m ≤ maxLen := by unfold maxLen; omega
  rcases A with _ | ad
  · have hm : m = 0 := by
      rcases Nat.eq_zero_or_pos m with h0 | h0
      · exact h0
      · obtain ⟨ad, h, _⟩ := hr.2 h0
        cases h
    subst hm
    have hn : news = [] := List.eq_nil_of_length_eq_zero (by simpa using hr.1)
    subst hn
    exact ⟨v, w, run_append_of_nil base t ty e i ht hi v n xs hown c, by simpa using hown, World.grownBy.refl w _, .inl rfl⟩
  · have hcells : ∀ j u, news[j]? = some u → w.cell? (ad.add j) = some u := by
      intro j u hu
      rcases Nat.eq_zero_or_pos m with h0 | h0
      · subst h0
        have hn : news = [] := List.eq_nil_of_length_eq_zero (by simpa using hr.1)
        subst hn
        simp at hu
      · obtain ⟨ad', h, _, hc⟩ := hr.2 h0
        injection h with h
        subst h
        exact hc j u hu
    obtain ⟨v', w', hrun, h2, h3, _, h5⟩ := run_append_own_at (P := P) w base t ty e i z 1 1 ht hi hz hsize hby hzs (by omega) v n xs hown ad m c news (by simpa using hr.1) hcells h1 h63 (by omega) hbase
    exact ⟨v', w', hrun, h2, h3, h5⟩

theorem wp_append_any {o : Oper} {a : Act} {K : Act → World → Prop} {Q : Exit → Act → World → Prop} (s x : Operand) (t : TypeId)
    (ho : o.op = .call { callee := .builtin .append, args := #[s, x], argTypes := #[t, t] })
    (base : Nat) (e : TypeId) (i : TypeInfo) (z : Value) (ht : P.underlying t = some (.slice e)) (hi : P.info? e = some i) (hz : i.zero = some z)
    (hsize : i.size = 1) (hby : i.bytes = 1) (hzs : z.cells.size = 1)
    (v : Value) (n : Nat) (xs : List Value) (hs : a.eval s = v) (hown : w.ownsRow base e 1 v n xs)
    (B : Nat) (A : Option Addr) (m c : Nat) (news : List Value) (hx : a.eval x = .slice A m c) (hr : Reads w B A m news) (h1 : ∀ u ∈ news, u.oneCell' = true)
    (hbytes : n + m ≤ 140737488355328) (hbase : base ≤ w.heap.size)
    (h : ∀ v' w', w'.ownsRow base e 1 v' (n + m) (xs ++ news) → w.grownBy w' v.ownBlock → (v'.ownBlock = v.ownBlock ∨ v'.ownBlock = some w.heap.size) → K (a.put o.dst v') w') : o.wp P a w K Q := by
  obtain ⟨v', w', hrun, h2, h3, h4⟩ := run_append_any (P := P) base t o.type e i z ht hi hz hsize hby hzs v n xs hown B A m c news hr h1 hbytes hbase
  unfold Oper.wp execOp
  simp only [ho, resolve, invoke, builtin, Sem.run_bind, Sem.run_pure, Result.andThen_ok, List.map_toArray, List.map_cons, List.map_nil, hs, hx, hrun]
  exact h v' w' h2 h3 h4

theorem wpList_append_any {ops : Array Oper} {rest : List Oper} {o : Oper} {a : Act} {Q : Exit → Act → World → Prop} (hgd : o.guard = none) (s x : Operand) (t : TypeId)
    (ho : o.op = .call { callee := .builtin .append, args := #[s, x], argTypes := #[t, t] })
    (base : Nat) (e : TypeId) (i : TypeInfo) (z : Value) (ht : P.underlying t = some (.slice e)) (hi : P.info? e = some i) (hz : i.zero = some z)
    (hsize : i.size = 1) (hby : i.bytes = 1) (hzs : z.cells.size = 1)
    (v : Value) (n : Nat) (xs : List Value) (hs : a.eval s = v) (hown : w.ownsRow base e 1 v n xs)
    (B : Nat) (A : Option Addr) (m c : Nat) (news : List Value) (hx : a.eval x = .slice A m c) (hr : Reads w B A m news) (h1 : ∀ u ∈ news, u.oneCell' = true)
    (hbytes : n + m ≤ 140737488355328) (hbase : base ≤ w.heap.size)
    (h : ∀ v' w', w'.ownsRow base e 1 v' (n + m) (xs ++ news) → w.grownBy w' v.ownBlock → (v'.ownBlock = v.ownBlock ∨ v'.ownBlock = some w.heap.size) → wpList P ops Q rest (a.put o.dst v') w') : wpList P ops Q (o :: rest) a w :=
  wpList_plain hgd fun _ hK => wp_append_any s x t ho base e i z ht hi hz hsize hby hzs v n xs hs hown B A m c news hx hr h1 hbytes hbase fun v' w' h2 h3 h4 => hK _ _ (h v' w' h2 h3 h4)
end

theorem ints_one {bs : List Int} : ∀ v ∈ bs.map (Value.int .u8), v.oneCell' = true := fun v hv => by
  obtain ⟨z, _, rfl⟩ := List.mem_map.1 hv
  rfl

theorem u8_info : (Try.prog.info? 5).map (fun i => (i.zero, i.size, i.bytes)) = some (some (.int .u8 0), 1, 1) := by kernel_rfl

/-- A slice of the call's own that reads as these bytes. -/
def OwnBytes (w : World) (n : Nat) (bs : List Int) (e : Ending) (w' : World) : Prop :=
  ∃ A c, e = .returned (.slice A n c) ∧ n ≤ c ∧ Reads w' w'.heap.size A n (bs.map (Value.int .u8)) ∧ (∀ a, A = some a → w.heap.size ≤ a.block) ∧ Below w.heap.size w w'

theorem owns_new (w : World) (e : TypeId) : (w.alloc (.cells #[] e)).ownsRow w.heap.size e 1 (.slice (some ⟨w.heap.size, 0, none⟩) 0 0) 0 [] :=
  ⟨rfl, .inr ⟨w.heap.size, 0, #[], rfl, Nat.le_refl _, heap_alloc_new w _, Nat.le_refl _, Nat.zero_le _, rfl, rfl⟩⟩

theorem own_slice {w : World} {base : Nat} {e : TypeId} {v : Value} {n : Nat} {xs : List Value} (h : w.ownsRow base e 1 v n xs) : ∃ A c, v = .slice A n c ∧ n ≤ c ∧ (∀ a, A = some a → base ≤ a.block) := by
  rcases h.2 with ⟨rfl, rfl⟩ | ⟨g, cap, cur, rfl, hb, _, hnc, _⟩
  · exact ⟨none, 0, rfl, Nat.le_refl _, fun a h => by cases h⟩
  · exact ⟨_, cap, rfl, hnc, fun a h => by cases h; exact hb⟩

theorem below_grown {B : Nat} {a w w' : World} {row : Option Nat} (hb : Below B a w) (hg : w.grownBy w' row) (hB : B ≤ a.heap.size) (hr : ∀ k, row = some k → B ≤ k) : Below B a w' :=
  hb.trans ⟨hg.os, hg.tape, hg.output, hg.size, fun k hk => hg.block k (by have := hb.size; omega) fun e => by have := hr k e.symm; omega⟩

set_option maxRecDepth 100000 in
/-- copied: bytes of their own. -/
theorem c_copied (n c : Nat) (bs : List Int) (A : Option Addr) (w : World) (hn : n ≤ 140737488355328) (hr : Reads w w.heap.size A n (bs.map (Value.int .u8))) :
    Calls Try.prog 22 #[.slice A n c] w (OwnBytes w n bs) := by
  obtain ⟨i0, hi0, hz0, hz1, hz2⟩ := info_parts u8_info
  have HR := Lib.hid hr
  have HN := Lib.hid (show 0 + n ≤ 140737488355328 by omega)
  clear hr hn
  go_enter Try.func22, Try.ntmps22
  go_wp2_with (at_builtin; refine wpList_append_any rfl (.tmp 3) (.tmp 4) _ rfl w.heap.size 5 i0 _ Try.underlying22 hi0 hz0 hz1 hz2 rfl (.slice (some ⟨w.heap.size, 0, none⟩) 0 0) 0 [] rfl (owns_new w _) w.heap.size A n c (bs.map (Value.int .u8)) rfl (HR.out.alloc (Nat.le_refl _) _) ints_one HN.out (by simp) ?_; intro v1 w1 ho hg hat)
  go_ret
  obtain ⟨A', c', hv, hc', hA'⟩ := own_slice ho
  rw [Nat.zero_add] at ho hv
  subst hv
  refine ⟨A', c', rfl, by omega, by simpa using Reads.of_own ho, hA', below_grown ((Below.refl _ _).alloc (Nat.le_refl _) _) hg (Nat.le_refl _) fun k hk => ?_⟩
  cases hk
  exact Nat.le_refl _

end Go.Proofs.Ytfeancgmmonebaa.Sx
