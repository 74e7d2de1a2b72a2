/-
  What is left of a function's body, run symbolically from a frame of which some slots are known. Conditions: none; each theorem bears its own.
-/
import Derived.Test.YtfeancgmmonebaaDoorMgg
import Derived.Test.YtfeancgmmonebaaDoorMgl
import Derived.Maps.AppendAt
import Derived.Test.YtfeancgmmonebaaDoorMgk
namespace Go.Proofs.YtfeancgmmonebaaDoor.Sx
open Go

/-- What is known at a place in the body: how many numbers, the frame's size, some slots, some objects. -/
structure Tail where
  n : Nat
  nt : Nat
  slots : List (Nat × SV)
  mem : List SO

def setSlots : List (Nat × SV) → Tr SV → Tr SV
  | [], t => t
  | p :: r, t => setSlots r (Tr.set 20 t p.1 (some p.2))

theorem setSlots_get : ∀ (l : List (Nat × SV)) (t : Tr SV) (m : Nat) (y : SV), (setSlots l t).get m = some y → (m, y) ∈ l ∨ t.get m = some y
  | [], _, _, _, h => .inr h
  | p :: r, t, m, y, h => by
    rcases setSlots_get r _ m y h with h1 | h1
    · exact .inl (List.mem_cons_of_mem _ h1)
    · rcases Tr.get_set _ _ _ _ _ _ h1 with ⟨rfl, e⟩ | ⟨_, h2⟩
      · cases e
        exact .inl List.mem_cons_self
      · exact .inr h2

def Tail.st (t : Tail) : St := { nt := t.nt, tm := setSlots t.slots .nil, mem := t.mem, n := t.n, defs := [], asm := [] }

def Tail.ok (t : Tail) : Bool := t.slots.all (fun p => p.2.ok t.n t.mem.length) && t.mem.all (fun so => so.cells.all (SC.ok t.n t.mem.length))

/-- The slots hold what is said. -/
def slotsOk (ρ : En) (tmps : Array Value) : List (Nat × SV) → Prop
  | [] => True
  | p :: r => tmps[p.1]? = some (p.2.den ρ) ∧ slotsOk ρ tmps r

theorem slotsOk_mem {ρ : En} {tmps : Array Value} : ∀ {l : List (Nat × SV)} {p : Nat × SV}, slotsOk ρ tmps l → p ∈ l → tmps[p.1]? = some (p.2.den ρ)
  | q :: r, p, h, hp => by
    rcases List.mem_cons.1 hp with rfl | hp
    · exact h.1
    · exact slotsOk_mem h.2 hp

theorem Tail.relA {Γ : List Entry} {t : Tail} (hok : t.ok = true) {base : List Int} {bs : List (Nat × Nat)} (hb : base.length = t.n) (hbs : bs.length = t.mem.length) {a : Act} (ha : a.tmps.size = t.nt) (hd : a.defers = [])
    (hs : slotsOk ⟨base, bs⟩ a.tmps t.slots) : RelA Γ base ⟨base, bs⟩ t.st a := by
  simp only [Tail.ok, Bool.and_eq_true] at hok
  refine ⟨rfl, hb, hbs, ha, hd, ?_, (fun c hc => by cases hc), (fun c hc => by cases hc)⟩
  intro i sv hi
  rcases setSlots_get _ _ _ _ hi with h | h
  · exact ⟨List.all_eq_true.1 hok.1 _ h, slotsOk_mem hs h⟩
  · simp [Tr.get] at h

theorem Tail.relM {t : Tail} (hok : t.ok = true) {base : List Int} {bs : List (Nat × Nat)} {w : World} (hm : MemOk w ⟨base, bs⟩ t.mem) (hd : Dis ⟨base, bs⟩ t.mem) : RelM (WOf ⟨base, bs⟩ t.mem) w bs ⟨base, bs⟩ t.st w := by
  simp only [Tail.ok, Bool.and_eq_true] at hok
  exact ⟨hm, fun o so ho => List.all_eq_true.1 hok.2 so (List.mem_of_getElem? ho), hd, fun o so ho hw => .inr fun j hj => ⟨o, so, ho, hw, rfl, by omega, by omega⟩, Fr.refl _ _, [], by simp⟩

/-- Results by their shapes, the numbers from the n-th on. -/
def resSh : Nat → List RSh → List S1
  | n, .int k :: r => .sc (.int k (.var n)) :: resSh (n + 1) r
  | n, .bool :: r => .sc (.bool (.var n)) :: resSh (n + 1) r
  | n, .agg ks :: r => .agg (kcells n ks) :: resSh (n + ks.length) r
  | _, _ => []

def outsOf : List S1 → List SI
  | [] => []
  | v :: r => siOf v.cells ++ outsOf r

def tailPath (P : Program) (rs : List ResultVar) (res : List RSh) (s : St) : Option Path :=
  match resAll P s rs with
  | none => none
  | some vs =>
    let outs := outsOf vs
    let τ : Sub := ⟨outs, s.n, [], s.mem.length⟩
    if outs.all (SI.ok s.n) && lbeq S1.beq ((resSh 0 res).map τ.s1) vs then some ⟨s.defs, s.asm, outs⟩ else none

def tailPaths (P : Program) (rs : List ResultVar) (res : List RSh) : List (EK × St) → Option (List Path)
  | [] => some []
  | (.exit _, _) :: _ => none
  | (_, s) :: r => match tailPath P rs res s, tailPaths P rs res r with
    | some p, some ps => some (p :: ps)
    | _, _ => none

def tailRun (P : Program) (Γ : List Entry) (t : Tail) (c : Code) (rs : List ResultVar) (res : List RSh) : Option (List Need × List Path) :=
  if t.ok then
    match exec P Γ 4000 c t.st with
    | some (nds, outs) => match tailPaths P rs res outs with
      | some ps => some (nds, ps)
      | none => none
    | none => none
  else none

theorem tailPaths_spec {P : Program} {rs : List ResultVar} {res : List RSh} : ∀ {outs : List (EK × St)} {ps : List Path}, tailPaths P rs res outs = some ps → ∀ x ∈ outs, (x.1 = .normal ∨ x.1 = .ret) ∧ ∃ p ∈ ps, tailPath P rs res x.2 = some p
  | [], _, _, x, hx => by cases hx
  | (ek, s) :: r, ps, h, x, hx => by
    have key : ∀ (hne : ek = .normal ∨ ek = .ret), (match tailPath P rs res s, tailPaths P rs res r with | some p, some ps => some (p :: ps) | _, _ => none) = some ps →
        (x.1 = .normal ∨ x.1 = .ret) ∧ ∃ p ∈ ps, tailPath P rs res x.2 = some p := by
      intro hne h
      split at h
      · rename_i p ps' h1 h2
        cases h
        rcases List.mem_cons.1 hx with rfl | hx
        · exact ⟨hne, p, List.mem_cons_self, h1⟩
        · obtain ⟨g1, q, g2, g3⟩ := tailPaths_spec h2 x hx
          exact ⟨g1, q, List.mem_cons_of_mem _ g2, g3⟩
      · cases h
    cases ek with
    | normal => exact key (.inl rfl) h
    | ret => exact key (.inr rfl) h
    | exit id => cases h

def retDen (l : List Value) : Value := if h : l.length = 1 then l[0]'(by omega) else .tuple l.toArray

/-- The result by its shapes and numbers. -/
def resV (res : List RSh) (xs : List Int) : Value := (retOf (resSh 0 res)).den ⟨xs, []⟩

/-- A path's end. -/
theorem tail_end {P : Program} {Γ : List Entry} {fn : Func} {res : List RSh} {ps : List Path} {outs : List (EK × St)} (hps : tailPaths P fn.results.toList res outs = some ps) {base : List Int} {W : Nat → Nat → Prop} {w : World} {O : List (Nat × Nat)}
    {R : Ending → World → Prop} (hR : ∀ p ∈ ps, asmHolds (runR Γ p.defs base) p.asm → ∀ w', Fr W w w' → R (.returned (resV res (p.outs.map (·.val (runR Γ p.defs base))))) w') :
    ∀ x ∈ outs, ∀ ρ' a' w', RelA Γ base ρ' x.2 a' → RelM W w O ρ' x.2 w' → bodyPost P fn R x.1.ex a' w' := by
  intro x hx ρ' a' w' hA hM
  obtain ⟨hx1, p, hp, hpath⟩ := tailPaths_spec hps x hx
  unfold tailPath at hpath
  split at hpath
  · cases hpath
  rename_i vs hvs
  simp only at hpath
  split at hpath
  case isFalse => cases hpath
  rename_i hc
  cases hpath
  simp only [Bool.and_eq_true] at hc
  have c2 := lbeq_eq S1.beq_eq _ _ hc.2
  generalize hτ : (⟨outsOf vs, x.2.n, [], x.2.mem.length⟩ : Sub) = τ at c2
  have he : ρ'.e.length = τ.n0 := by rw [← hτ]; exact hA.len
  have hoo : ρ'.o.length = τ.m0 := by rw [← hτ]; exact hA.lenO
  have hxx : τ.xs.all (SI.ok τ.n0) = true := by rw [← hτ]; exact hc.1
  have hpp : τ.os.all (fun p => Nat.blt p.1 τ.m0) = true := by rw [← hτ]; rfl
  have hv : vs.map (S1.den ρ') = (resSh 0 res).map (S1.den ⟨(outsOf vs).map (·.val ρ'.e), []⟩) := by
    have key : ∀ v, (τ.s1 v).den ρ' = v.den ⟨(outsOf vs).map (·.val ρ'.e), []⟩ := fun v => by
      have := Sub.s1_den he hoo hxx hpp [] [] v
      simp only [List.append_nil, Sub.env, ← hτ, List.map_nil] at this
      rw [← hτ]
      exact this
    have h1 := congrArg (List.map (S1.den ρ')) c2
    rw [List.map_map] at h1
    rw [← h1]
    exact List.map_congr_left fun v _ => key v
  have hres : (results fn a'.tmps).run P w' = .ok (resV res ((outsOf vs).map (·.val ρ'.e))) w' := by
    rw [results_run hA hM.objs hvs, retOf_den]
    unfold resV
    rw [retOf_den]
    congr 1
    have : retDen (vs.map (S1.den ρ')) = retDen ((resSh 0 res).map (S1.den ⟨(outsOf vs).map (·.val ρ'.e), []⟩)) := congrArg retDen hv
    exact this
  have hr := hR _ hp (by rw [← hA.env]; exact hA.asm) w' hM.fr
  simp only [← hA.env] at hr
  rcases hx1 with e | e <;> rw [e]
  · exact bodyPost_end hres hA.dfr hr
  · exact bodyPost_ret hres hA.dfr hr


theorem tail_sound {P : Program} {Γ : List Entry} (hmix : P.follows .mixedOrders = true) (hΓ : ∀ e ∈ Γ, Meets P e) {t : Tail} {c : Code} {fn : Func} {res : List RSh} {nds : List Need} {ps : List Path}
    (h : tailRun P Γ t c fn.results.toList res = some (nds, ps)) {base : List Int} {bs : List (Nat × Nat)} (hb : base.length = t.n) (hbs : bs.length = t.mem.length) (hn : ∀ nd ∈ nds, nd.holds Γ base) {a : Act} (ha : a.tmps.size = t.nt) (hd : a.defers = [])
    (hs : slotsOk ⟨base, bs⟩ a.tmps t.slots) {w : World} (hm : MemOk w ⟨base, bs⟩ t.mem) (hdis : Dis ⟨base, bs⟩ t.mem) {R : Ending → World → Prop}
    (hR : ∀ p ∈ ps, asmHolds (runR Γ p.defs base) p.asm → ∀ w', Fr (WOf ⟨base, bs⟩ t.mem) w w' → R (.returned (resV res (p.outs.map (·.val (runR Γ p.defs base))))) w') :
    c.wp P (bodyPost P fn R) a w := by
  unfold tailRun at h
  split at h
  case isFalse => cases h
  rename_i hok
  split at h
  case h_2 => cases h
  rename_i nds' outs hex
  split at h
  case h_2 => cases h
  rename_i ps' hps
  simp only [Option.some.injEq, Prod.mk.injEq] at h
  obtain ⟨rfl, rfl⟩ := h
  exact exec_sound hmix hΓ 4000 c _ t.st ⟨base, bs⟩ a w _ outs hex hn (Tail.relA hok hb hbs ha hd hs) (Tail.relM hok hm hdis) (tail_end hps hR)

/-- First some operations of a region, then the code behind it. -/
def tailRunL (P : Program) (Γ : List Entry) (t : Tail) (ops : Array Oper) (rest : List Oper) (c : Code) (rs : List ResultVar) (res : List RSh) : Option (List Need × List Path) :=
  if t.ok then
    match runOps P Γ false ops rest t.st with
    | some (n1, ss) => match thenAll (exec P Γ 4000 c) (ss.map fun s => (.normal, s)) with
      | some (n2, outs) => match tailPaths P rs res outs with
        | some ps => some (n1 ++ n2, ps)
        | none => none
      | none => none
    | none => none
  else none

theorem tail_list {P : Program} {Γ : List Entry} (hmix : P.follows .mixedOrders = true) (hΓ : ∀ e ∈ Γ, Meets P e) {t : Tail} {ops : Array Oper} {rest : List Oper} {c : Code} {fn : Func} {res : List RSh} {nds : List Need} {ps : List Path}
    (h : tailRunL P Γ t ops rest c fn.results.toList res = some (nds, ps)) {base : List Int} {bs : List (Nat × Nat)} (hb : base.length = t.n) (hbs : bs.length = t.mem.length) (hn : ∀ nd ∈ nds, nd.holds Γ base) {a : Act} (ha : a.tmps.size = t.nt) (hd : a.defers = [])
    (hs : slotsOk ⟨base, bs⟩ a.tmps t.slots) {w : World} (hm : MemOk w ⟨base, bs⟩ t.mem) (hdis : Dis ⟨base, bs⟩ t.mem) {R : Ending → World → Prop} {K : Act → World → Prop} (hK : ∀ a w, c.wp P (bodyPost P fn R) a w → K a w)
    (hR : ∀ p ∈ ps, asmHolds (runR Γ p.defs base) p.asm → ∀ w', Fr (WOf ⟨base, bs⟩ t.mem) w w' → R (.returned (resV res (p.outs.map (·.val (runR Γ p.defs base))))) w') :
    wpList P ops (Exit.then K (bodyPost P fn R)) rest a w := by
  unfold tailRunL at h
  split at h
  case isFalse => cases h
  rename_i hok
  split at h
  case h_2 => cases h
  rename_i n1 ss hrun
  split at h
  case h_2 => cases h
  rename_i n2 outs hex
  split at h
  case h_2 => cases h
  rename_i ps' hps
  simp only [Option.some.injEq, Prod.mk.injEq] at h
  obtain ⟨rfl, rfl⟩ := h
  refine runOps_sound hΓ ops rest t.st ⟨base, bs⟩ a w n1 ss hrun (fun nd hnd => hn nd (by simp [hnd])) (Tail.relA hok hb hbs ha hd hs) (Tail.relM hok hm hdis) fun s' hs' ρ' a' w' _ hA hM => ?_
  refine hK _ _ ?_
  rcases thenAll_spec hex (.normal, s') (List.mem_map.2 ⟨s', hs', rfl⟩) with ⟨_, n3, o3, g1, g2, g3⟩ | ⟨hne, _⟩
  · exact exec_sound hmix hΓ 4000 c _ s' ρ' a' w' n3 o3 g1 (fun nd hnd => hn nd (by simp [g2 nd hnd])) hA hM fun x hx => tail_end hps hR x (g3 x hx)
  · exact absurd rfl hne

end Go.Proofs.YtfeancgmmonebaaDoor.Sx

/-
  Bytes of any length as a number: the reference's own reading of them. Conditions: none; each theorem bears its own.
-/
namespace Go.Proofs.YtfeancgmmonebaaDoor.Sx
open Go Go.Proofs Go.RowKit

theorem resV_agg (k : IntKind) {xs : List Int} {m : Nat} (h : xs.length = m) : resV [.agg (List.replicate m (some k))] xs = .agg (xs.map (Value.int k)).toArray :=
  agg_at k [] (pre := []) (post := []) (n := 0) (by simp) rfl h

/-- Behind the copy: the array is loaded, its number told. -/
def t_n256 : Tail := { n := 32, nt := 17, slots := [(2, .one (.sc (.ptr 0 0))), (3, .one (.sc (.ptr 1 0)))], mem := [⟨List.replicate 4 (.int .u64 (.lit 0)), true⟩, ⟨kcells 0 (List.replicate 32 (some .u8)), false⟩] }
def p_n256 : Path := ⟨[.app 0 (vars 0 32) 4], [], vars 32 4⟩

theorem out_n256 {base : List Int} (hl : base.length = 32) (hd : Dg 8 base) : p_n256.outs.map (·.val (runR [e_uof] p_n256.defs base)) = dig 64 4 (be base) := by
  show (vars 32 4).map (·.val (base ++ fit 4 (e_uof.F ((vars 0 32).map (·.val base))))) = _
  have h0 : (vars 0 32).map (·.val base) = base := vars_all [e_uof] [] hl
  rw [h0, uof_spec hl hd, fit_eq (dig_length 64 4 _)]
  have := vars_last [e_uof] [] (a := base) (l := dig 64 4 (be base)) (i := 32) hl (dig_length 64 4 _)
  exact this

/-- The walk stands still here. -/
def Halt (p : Prop) : Prop := p
theorem Halt.of {p : Prop} (h : Halt p) : p := h

section
variable {P : Program} {w w' : World} {ops : Array Oper} {rest : List Oper} {o : Oper} {a : Act} {Q : Exit → Act → World → Prop} {v : Value}
/-- An operation whose run is known. -/
theorem wpList_run (hgd : o.guard = none) (hrun : (execOp a.eval o).run P w = .ok (.value v) w') (h : wpList P ops Q rest (a.put o.dst v) w') : wpList P ops Q (o :: rest) a w := by
  refine wpList_plain hgd fun K hK => ?_
  unfold Oper.wp
  rw [hrun]
  exact hK _ _ h
end

abbrev zero4 : Array Value := #[.int .u64 0, .int .u64 0, .int .u64 0, .int .u64 0]

theorem zeros_at (w : World) (x : Obj) (m : Nat) (T : TypeId) : ((w.alloc x).alloc (.cells (List.replicate m (Value.int .u8 0)).toArray T)).heap[w.heap.size + 1]? = some (.cells (List.replicate m (Value.int .u8 0)).toArray T (0, 0)) := by
  have h := heap_alloc_new (w.alloc x) (.cells (List.replicate m (Value.int .u8 0)).toArray T)
  rw [show (w.alloc x).heap.size = w.heap.size + 1 by simp] at h
  exact h

theorem splice_all {m : Nat} {xs : List Value} (hx : xs.length = m) : splice (List.replicate m (Value.int .u8 0)) 0 xs = xs := by
  have := splice_pad (m := m) (k := m) (Nat.le_refl _) hx
  rw [Nat.sub_self] at this
  simpa using this

end Go.Proofs.YtfeancgmmonebaaDoor.Sx

/-
  append onto a row of bytes of the call's own, whatever the source; copies of slices; errors. Conditions: none; each theorem bears its own.
-/
namespace Go.Proofs.YtfeancgmmonebaaDoor.Sx
open Go Go.Proofs Go.RowKit

theorem Reads.drew {w : World} {B n : Nat} {A : Option Addr} {xs : List Value} (h : Reads w B A n xs) : Reads w.drew B A n xs := h
theorem Reads.alloc {w : World} {B n : Nat} {A : Option Addr} {xs : List Value} (h : Reads w B A n xs) (hB : B ≤ w.heap.size) (o : Obj) : Reads (w.alloc o) B A n xs := h.keep fun p hp => World.cell?_alloc_lt w o p (by omega)
theorem Reads.of_own {w : World} {base : Nat} {e : TypeId} {n c : Nat} {A : Option Addr} {xs : List Value} (h : w.ownsRow base e 1 (.slice A n c) n xs) : Reads w w.heap.size A n xs := by
  refine ⟨by simpa using h.1, fun hn => ?_⟩
  rcases h.2 with ⟨_, h0⟩ | ⟨g, cap, cur, hv, _, hg, hnc, _, hcs, htake⟩
  · omega
  · obtain ⟨rfl, _⟩ : A = some ⟨g, 0, none⟩ ∧ c = cap := by injection hv with h1 h2 h3; exact ⟨h1, h3⟩
    have hlt : g < w.heap.size := by
      rcases Nat.lt_or_ge g w.heap.size with h' | h'
      · exact h'
      · rw [Array.getElem?_eq_none h'] at hg; cases hg
    refine ⟨_, rfl, hlt, fun j u hj => ?_⟩
    rw [addr_add, Nat.zero_add]
    simp only [World.cell?, hg]
    rw [← htake, Nat.mul_one, List.getElem?_take] at hj
    split at hj
    · simpa using hj
    · cases hj

section
variable {P : Program} {w : World}

theorem run_append_of_nil (base : Nat) (t ty e : TypeId) (i : TypeInfo) (ht : P.underlying t = some (.slice e)) (hi : P.info? e = some i)
    (v : Value) (n : Nat) (xs : List Value) (hown : w.ownsRow base e 1 v n xs) (c : Nat) : (Builtin.append_ #[t, t] ty #[v, .slice none 0 c]).run P w = .ok v w := by
  rcases hown.2 with ⟨rfl, rfl⟩ | ⟨g, cap, cur, rfl, _, _, hnc, _⟩
  · simp [Builtin.append_, run_underlying ht, sizeOf, typeInfo, hi, Builtin.lenOf, Builtin.firstCells]
  · simp [Builtin.append_, run_underlying ht, sizeOf, typeInfo, hi, Builtin.lenOf, Builtin.firstCells, hnc, storeCells]

theorem run_append_any (base : Nat) (t ty e : TypeId) (i : TypeInfo) (z : Value) (ht : P.underlying t = some (.slice e)) (hi : P.info? e = some i) (hz : i.zero = some z)
    (hsize : i.size = 1) (hby : i.bytes = 1) (hzs : z.cells.size = 1)
    (v : Value) (n : Nat) (xs : List Value) (hown : w.ownsRow base e 1 v n xs)
    (B : Nat) (A : Option Addr) (m c : Nat) (news : List Value) (hr : Reads w B A m news) (h1 : ∀ u ∈ news, u.oneCell' = true)
    (hbytes : n + m ≤ 140737488355328) (hbase : base ≤ w.heap.size) :
    ∃ v' w', (Builtin.append_ #[t, t] ty #[v, .slice A m c]).run P w = .ok v' w' ∧ w'.ownsRow base e 1 v' (n + m) (xs ++ news) ∧ w.grownBy w' v.ownBlock ∧
      (v'.ownBlock = v.ownBlock ∨ v'.ownBlock = some w.heap.size) := by
  have h63 : n + m ≤ maxLen := by unfold maxLen; omega
  rcases A with _ | ad
  · have hm : m = 0 := by
      rcases Nat.eq_zero_or_pos m with h0 | h0
      · exact h0
      · obtain ⟨ad, h, _⟩ := hr.2 h0
        cases h
    subst hm
    have hn : news = [] := List.eq_nil_of_length_eq_zero (by simpa using hr.1)
    subst hn
    exact ⟨v, w, run_append_of_nil base t ty e i ht hi v n xs hown c, by simpa using hown, World.grownBy.refl w _, .inl rfl⟩
  · have hcells : ∀ j u, news[j]? = some u → w.cell? (ad.add j) = some u := by
      intro j u hu
      rcases Nat.eq_zero_or_pos m with h0 | h0
      · subst h0
        have hn : news = [] := List.eq_nil_of_length_eq_zero (by simpa using hr.1)
        subst hn
        simp at hu
      · obtain ⟨ad', h, _, hc⟩ := hr.2 h0
        injection h with h
        subst h
        exact hc j u hu
    obtain ⟨v', w', hrun, h2, h3, _, h5⟩ := run_append_own_at (P := P) w base t ty e i z 1 1 ht hi hz hsize hby hzs (by omega) v n xs hown ad m c news (by simpa using hr.1) hcells h1 h63 (by omega) hbase
    exact ⟨v', w', hrun, h2, h3, h5⟩

theorem wp_append_any {o : Oper} {a : Act} {K : Act → World → Prop} {Q : Exit → Act → World → Prop} (s x : Operand) (t : TypeId)
    (ho : o.op = .call { callee := .builtin .append, args := #[s, x], argTypes := #[t, t] })
    (base : Nat) (e : TypeId) (i : TypeInfo) (z : Value) (ht : P.underlying t = some (.slice e)) (hi : P.info? e = some i) (hz : i.zero = some z)
    (hsize : i.size = 1) (hby : i.bytes = 1) (hzs : z.cells.size = 1)
    (v : Value) (n : Nat) (xs : List Value) (hs : a.eval s = v) (hown : w.ownsRow base e 1 v n xs)
    (B : Nat) (A : Option Addr) (m c : Nat) (news : List Value) (hx : a.eval x = .slice A m c) (hr : Reads w B A m news) (h1 : ∀ u ∈ news, u.oneCell' = true)
    (hbytes : n + m ≤ 140737488355328) (hbase : base ≤ w.heap.size)
    (h : ∀ v' w', w'.ownsRow base e 1 v' (n + m) (xs ++ news) → w.grownBy w' v.ownBlock → (v'.ownBlock = v.ownBlock ∨ v'.ownBlock = some w.heap.size) → K (a.put o.dst v') w') : o.wp P a w K Q := by
  obtain ⟨v', w', hrun, h2, h3, h4⟩ := run_append_any (P := P) base t o.type e i z ht hi hz hsize hby hzs v n xs hown B A m c news hr h1 hbytes hbase
  unfold Oper.wp execOp
  simp only [ho, resolve, invoke, builtin, Sem.run_bind, Sem.run_pure, Result.andThen_ok, List.map_toArray, List.map_cons, List.map_nil, hs, hx, hrun]
  exact h v' w' h2 h3 h4

theorem wpList_append_any {ops : Array Oper} {rest : List Oper} {o : Oper} {a : Act} {Q : Exit → Act → World → Prop} (hgd : o.guard = none) (s x : Operand) (t : TypeId)
    (ho : o.op = .call { callee := .builtin .append, args := #[s, x], argTypes := #[t, t] })
    (base : Nat) (e : TypeId) (i : TypeInfo) (z : Value) (ht : P.underlying t = some (.slice e)) (hi : P.info? e = some i) (hz : i.zero = some z)
    (hsize : i.size = 1) (hby : i.bytes = 1) (hzs : z.cells.size = 1)
    (v : Value) (n : Nat) (xs : List Value) (hs : a.eval s = v) (hown : w.ownsRow base e 1 v n xs)
    (B : Nat) (A : Option Addr) (m c : Nat) (news : List Value) (hx : a.eval x = .slice A m c) (hr : Reads w B A m news) (h1 : ∀ u ∈ news, u.oneCell' = true)
    (hbytes : n + m ≤ 140737488355328) (hbase : base ≤ w.heap.size)
    (h : ∀ v' w', w'.ownsRow base e 1 v' (n + m) (xs ++ news) → w.grownBy w' v.ownBlock → (v'.ownBlock = v.ownBlock ∨ v'.ownBlock = some w.heap.size) → wpList P ops Q rest (a.put o.dst v') w') : wpList P ops Q (o :: rest) a w :=
  wpList_plain hgd fun _ hK => wp_append_any s x t ho base e i z ht hi hz hsize hby hzs v n xs hs hown B A m c news hx hr h1 hbytes hbase fun v' w' h2 h3 h4 => hK _ _ (h v' w' h2 h3 h4)
end

theorem ints_one {bs : List Int} : ∀ v ∈ bs.map (Value.int .u8), v.oneCell' = true := fun v hv => by
  obtain ⟨z, _, rfl⟩ := List.mem_map.1 hv
  rfl

theorem u8_info : (Tryd.prog.info? 5).map (fun i => (i.zero, i.size, i.bytes)) = some (some (.int .u8 0), 1, 1) := by kernel_rfl

/-- A slice of the call's own that reads as these bytes. -/
def OwnBytes (w : World) (n : Nat) (bs : List Int) (e : Ending) (w' : World) : Prop :=
  ∃ A c, e = .returned (.slice A n c) ∧ n ≤ c ∧ Reads w' w'.heap.size A n (bs.map (Value.int .u8)) ∧ (∀ a, A = some a → w.heap.size ≤ a.block) ∧ Below w.heap.size w w'

theorem owns_new (w : World) (e : TypeId) : (w.alloc (.cells #[] e)).ownsRow w.heap.size e 1 (.slice (some ⟨w.heap.size, 0, none⟩) 0 0) 0 [] :=
  ⟨rfl, .inr ⟨w.heap.size, 0, #[], rfl, Nat.le_refl _, heap_alloc_new w _, Nat.le_refl _, Nat.zero_le _, rfl, rfl⟩⟩

theorem own_slice {w : World} {base : Nat} {e : TypeId} {v : Value} {n : Nat} {xs : List Value} (h : w.ownsRow base e 1 v n xs) : ∃ A c, v = .slice A n c ∧ n ≤ c ∧ (∀ a, A = some a → base ≤ a.block) := by
  rcases h.2 with ⟨rfl, rfl⟩ | ⟨g, cap, cur, rfl, hb, _, hnc, _⟩
  · exact ⟨none, 0, rfl, Nat.le_refl _, fun a h => by cases h⟩
  · exact ⟨_, cap, rfl, hnc, fun a h => by cases h; exact hb⟩

theorem below_grown {B : Nat} {a w w' : World} {row : Option Nat} (hb : Below B a w) (hg : w.grownBy w' row) (hB : B ≤ a.heap.size) (hr : ∀ k, row = some k → B ≤ k) : Below B a w' :=
  hb.trans ⟨hg.os, hg.tape, hg.output, hg.size, fun k hk => hg.block k (by have := hb.size; omega) fun e => by have := hr k e.symm; omega⟩

set_option maxRecDepth 100000 in
/-- copied: bytes of their own. -/
theorem c_copied (n c : Nat) (bs : List Int) (A : Option Addr) (w : World) (hn : n ≤ 140737488355328) (hr : Reads w w.heap.size A n (bs.map (Value.int .u8))) :
    Calls Tryd.prog 16 #[.slice A n c] w (OwnBytes w n bs) := by
  obtain ⟨i0, hi0, hz0, hz1, hz2⟩ := info_parts u8_info
  have HR := Lib.hid hr
  have HN := Lib.hid (show 0 + n ≤ 140737488355328 by omega)
  clear hr hn
  go_enter Tryd.func16, Tryd.ntmps16
  go_wp2_with (at_builtin; refine wpList_append_any rfl (.tmp 3) (.tmp 4) _ rfl w.heap.size 5 i0 _ Tryd.underlying22 hi0 hz0 hz1 hz2 rfl (.slice (some ⟨w.heap.size, 0, none⟩) 0 0) 0 [] rfl (owns_new w _) w.heap.size A n c (bs.map (Value.int .u8)) rfl (HR.out.alloc (Nat.le_refl _) _) ints_one HN.out (by simp) ?_; intro v1 w1 ho hg hat)
  go_ret
  obtain ⟨A', c', hv, hc', hA'⟩ := own_slice ho
  rw [Nat.zero_add] at ho hv
  subst hv
  refine ⟨A', c', rfl, by omega, by simpa using Reads.of_own ho, hA', below_grown ((Below.refl _ _).alloc (Nat.le_refl _) _) hg (Nat.le_refl _) fun k hk => ?_⟩
  cases hk
  exact Nat.le_refl _

end Go.Proofs.YtfeancgmmonebaaDoor.Sx

/-
  When a number that a run leaves is 0, symbolically. Conditions: none; each theorem bears its own.
-/
namespace Go.Proofs.YtfeancgmmonebaaDoor.Sx
open Go

def zOp (TZ : Tr BF) : SI → BF
  | .var j => (TZ.get j).getD (.eq (.var j) (.lit 0))
  | .lit n => .eq (.lit n) (.lit 0)

def inBits (T : Tr If) (b : Nat) (x : SI) : Bool :=
  match siIf T x with
  | some f => decide (0 ≤ f.lo) && decide (f.hi < 2 ^ b)
  | none => false

def zOf (T : Tr If) (TZ : Tr BF) (d : Def) : Option BF :=
  match d with
  | .pr (.bin .or k) [x, y] => match unsB k with
    | some b => if inBits T b x && inBits T b y then some (.and (zOp TZ x) (zOp TZ y)) else none
    | none => none
  | .pr (.bin .xor k) [x, y] => match unsB k with
    | some b => if inBits T b x && inBits T b y then some (.eq x y) else none
    | none => none
  | _ => none

def zRun (T : Tr If) : Nat → List Def → Tr BF → Tr BF
  | _, [], TZ => TZ
  | n, d :: ds, TZ => zRun T (n + arity d) ds (match zOf T TZ d with
    | some f => Tr.set 20 TZ n (some f)
    | none => TZ)

def InvZ (E : List Int) (TZ : Tr BF) : Prop := ∀ (i : Nat) (f : BF), TZ.get i = some f → (E.getD i 0 = 0 ↔ f.ev E = true)

theorem InvZ.set {E : List Int} {TZ : Tr BF} (h : InvZ E TZ) {n : Nat} {f : BF} (hf : E.getD n 0 = 0 ↔ f.ev E = true) : InvZ E (Tr.set 20 TZ n (some f)) := by
  intro i g hg
  rcases Tr.get_set _ _ _ _ _ _ hg with ⟨rfl, e⟩ | ⟨_, hg⟩
  · cases e; exact hf
  · exact h i g hg

theorem zOp_spec {E : List Int} {TZ : Tr BF} (h : InvZ E TZ) (x : SI) : x.val E = 0 ↔ (zOp TZ x).ev E = true := by
  cases x with
  | lit n =>
    show n = 0 ↔ decide (n = 0) = true
    rw [decide_eq_true_eq]
  | var j =>
    show E.getD j 0 = 0 ↔ ((TZ.get j).getD (.eq (.var j) (.lit 0))).ev E = true
    cases hg : TZ.get j with
    | none =>
      show E.getD j 0 = 0 ↔ decide (E.getD j 0 = 0) = true
      rw [decide_eq_true_eq]
    | some f => exact h j f hg

theorem inBits_spec {E : List Int} {T : Tr If} (h : Inv E T) {b : Nat} {x : SI} (hx : inBits T b x = true) : 0 ≤ x.val E ∧ x.val E < 2 ^ b := by
  unfold inBits at hx
  split at hx
  · rename_i f hf
    have := siIf_ok h hf
    simp only [Bool.and_eq_true, decide_eq_true_eq] at hx
    have h1 := this.lo
    have h2 := this.hi
    omega
  · cases hx

theorem nat_or_zero {a b : Nat} : a ||| b = 0 ↔ a = 0 ∧ b = 0 := by
  constructor
  · intro h
    have h1 : a ≤ a ||| b := Nat.left_le_or
    have h2 : b ≤ a ||| b := Nat.right_le_or
    omega
  · rintro ⟨rfl, rfl⟩
    rfl

theorem nat_xor_zero {a b : Nat} : a ^^^ b = 0 ↔ a = b := by
  constructor
  · intro h
    rw [← Nat.xor_zero a, ← Nat.xor_self b, ← Nat.xor_assoc, h, Nat.zero_xor]
  · rintro rfl
    exact Nat.xor_self a

theorem zOf_sound {Γ : List Entry} {E : List Int} {T : Tr If} (hT : Inv E T) {TZ : Tr BF} (h : InvZ E TZ) {n : Nat} {d : Def} {f : BF} (hs : SatL Γ E n [d]) (hf : zOf T TZ d = some f) : E.getD n 0 = 0 ↔ f.ev E = true := by
  unfold zOf at hf
  split at hf
  · rename_i k x y
    split at hf
    · rename_i b hk
      split at hf
      · rename_i hb
        cases hf
        simp only [Bool.and_eq_true] at hb
        obtain ⟨x0, x1⟩ := inBits_spec hT hb.1
        obtain ⟨y0, y1⟩ := inBits_spec hT hb.2
        have e : E.getD n 0 = bits .or k (x.val E) (y.val E) := hs.1
        rw [e, bits_or hk x0 x1 y0 y1]
        simp only [BF.ev, Bool.and_eq_true]
        rw [← zOp_spec h, ← zOp_spec h]
        have := nat_or_zero (a := (x.val E).toNat) (b := (y.val E).toNat)
        omega
      · cases hf
    · cases hf
  · rename_i k x y
    split at hf
    · rename_i b hk
      split at hf
      · rename_i hb
        cases hf
        simp only [Bool.and_eq_true] at hb
        obtain ⟨x0, x1⟩ := inBits_spec hT hb.1
        obtain ⟨y0, y1⟩ := inBits_spec hT hb.2
        have e : E.getD n 0 = bits .xor k (x.val E) (y.val E) := hs.1
        rw [e, bits_xor hk x0 x1 y0 y1]
        simp only [BF.ev, decide_eq_true_eq]
        have := nat_xor_zero (a := (x.val E).toNat) (b := (y.val E).toNat)
        omega
      · cases hf
    · cases hf
  · cases hf

theorem zRun_sound {Γ : List Entry} {E : List Int} {T : Tr If} (hT : Inv E T) : ∀ (ds : List Def) (n : Nat) (TZ : Tr BF), SatL Γ E n ds → InvZ E TZ → InvZ E (zRun T n ds TZ)
  | [], _, _, _, h => h
  | d :: ds, n, TZ, hs, h => by
    have h1 : SatL Γ E n [d] ∧ SatL Γ E (n + arity d) ds := by
      cases d with
      | pr p xs => exact ⟨⟨hs.1, trivial⟩, hs.2⟩
      | app j xs m => exact ⟨⟨hs.1, trivial⟩, hs.2⟩
    unfold zRun
    refine zRun_sound hT ds _ _ h1.2 ?_
    split
    · rename_i f hf
      exact h.set (zOf_sound hT h h1.1 hf)
    · exact h

def zAt (R : List ARule) (bnds : List (Int × Int)) (defs : List Def) (i : Nat) : Option BF :=
  match aiRun R bnds.length defs.reverse (initT 0 bnds) with
  | some T => (zRun T bnds.length defs.reverse .nil).get i
  | none => none

theorem zAt_sound {Γ : List Entry} {R : List ARule} (hR : ∀ j, RuleOk (Γ.getD j noEntry) (R.getD j .none)) {bnds : List (Int × Int)} {defs : List Def} {i : Nat} {f : BF}
    (hok : okDs bnds.length defs.reverse = true) (h : zAt R bnds defs i = some f) {base : List Int} (hl : base.length = bnds.length) (hb : inB bnds base) : (runR Γ defs base).getD i 0 = 0 ↔ f.ev (runR Γ defs base) = true := by
  unfold zAt at h
  rw [runR_eq]
  rw [← hl] at h hok
  have hs := satL_run Γ defs.reverse base hok
  split at h
  · rename_i T hT
    have hi : Inv (runL Γ defs.reverse base) (initT 0 bnds) := initT_inv bnds 0 fun i b hb' => by
      obtain ⟨s, hs'⟩ := runL_prefix Γ defs.reverse base
      have hlt : i < base.length := by rw [hl]; exact (List.getElem?_eq_some_iff.1 hb').1
      have := hb i b hb'
      rw [Nat.zero_add, hs']
      simpa [List.getD, List.getElem?_append_left hlt] using this
    have hT' := aiRun_sound hR _ _ _ _ hs hi hT
    exact zRun_sound hT' _ _ _ hs (fun i f hf => by cases hf) i f h
  · cases h

end Go.Proofs.YtfeancgmmonebaaDoor.Sx

/-
  Contracts of functions that ask. Printed by gen.py. Conditions: none; each theorem bears its own.
-/
namespace Go.Proofs.YtfeancgmmonebaaDoor.Sx
open Go Go.Proofs

def p_field : Path := ⟨[.app 1 [.var 32, .var 33, .var 34, .var 35, .var 36, .var 37, .var 38, .var 39, .var 40, .var 41] 10, .app 0 [.lit 0, .lit 0, .lit 0, .lit 0, .lit 0, .lit 0, .lit 0, .lit 0, .lit 0, .lit 0, .var 0, .var 1, .var 2, .var 3, .var 4, .var 5, .var 6, .var 7, .var 8, .var 9, .var 10, .var 11, .var 12, .var 13, .var 14, .var 15, .var 16, .var 17, .var 18, .var 19, .var 20, .var 21, .var 22, .var 23, .var 24, .var 25, .var 26, .var 27, .var 28, .var 29, .var 30, .var 31] 11], [], [.var 43, .var 44, .var 45, .var 46, .var 47, .var 48, .var 49, .var 50, .var 51, .var 52]⟩
def p_scalar : Path := ⟨[.app 0 [.lit 0, .lit 0, .lit 0, .lit 0, .lit 0, .lit 0, .lit 0, .lit 0, .var 0, .var 1, .var 2, .var 3, .var 4, .var 5, .var 6, .var 7, .var 8, .var 9, .var 10, .var 11, .var 12, .var 13, .var 14, .var 15, .var 16, .var 17, .var 18, .var 19, .var 20, .var 21, .var 22, .var 23, .var 24, .var 25, .var 26, .var 27, .var 28, .var 29, .var 30, .var 31] 9], [], [.var 32, .var 33, .var 34, .var 35, .var 36, .var 37, .var 38, .var 39]⟩
def G_scalar : List Entry := [e_ssetb]
def e_scalar : Entry := { f := 24, args := [.agg (List.replicate 32 (some .u8))], res := [.new (List.replicate 8 (some .u32))], F := p_scalar.out G_scalar }
theorem r_scalar : runFn Tryd.prog G_scalar e_scalar Tryd.f24.ntmps Tryd.f24.results.toList (Tryd.f24.body.getD .skip) = some ([], [p_scalar]) := by kernel_rfl
theorem m_scalar : Meets Tryd.prog e_scalar :=
  meets_single mixed (fun e he => by
    simp only [G_scalar, List.mem_cons, List.not_mem_nil, or_false] at he
    rcases he with rfl
    · exact m_ssetb) Tryd.func24 rfl (by kernel_rfl) r_scalar rfl

def p_isz : Path := ⟨[.pr (.bin .eql .u32) [.var 18, .lit 0], .pr (.bin .or .u32) [.var 17, .var 9], .pr (.bin .or .u32) [.var 16, .var 8], .pr (.bin .or .u32) [.var 15, .var 7], .pr (.bin .or .u32) [.var 14, .var 6], .pr (.bin .or .u32) [.var 13, .var 5], .pr (.bin .or .u32) [.var 12, .var 4], .pr (.bin .or .u32) [.var 11, .var 3], .pr (.bin .or .u32) [.var 10, .var 2], .pr (.bin .or .u32) [.var 0, .var 1]], [], [.var 19]⟩
def G_isz : List Entry := []
def p_iso : Path := ⟨[.pr (.bin .eql .u32) [.var 19, .lit 0], .pr (.bin .or .u32) [.var 18, .var 9], .pr (.bin .or .u32) [.var 17, .var 8], .pr (.bin .or .u32) [.var 16, .var 7], .pr (.bin .or .u32) [.var 15, .var 6], .pr (.bin .or .u32) [.var 14, .var 5], .pr (.bin .or .u32) [.var 13, .var 4], .pr (.bin .or .u32) [.var 12, .var 3], .pr (.bin .or .u32) [.var 11, .var 2], .pr (.bin .or .u32) [.var 10, .var 1], .pr (.bin .xor .u32) [.var 0, .lit 1]], [], [.var 20]⟩
def G_iso : List Entry := []
def p_isd : Path := ⟨[.pr (.bin .eql .u32) [.var 10, .lit 1], .pr (.bin .and .u32) [.var 0, .lit 1]], [], [.var 11]⟩
def G_isd : List Entry := []
def p_equ : Path := ⟨[.pr (.bin .eql .u32) [.var 38, .lit 0], .pr (.bin .or .u32) [.var 36, .var 37], .pr (.bin .xor .u32) [.var 9, .var 19], .pr (.bin .or .u32) [.var 34, .var 35], .pr (.bin .xor .u32) [.var 8, .var 18], .pr (.bin .or .u32) [.var 32, .var 33], .pr (.bin .xor .u32) [.var 7, .var 17], .pr (.bin .or .u32) [.var 30, .var 31], .pr (.bin .xor .u32) [.var 6, .var 16], .pr (.bin .or .u32) [.var 28, .var 29], .pr (.bin .xor .u32) [.var 5, .var 15], .pr (.bin .or .u32) [.var 26, .var 27], .pr (.bin .xor .u32) [.var 4, .var 14], .pr (.bin .or .u32) [.var 24, .var 25], .pr (.bin .xor .u32) [.var 3, .var 13], .pr (.bin .or .u32) [.var 22, .var 23], .pr (.bin .xor .u32) [.var 2, .var 12], .pr (.bin .or .u32) [.var 20, .var 21], .pr (.bin .xor .u32) [.var 1, .var 11], .pr (.bin .xor .u32) [.var 0, .var 10]], [], [.var 39]⟩
def G_equ : List Entry := []
def p_far : Path := ⟨[.pr (.bin .neq .u32) [.var 54, .lit 0], .pr (.bin .or .u32) [.var 49, .var 53], .pr (.bin .and .u32) [.var 51, .var 52], .app 2 [.var 0, .lit 63552238] 1, .pr (.bin .and .u32) [.var 46, .var 50], .app 0 [.var 1, .lit 57171083] 1, .pr (.bin .or .u32) [.var 44, .var 48], .pr (.bin .and .u32) [.var 46, .var 47], .app 1 [.var 1, .lit 57171083] 1, .pr (.bin .and .u32) [.var 41, .var 45], .app 0 [.var 2, .lit 33309698] 1, .pr (.bin .or .u32) [.var 39, .var 43], .pr (.bin .and .u32) [.var 41, .var 42], .app 1 [.var 2, .lit 33309698] 1, .pr (.bin .and .u32) [.var 36, .var 40], .app 0 [.var 3, .lit 6636253] 1, .pr (.bin .or .u32) [.var 34, .var 38], .pr (.bin .and .u32) [.var 36, .var 37], .app 1 [.var 3, .lit 6636253] 1, .pr (.bin .and .u32) [.var 31, .var 35], .app 0 [.var 4, .lit 21319971] 1, .pr (.bin .or .u32) [.var 29, .var 33], .pr (.bin .and .u32) [.var 31, .var 32], .app 1 [.var 4, .lit 21319971] 1, .pr (.bin .and .u32) [.var 26, .var 30], .app 0 [.var 5, .lit 0] 1, .pr (.bin .or .u32) [.var 24, .var 28], .pr (.bin .and .u32) [.var 26, .var 27], .app 1 [.var 5, .lit 0] 1, .pr (.bin .and .u32) [.var 21, .var 25], .app 0 [.var 6, .lit 0] 1, .pr (.bin .or .u32) [.var 19, .var 23], .pr (.bin .and .u32) [.var 21, .var 22], .app 1 [.var 6, .lit 0] 1, .pr (.bin .and .u32) [.var 16, .var 20], .app 0 [.var 7, .lit 0] 1, .pr (.bin .or .u32) [.var 14, .var 18], .pr (.bin .and .u32) [.var 16, .var 17], .app 1 [.var 7, .lit 0] 1, .pr (.bin .and .u32) [.var 11, .var 15], .app 0 [.var 8, .lit 0] 1, .pr (.bin .or .u32) [.var 10, .var 13], .pr (.bin .and .u32) [.var 11, .var 12], .app 1 [.var 8, .lit 0] 1, .app 0 [.var 9, .lit 0] 1, .app 1 [.var 9, .lit 0] 1], [], [.var 55]⟩
def G_far : List Entry := [e_eq, e_gt, e_ge]
def p_sisz : Path := ⟨[.pr (.bin .eql .u32) [.var 14, .lit 0], .pr (.bin .or .u32) [.var 13, .var 7], .pr (.bin .or .u32) [.var 12, .var 6], .pr (.bin .or .u32) [.var 11, .var 5], .pr (.bin .or .u32) [.var 10, .var 4], .pr (.bin .or .u32) [.var 9, .var 3], .pr (.bin .or .u32) [.var 8, .var 2], .pr (.bin .or .u32) [.var 0, .var 1]], [], [.var 15]⟩
def G_sisz : List Entry := []
def e_sisz : Entry := { f := 35, args := [.ptr (List.replicate 8 (some .u32)) false], res := [.bool], F := p_sisz.out G_sisz }
theorem r_sisz : runFn Tryd.prog G_sisz e_sisz Tryd.f35.ntmps Tryd.f35.results.toList (Tryd.f35.body.getD .skip) = some ([], [p_sisz]) := by kernel_rfl
theorem m_sisz : Meets Tryd.prog e_sisz :=
  meets_single mixed (fun e he => by simp [G_sisz] at he) Tryd.func35 rfl (by kernel_rfl) r_sisz rfl

def p_sisd : Path := ⟨[.pr (.bin .eql .u32) [.var 8, .lit 1], .pr (.bin .and .u32) [.var 0, .lit 1]], [], [.var 9]⟩
def G_sisd : List Entry := []
def p_sequ : Path := ⟨[.pr (.bin .eql .u32) [.var 30, .lit 0], .pr (.bin .or .u32) [.var 28, .var 29], .pr (.bin .xor .u32) [.var 7, .var 15], .pr (.bin .or .u32) [.var 26, .var 27], .pr (.bin .xor .u32) [.var 6, .var 14], .pr (.bin .or .u32) [.var 24, .var 25], .pr (.bin .xor .u32) [.var 5, .var 13], .pr (.bin .or .u32) [.var 22, .var 23], .pr (.bin .xor .u32) [.var 4, .var 12], .pr (.bin .or .u32) [.var 20, .var 21], .pr (.bin .xor .u32) [.var 3, .var 11], .pr (.bin .or .u32) [.var 18, .var 19], .pr (.bin .xor .u32) [.var 2, .var 10], .pr (.bin .or .u32) [.var 16, .var 17], .pr (.bin .xor .u32) [.var 1, .var 9], .pr (.bin .xor .u32) [.var 0, .var 8]], [], [.var 31]⟩
def G_sequ : List Entry := []
def p_shi : Path := ⟨[.pr (.bin .neq .u32) [.var 33, .lit 0], .pr (.bin .or .u32) [.var 28, .var 32], .pr (.bin .and .u32) [.var 30, .var 31], .app 1 [.var 0, .lit 1746608288] 1, .pr (.bin .and .u32) [.var 25, .var 29], .app 0 [.var 1, .lit 3756601158] 1, .pr (.bin .or .u32) [.var 23, .var 27], .pr (.bin .and .u32) [.var 25, .var 26], .app 1 [.var 1, .lit 3756601158] 1, .pr (.bin .and .u32) [.var 20, .var 24], .app 0 [.var 2, .lit 1470386205] 1, .pr (.bin .or .u32) [.var 18, .var 22], .pr (.bin .and .u32) [.var 20, .var 21], .app 1 [.var 2, .lit 1470386205] 1, .pr (.bin .and .u32) [.var 15, .var 19], .app 0 [.var 3, .lit 1566010995] 1, .pr (.bin .or .u32) [.var 8, .var 17], .pr (.bin .and .u32) [.var 15, .var 16], .app 1 [.var 3, .lit 1566010995] 1, .pr (.bin .and .u32) [.var 13, .var 14], .app 0 [.var 4, .lit 4294967295] 1, .pr (.bin .and .u32) [.var 11, .var 12], .app 0 [.var 5, .lit 4294967295] 1, .pr (.bin .and .u32) [.var 9, .var 10], .app 0 [.var 6, .lit 4294967295] 1, .app 0 [.var 7, .lit 2147483647] 1, .app 1 [.var 7, .lit 2147483647] 1], [], [.var 34]⟩
def G_shi : List Entry := [e_eq, e_gt, e_ge]
def e_shi : Entry := { f := 31, args := [.ptr (List.replicate 8 (some .u32)) false], res := [.bool], F := p_shi.out G_shi }
theorem r_shi : runFn Tryd.prog G_shi e_shi Tryd.f31.ntmps Tryd.f31.results.toList (Tryd.f31.body.getD .skip) = some ([], [p_shi]) := by kernel_rfl
theorem m_shi : Meets Tryd.prog e_shi :=
  meets_single mixed (fun e he => by
    simp only [G_shi, List.mem_cons, List.not_mem_nil, or_false] at he
    rcases he with rfl | rfl | rfl
    · exact m_eq
    · exact m_gt
    · exact m_ge) Tryd.func31 rfl (by kernel_rfl) r_shi rfl

def p_uzer : Path := ⟨[.pr (.eqs [false, false, false, false]) [.var 0, .lit 0, .var 1, .lit 0, .var 2, .lit 0, .var 3, .lit 0]], [], [.var 4]⟩
def G_uzer : List Entry := []
def e_uzer : Entry := { f := 27, args := [.agg (List.replicate 4 (some .u64))], res := [.bool], F := p_uzer.out G_uzer }
theorem r_uzer : runFn Tryd.prog G_uzer e_uzer Tryd.f27.ntmps Tryd.f27.results.toList (Tryd.f27.body.getD .skip) = some ([], [p_uzer]) := by kernel_rfl
theorem m_uzer : Meets Tryd.prog e_uzer :=
  meets_single mixed (fun e he => by simp [G_uzer] at he) Tryd.func27 rfl (by kernel_rfl) r_uzer rfl

def p_uodd : Path := ⟨[.pr (.bin .eql .u64) [.var 4, .lit 1], .pr (.bin .rem .u64) [.var 0, .lit 2]], [], [.var 5]⟩
def G_uodd : List Entry := []
def p_half : Path := ⟨[.pr (.bin .or .u64) [.var 14, .var 15], .pr (.bin .shl .u64) [.var 4, .lit 63], .pr (.bin .shr .u64) [.var 3, .lit 1], .pr (.bin .or .u64) [.var 11, .var 12], .pr (.bin .shl .u64) [.var 3, .lit 63], .pr (.bin .shr .u64) [.var 2, .lit 1], .pr (.bin .or .u64) [.var 8, .var 9], .pr (.bin .shl .u64) [.var 2, .lit 63], .pr (.bin .shr .u64) [.var 1, .lit 1], .pr (.bin .or .u64) [.var 5, .var 6], .pr (.bin .shl .u64) [.var 1, .lit 63], .pr (.bin .shr .u64) [.var 0, .lit 1]], [], [.var 7, .var 10, .var 13, .var 16]⟩
def G_half : List Entry := []
def e_half : Entry := { f := 17, args := [.agg (List.replicate 4 (some .u64)), .int .u64], res := [.agg (List.replicate 4 (some .u64))], F := p_half.out G_half }
theorem r_half : runFn Tryd.prog G_half e_half Tryd.f17.ntmps Tryd.f17.results.toList (Tryd.f17.body.getD .skip) = some ([], [p_half]) := by kernel_rfl
theorem m_half : Meets Tryd.prog e_half :=
  meets_single mixed (fun e he => by simp [G_half] at he) Tryd.func17 rfl (by kernel_rfl) r_half rfl

def p_low : Path := ⟨[.pr (.neg) [.var 16], .app 3 [.var 12, .var 13, .var 14, .var 15, .var 0, .var 1, .var 2, .var 3] 1, .app 2 [.var 8, .var 9, .var 10, .var 11, .lit 0] 4, .app 1 [.var 4, .var 5, .var 6, .var 7, .lit 1, .lit 0, .lit 0, .lit 0] 4, .app 0 [] 4], [], [.var 17]⟩
def G_low : List Entry := [e_order, e_lof, e_half, e_uless]
def e_low : Entry := { f := 7, args := [.agg (List.replicate 4 (some .u64))], res := [.bool], F := p_low.out G_low }
theorem r_low : runFn Tryd.prog G_low e_low Tryd.f7.ntmps Tryd.f7.results.toList (Tryd.f7.body.getD .skip) = some ([], [p_low]) := by kernel_rfl
theorem m_low : Meets Tryd.prog e_low :=
  meets_single mixed (fun e he => by
    simp only [G_low, List.mem_cons, List.not_mem_nil, or_false] at he
    rcases he with rfl | rfl | rfl | rfl
    · exact m_order
    · exact m_lof
    · exact m_half
    · exact m_uless) Tryd.func7 rfl (by kernel_rfl) r_low rfl

def p_fasks : Path := ⟨[.app 5 [.var 64, .var 65, .var 66, .var 67, .var 68, .var 69, .var 70, .var 71, .var 72, .var 73] 1, .app 4 [.var 64, .var 65, .var 66, .var 67, .var 68, .var 69, .var 70, .var 71, .var 72, .var 73, .var 74, .var 75, .var 76, .var 77, .var 78, .var 79, .var 80, .var 81, .var 82, .var 83] 1, .app 3 [.var 64, .var 65, .var 66, .var 67, .var 68, .var 69, .var 70, .var 71, .var 72, .var 73] 1, .app 2 [.var 64, .var 65, .var 66, .var 67, .var 68, .var 69, .var 70, .var 71, .var 72, .var 73] 1, .app 1 [.var 64, .var 65, .var 66, .var 67, .var 68, .var 69, .var 70, .var 71, .var 72, .var 73] 1, .app 0 [.var 32, .var 33, .var 34, .var 35, .var 36, .var 37, .var 38, .var 39, .var 40, .var 41, .var 42, .var 43, .var 44, .var 45, .var 46, .var 47, .var 48, .var 49, .var 50, .var 51, .var 52, .var 53, .var 54, .var 55, .var 56, .var 57, .var 58, .var 59, .var 60, .var 61, .var 62, .var 63] 10, .app 0 [.var 0, .var 1, .var 2, .var 3, .var 4, .var 5, .var 6, .var 7, .var 8, .var 9, .var 10, .var 11, .var 12, .var 13, .var 14, .var 15, .var 16, .var 17, .var 18, .var 19, .var 20, .var 21, .var 22, .var 23, .var 24, .var 25, .var 26, .var 27, .var 28, .var 29, .var 30, .var 31] 10], [], [.var 84, .var 85, .var 86, .var 87, .var 88]⟩
def p_sasks : Path := ⟨[.app 3 [.var 64, .var 65, .var 66, .var 67, .var 68, .var 69, .var 70, .var 71, .var 72, .var 73, .var 74, .var 75, .var 76, .var 77, .var 78, .var 79] 1, .app 4 [.var 64, .var 65, .var 66, .var 67, .var 68, .var 69, .var 70, .var 71] 1, .app 2 [.var 64, .var 65, .var 66, .var 67, .var 68, .var 69, .var 70, .var 71] 1, .app 1 [.var 64, .var 65, .var 66, .var 67, .var 68, .var 69, .var 70, .var 71] 1, .app 0 [.var 32, .var 33, .var 34, .var 35, .var 36, .var 37, .var 38, .var 39, .var 40, .var 41, .var 42, .var 43, .var 44, .var 45, .var 46, .var 47, .var 48, .var 49, .var 50, .var 51, .var 52, .var 53, .var 54, .var 55, .var 56, .var 57, .var 58, .var 59, .var 60, .var 61, .var 62, .var 63] 8, .app 0 [.var 0, .var 1, .var 2, .var 3, .var 4, .var 5, .var 6, .var 7, .var 8, .var 9, .var 10, .var 11, .var 12, .var 13, .var 14, .var 15, .var 16, .var 17, .var 18, .var 19, .var 20, .var 21, .var 22, .var 23, .var 24, .var 25, .var 26, .var 27, .var 28, .var 29, .var 30, .var 31] 8], [], [.var 80, .var 81, .var 82, .var 83]⟩
end Go.Proofs.YtfeancgmmonebaaDoor.Sx
