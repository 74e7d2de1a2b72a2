/-
  A whole function: from a symbolic run, reckoned by the kernel, to a contract. Conditions: none; each theorem bears its own.
-/
import Derived.Test.YtfeancgmmonebaaDoorMgf
namespace Go.Proofs.YtfeancgmmonebaaDoor.Sx
open Go

/-! ## 1. The start -/

def initTm : Nat → List SV → Tr SV → Tr SV
  | _, [], t => t
  | i, v :: vs, t => initTm (i + 1) vs (Tr.set 20 t i (some v))

theorem initTm_get : ∀ (vs : List SV) (i : Nat) (t : Tr SV) (m : Nat) (y : SV), (initTm i vs t).get m = some y → (i ≤ m ∧ vs[m - i]? = some y) ∨ ((m < i ∨ i + vs.length ≤ m) ∧ t.get m = some y)
  | [], i, t, m, y, h => .inr ⟨by simp; omega, h⟩
  | v :: vs, i, t, m, y, h => by
    rcases initTm_get vs (i + 1) _ m y h with ⟨h1, h2⟩ | ⟨h1, h2⟩
    · exact .inl ⟨by omega, by rw [show m - i = (m - (i + 1)) + 1 by omega]; simpa using h2⟩
    · rcases Tr.get_set _ _ _ _ _ _ h2 with ⟨rfl, e⟩ | ⟨hne, h3⟩
      · exact .inl ⟨Nat.le_refl _, by simpa using e⟩
      · refine .inr ⟨?_, h3⟩
        simp only [List.length_cons]
        omega

def start (e : Entry) (nt : Nat) : St := { nt := nt, tm := initTm 0 (ini e.args).args .nil, mem := (ini e.args).mem, n := (ini e.args).n, defs := [], asm := [] }

def okStart (e : Entry) (nt : Nat) : Bool :=
  (ini e.args).args.all (SV.ok (ini e.args).n (ini e.args).mem.length) && (ini e.args).mem.all (fun so => so.cells.all (SC.ok (ini e.args).n (ini e.args).mem.length)) && Nat.ble (ini e.args).args.length nt

theorem start_relA {Γ : List Entry} {e : Entry} {nt : Nat} (hok : okStart e nt = true) {base : List Int} {bs : List (Nat × Nat)} (hb : base.length = (ini e.args).n) (hbs : bs.length = (ini e.args).mem.length) :
    RelA Γ base ⟨base, bs⟩ (start e nt) { tmps := ((ini e.args).args.map (SV.den ⟨base, bs⟩)).toArray ++ Array.replicate (nt - (((ini e.args).args.map (SV.den ⟨base, bs⟩)).toArray).size) undef, defers := [] } := by
  simp only [okStart, Bool.and_eq_true, Nat.ble_eq] at hok
  obtain ⟨⟨h1, h2⟩, h3⟩ := hok
  refine ⟨rfl, hb, hbs, ?_, rfl, ?_, (fun c hc => by cases hc), (fun c hc => by cases hc)⟩
  · simp [start]; omega
  · intro t sv ht
    rcases initTm_get _ _ _ _ _ ht with ⟨_, h⟩ | ⟨_, h⟩
    · rw [Nat.sub_zero] at h
      refine ⟨List.all_eq_true.1 h1 sv (List.mem_of_getElem? h), ?_⟩
      have hlt := (List.getElem?_eq_some_iff.1 h).1
      rw [Array.getElem?_append_left (by simpa using hlt)]
      simp [h]
    · simp [Tr.get] at h

theorem start_relM {e : Entry} {nt : Nat} (hok : okStart e nt = true) {base : List Int} {bs : List (Nat × Nat)} {w : World} (hm : MemOk w ⟨base, bs⟩ (ini e.args).mem) (hd : Dis ⟨base, bs⟩ (ini e.args).mem) :
    RelM (WOf ⟨base, bs⟩ (ini e.args).mem) w bs ⟨base, bs⟩ (start e nt) w := by
  simp only [okStart, Bool.and_eq_true, Nat.ble_eq] at hok
  obtain ⟨⟨h1, h2⟩, h3⟩ := hok
  exact ⟨hm, fun o so ho => List.all_eq_true.1 h2 so (List.mem_of_getElem? ho), hd, fun o so ho hw => .inr fun j hj => ⟨o, so, ho, hw, rfl, by omega, by omega⟩, Fr.refl _ _, [], by simp⟩

/-! ## 2. Results -/

def resOne (P : Program) (s : St) (r : ResultVar) : Option S1 :=
  match r with
  | .tmp t => match s.tm.get t with
    | some (.one v) => some v
    | _ => none
  | .cell a T => match s.tm.get a with
    | some (.one (.sc (.ptr o d))) => match s.mem[o]? with
      | some so => match isAggB P T, szOf P T with
        | some true, some n => if decide (d + n ≤ so.cells.length) then some (.agg ((so.cells.drop d).take n)) else none
        | some false, _ => (so.cells[d]?).map .sc
        | _, _ => none
      | none => none
    | _ => none

def resAll (P : Program) (s : St) : List ResultVar → Option (List S1)
  | [] => some []
  | r :: rs => match resOne P s r, resAll P s rs with
    | some v, some vs => some (v :: vs)
    | _, _ => none

def resF (tmps : Array Value) (r : ResultVar) : Sem Value :=
  match r with
  | .tmp t => pure (tmps.getD t undef)
  | .cell a t => do loadVar t (← asAddr (tmps.getD a undef))

theorem resOne_run {P : Program} {Γ : List Entry} {base : List Int} {ρ : En} {s : St} {a : Act} (hA : RelA Γ base ρ s a) {w : World} (hM : ObjsOk w ρ s) {r : ResultVar} {v : S1} (h : resOne P s r = some v) :
    (resF a.tmps r).run P w = .ok (v.den ρ) w := by
  cases r with
  | tmp t =>
    simp only [resOne] at h
    split at h
    · rename_i v' ht
      cases h
      have := (hA.tm t _ ht).2
      simp [resF, this, SV.den]
    · cases h
  | cell x T =>
    simp only [resOne] at h
    split at h
    · rename_i o d ht
      have hx := (hA.tm x _ ht).2
      split at h
      · rename_i so hso
        have ho := hM o so hso
        split at h
        · rename_i n ha hz
          split at h
          · rename_i hn
            cases h
            have := run_loadAt (P := P) (w := w) (ρ := ρ) ha hz (by simpa using hn) ho.cell
            simp only [Instr.loadAt, Instr.sureAddr] at this
            simp [resF, hx, SV.den, S1.den, SC.den, asAddr]
            simpa using this
          · cases h
        · rename_i ha
          obtain ⟨c, hc, rfl⟩ := Option.map_eq_some_iff.1 h
          have := ho.cell d c hc
          simp [resF, hx, SV.den, S1.den, SC.den, asAddr, loadVar, run_isAggB ha, this]
        · cases h
      · cases h
    · cases h

theorem resAll_run {P : Program} {Γ : List Entry} {base : List Int} {ρ : En} {s : St} {a : Act} (hA : RelA Γ base ρ s a) {w : World} (hM : ObjsOk w ρ s) : ∀ {l : List ResultVar} {vs : List S1}, resAll P s l = some vs →
    (l.mapM (resF a.tmps)).run P w = .ok (vs.map (S1.den ρ)) w
  | [], vs, h => by cases h; rfl
  | r :: l, vs, h => by
    unfold resAll at h
    split at h
    · rename_i v vs' h1 h2
      cases h
      simp [List.mapM_cons, resOne_run hA hM h1, resAll_run hA hM h2]
    · cases h

theorem retOf_den (ρ : En) (vs : List S1) : (retOf vs).den ρ = if h : (vs.map (S1.den ρ)).length = 1 then (vs.map (S1.den ρ))[0]'(by omega) else .tuple (vs.map (S1.den ρ)).toArray := by
  match vs with
  | [] => rfl
  | [v] => rfl
  | v :: u :: r => rfl

theorem results_run {P : Program} {Γ : List Entry} {base : List Int} {ρ : En} {s : St} {a : Act} (hA : RelA Γ base ρ s a) {w : World} (hM : ObjsOk w ρ s) {fn : Func} {vs : List S1} (h : resAll P s fn.results.toList = some vs) :
    (results fn a.tmps).run P w = .ok ((retOf vs).den ρ) w := by
  have h1 := resAll_run hA hM h
  have h2 : (fn.results.mapM (resF a.tmps)).run P w = .ok (vs.map (S1.den ρ)).toArray w := by
    rw [Array.mapM_eq_mapM_toList]
    simp [h1]
  have h3 : results fn a.tmps = (do let us ← fn.results.mapM (resF a.tmps); pure (if h : us.size = 1 then us[0] else .tuple us)) := by
    unfold results
    congr 1
  rw [h3]
  simp only [Sem.run_bind, h2, Result.andThen_ok, Sem.run_pure]
  rw [retOf_den]
  simp

/-! ## 3. A function's run -/

structure Path where
  defs : List Def
  asm : List (SI × Bool)
  outs : List SI

def outW (s : St) : Nat → List SO → List SI
  | _, [] => []
  | p, so :: r => if so.w then (match s.mem[p]? with | some x => siOf x.cells | none => []) ++ outW s (p + 1) r else outW s (p + 1) r

def outR (s : St) : List RSh → List S1 → List SI
  | .new ks :: rs, .sc (.ptr o d) :: vs => (match s.mem[o]? with | some x => siOf ((x.cells.drop d).take ks.length) | none => []) ++ outR s rs vs
  | .int _ :: rs, v :: vs => siOf v.cells ++ outR s rs vs
  | .bool :: rs, v :: vs => siOf v.cells ++ outR s rs vs
  | .agg _ :: rs, v :: vs => siOf v.cells ++ outR s rs vs
  | _ :: rs, _ :: vs => outR s rs vs
  | _, _ => []

def newsOf : List RSh → List S1 → List (Nat × Nat)
  | .new _ :: rs, .sc (.ptr o d) :: vs => (o, d) :: newsOf rs vs
  | _ :: rs, _ :: vs => newsOf rs vs
  | _, _ => []

def idOs : Nat → Nat → List (Nat × Nat)
  | _, 0 => []
  | i, n + 1 => (i, 0) :: idOs (i + 1) n

def idXs : Nat → Nat → List SI
  | _, 0 => []
  | i, n + 1 => .var i :: idXs (i + 1) n

def pathOf (P : Program) (e : Entry) (rs : List ResultVar) (s : St) : Option Path :=
  match resAll P s rs with
  | none => none
  | some vs =>
    let i := ini e.args
    let outs := outW s 0 i.mem ++ outR s e.res vs
    let nw := newsOf e.res vs
    let τ : Sub := ⟨idXs 0 i.n ++ outs, s.n, idOs 0 i.mem.length ++ nw, s.mem.length⟩
    if Nat.beq (i.n + outs.length) (fin e).n && Nat.beq (i.mem.length + nw.length) (fin e).mem.length && outs.all (SI.ok s.n) && nw.all (fun p => Nat.ble i.mem.length p.1 && Nat.blt p.1 s.mem.length)
        && Nat.ble i.n s.n && Nat.ble i.mem.length s.mem.length
        && lbeq S1.beq ((fin e).res.map τ.s1) vs && chkMem s τ (fin e).mem && chkDis τ (fin e).mem && chkFin i.mem (fin e).mem then
      some ⟨s.defs, s.asm, outs⟩
    else none

def pathsOf (P : Program) (e : Entry) (rs : List ResultVar) : List (EK × St) → Option (List Path)
  | [] => some []
  | (.exit _, _) :: _ => none
  | (_, s) :: r => match pathOf P e rs s, pathsOf P e rs r with
    | some p, some ps => some (p :: ps)
    | _, _ => none

def runFn (P : Program) (Γ : List Entry) (e : Entry) (nt : Nat) (rs : List ResultVar) (c : Code) : Option (List Need × List Path) :=
  if okStart e nt then
    match exec P Γ 4000 c (start e nt) with
    | some (nds, outs) => match pathsOf P e rs outs with
      | some ps => some (nds, ps)
      | none => none
    | none => none
  else none

def goFunc (P : Program) (f : FuncId) : Bool :=
  match P.funcs[f]? with
  | some fn => fn.body.isSome && !(fn.name == "runtime.NumGoroutine")
  | none => false

theorem goFunc_run {P : Program} {f : FuncId} (h : goFunc P f = true) (args : Array Value) (w : World) : (callFunc f args).run P w = .ok (.enter f args) w := by
  unfold goFunc at h
  split at h
  · rename_i fn hf
    simp only [Bool.and_eq_true, Bool.not_eq_true'] at h
    have hb : ¬ fn.body.isNone = true := by
      cases hq : fn.body with
      | none => rw [hq] at h; simp at h
      | some c => simp
    have hnm : ¬ (fn.name == "runtime.NumGoroutine") = true := by rw [h.2]; simp
    simp only [callFunc, Sem.run_bind, run_program, Result.andThen_ok, hf]
    rw [if_neg hnm, if_neg hb]
    rfl
  · cases h

theorem pathsOf_spec {P : Program} {e : Entry} {rs : List ResultVar} : ∀ {outs : List (EK × St)} {ps : List Path}, pathsOf P e rs outs = some ps → ∀ x ∈ outs, (x.1 = .normal ∨ x.1 = .ret) ∧ ∃ p ∈ ps, pathOf P e rs x.2 = some p
  | [], _, _, x, hx => by cases hx
  | (ek, s) :: r, ps, h, x, hx => by
    have key : ∀ (hne : ek = .normal ∨ ek = .ret), (match pathOf P e rs s, pathsOf P e rs r with | some p, some ps => some (p :: ps) | _, _ => none) = some ps →
        (x.1 = .normal ∨ x.1 = .ret) ∧ ∃ p ∈ ps, pathOf P e rs x.2 = some p := by
      intro hne h
      split at h
      · rename_i p ps' h1 h2
        cases h
        rcases List.mem_cons.1 hx with rfl | hx
        · exact ⟨hne, p, by simp, h1⟩
        · obtain ⟨g1, p', g2, g3⟩ := pathsOf_spec h2 x hx
          exact ⟨g1, p', by simp [g2], g3⟩
      · cases h
    cases ek with
    | exit id => simp [pathsOf] at h
    | normal => exact key (.inl rfl) h
    | ret => exact key (.inr rfl) h

theorem idXs_val (e : List Int) : ∀ (n i : Nat), (idXs i n).map (·.val e) = (List.range n).map fun j => e.getD (i + j) 0
  | 0, i => rfl
  | n + 1, i => by
    simp only [idXs, List.map_cons, idXs_val e n (i + 1), List.range_succ_eq_map, List.map_map, SI.val_var, Nat.add_zero]
    congr 1
    refine List.map_congr_left fun j _ => ?_
    simp only [Function.comp]
    rw [show i + 1 + j = i + (j + 1) by omega]

theorem idXs_base (base l : List Int) : (idXs 0 base.length).map (·.val (base ++ l)) = base := by
  rw [idXs_val]
  apply List.ext_getElem?
  intro j
  by_cases hj : j < base.length
  · simp [hj, List.getD, List.getElem?_append_left hj]
  · simp [hj]

theorem idOs_map (f : Nat → Nat × Nat) : ∀ (n i : Nat), (idOs i n).map (fun p => ((f p.1).1, (f p.1).2 + p.2)) = (List.range n).map fun j => f (i + j)
  | 0, i => rfl
  | n + 1, i => by
    simp only [idOs, List.map_cons, idOs_map f n (i + 1), List.range_succ_eq_map, List.map_map, Nat.add_zero]
    congr 1
    refine List.map_congr_left fun j _ => ?_
    simp only [Function.comp]
    rw [show i + 1 + j = i + (j + 1) by omega]

theorem idXs_length : ∀ (n i : Nat), (idXs i n).length = n
  | 0, _ => rfl
  | n + 1, i => by simp [idXs, idXs_length n]

theorem idOs_length : ∀ (n i : Nat), (idOs i n).length = n
  | 0, _ => rfl
  | n + 1, i => by simp [idOs, idOs_length n]

theorem idXs_ok (m : Nat) : ∀ (n i : Nat), i + n ≤ m → (idXs i n).all (SI.ok m) = true
  | 0, _, _ => rfl
  | n + 1, i, h => by
    simp only [idXs, List.all_cons, Bool.and_eq_true]
    exact ⟨by simp [SI.ok]; omega, idXs_ok m n (i + 1) (by omega)⟩

theorem idOs_ok (m : Nat) : ∀ (n i : Nat), i + n ≤ m → (idOs i n).all (fun p => Nat.blt p.1 m) = true
  | 0, _, _ => rfl
  | n + 1, i, h => by
    simp only [idOs, List.all_cons, Bool.and_eq_true]
    exact ⟨by simp; omega, idOs_ok m n (i + 1) (by omega)⟩

theorem runR_prefix (Γ : List Entry) (base : List Int) : ∀ (ds : List Def), ∃ l, runR Γ ds base = base ++ l
  | [] => ⟨[], by simp [runR]⟩
  | d :: ds => by
    obtain ⟨l, hl⟩ := runR_prefix Γ base ds
    exact ⟨l ++ d.ev Γ (runR Γ ds base), by simp only [runR]; conv => lhs; lhs; rw [hl]
                                            simp⟩

theorem fit_self : ∀ (l : List Int), fit l.length l = l
  | [] => rfl
  | x :: l => by simp [fit, fit_self l]

theorem range_base (bs p : List (Nat × Nat)) (e : List Int) : ((List.range bs.length).map fun j => (En.blk ⟨e, bs ++ p⟩ j, En.off ⟨e, bs ++ p⟩ j)) = bs := by
  apply List.ext_getElem?
  intro j
  by_cases hj : j < bs.length
  · simp [hj, En.blk, En.off, List.getD, List.getElem?_append_left hj]
  · simp [hj]

/-- THE CONTRACT OF A FUNCTION, out of its symbolic run: what is owed must hold under the entry's condition, and on each path whose tests hold 'F' must be what the path gives. -/
theorem meets_of_run {P : Program} {Γ : List Entry} {e : Entry} {fn : Func} {c : Code} (hmix : P.follows .mixedOrders = true) (hΓ : ∀ e ∈ Γ, Meets P e) (hf : P.funcs[e.f]? = some fn) (hb : fn.body = some c)
    (hgo : goFunc P e.f = true) {nds : List Need} {ps : List Path} (h : runFn P Γ e fn.ntmps fn.results.toList c = some (nds, ps))
    (hn : ∀ base : List Int, base.length = (ini e.args).n → (e.free = false → e.Pre base) → ∀ nd ∈ nds, nd.holds Γ base)
    (hF : ∀ base : List Int, base.length = (ini e.args).n → (e.free = false → e.Pre base) → ∀ p ∈ ps, asmHolds (runR Γ p.defs base) p.asm → e.F base = p.outs.map (·.val (runR Γ p.defs base))) : Meets P e := by
  unfold runFn at h
  split at h
  case isFalse => cases h
  rename_i hok
  split at h
  case h_2 => cases h
  rename_i nds' outs hex
  split at h
  case h_2 => cases h
  rename_i ps' hps
  simp only [Option.some.injEq, Prod.mk.injEq] at h
  obtain ⟨rfl, rfl⟩ := h
  intro base bs w hbl hbsl hpre hm hd
  refine .inl ⟨goFunc_run hgo _ _, ?_⟩
  refine calls_of_wp hf hb ?_
  refine exec_sound hmix hΓ 4000 c _ (start e fn.ntmps) ⟨base, bs⟩ _ w _ outs hex (hn base hbl hpre) (start_relA hok hbl hbsl) (start_relM hok hm hd) fun x hx ρ' a' w' hA hM => ?_
  obtain ⟨hx1, p, hp, hpath⟩ := pathsOf_spec hps x hx
  unfold pathOf at hpath
  split at hpath
  · cases hpath
  rename_i vs hvs
  simp only at hpath
  generalize houts : outW x.2 0 (ini e.args).mem ++ outR x.2 e.res vs = os at hpath
  generalize hnw : newsOf e.res vs = nw at hpath
  split at hpath
  case isFalse => cases hpath
  rename_i hc
  cases hpath
  simp only [Bool.and_eq_true, Nat.ble_eq] at hc
  obtain ⟨⟨⟨⟨⟨⟨⟨⟨⟨c1, c2⟩, c3⟩, c4⟩, c5⟩, c6⟩, c7⟩, c8⟩, c9⟩, c10⟩ := hc
  obtain ⟨f1, f2, f3⟩ := chkFin_spec c10
  have c1 := Nat.eq_of_beq_eq_true c1
  have c2 := Nat.eq_of_beq_eq_true c2
  have c7 := lbeq_eq S1.beq_eq _ _ c7
  generalize hτ : (⟨idXs 0 (ini e.args).n ++ os, x.2.n, idOs 0 (ini e.args).mem.length ++ nw, x.2.mem.length⟩ : Sub) = τ at c7 c8 c9
  have τx : τ.xs = idXs 0 (ini e.args).n ++ os := by rw [← hτ]
  have τo : τ.os = idOs 0 (ini e.args).mem.length ++ nw := by rw [← hτ]
  have τn : τ.n0 = x.2.n := by rw [← hτ]
  have τm : τ.m0 = x.2.mem.length := by rw [← hτ]
  have he : ρ'.e.length = τ.n0 := by rw [τn]; exact hA.len
  have hoo : ρ'.o.length = τ.m0 := by rw [τm]; exact hA.lenO
  have hxx : τ.xs.all (SI.ok τ.n0) = true := by
    rw [τx, τn, List.all_append, Bool.and_eq_true]
    exact ⟨idXs_ok _ _ _ (by omega), c3⟩
  have hpp : τ.os.all (fun p => Nat.blt p.1 τ.m0) = true := by
    rw [τo, τm, List.all_append, Bool.and_eq_true]
    refine ⟨idOs_ok _ _ _ (by omega), List.all_eq_true.2 fun q hq => ?_⟩
    have := List.all_eq_true.1 c4 q hq
    simp only [Bool.and_eq_true] at this
    exact this.2
  have hFv := hF base hbl hpre _ hp (by rw [← hA.env]; exact hA.asm)
  simp only at hFv
  rw [← hA.env] at hFv
  obtain ⟨l, hl⟩ := runR_prefix Γ base x.2.defs
  rw [← hA.env] at hl
  obtain ⟨q, hq⟩ := hM.pre
  -- the contract's environment is what the path gives
  have henv : e.env base bs (nw.map fun p => (ρ'.blk p.1, ρ'.off p.1 + p.2)) = ⟨(τ.env ρ'.e ρ'.o).1, (τ.env ρ'.e ρ'.o).2⟩ := by
    simp only [Entry.env, Sub.env, τx, τo, List.map_append, En.mk.injEq]
    refine ⟨?_, ?_⟩
    · have h1 : (idXs 0 (ini e.args).n).map (·.val ρ'.e) = base := by rw [← hbl, hl]; exact idXs_base base l
      have h2 : (fin e).n - (ini e.args).n = (os.map (·.val ρ'.e)).length := by simp; omega
      rw [h1, h2, hFv, fit_self]
    · congr 1
      have := idOs_map (fun o => (En.blk ⟨ρ'.e, ρ'.o⟩ o, En.off ⟨ρ'.e, ρ'.o⟩ o)) (ini e.args).mem.length 0
      simp only [Nat.zero_add] at this
      rw [this, ← hbsl, hq]
      exact (range_base bs q ρ'.e).symm
  have hnlen : (nw.map fun p => (ρ'.blk p.1, ρ'.off p.1 + p.2)).length = nw.length := by simp
  have hout : (fun (en : Ending) (w' : World) => ∃ nb : List (Nat × Nat), (ini e.args).mem.length + nb.length = (fin e).mem.length ∧ (∀ q ∈ nb, w.heap.size ≤ q.1) ∧ Dis (e.env base bs nb) (fin e).mem ∧
        en = Ending.returned ((retOf (fin e).res).den (e.env base bs nb)) ∧ MemOk w' (e.env base bs nb) (fin e).mem ∧ Fr (WOf ⟨base, bs⟩ (ini e.args).mem) w w') (Ending.returned ((retOf vs).den ρ')) w' := by
    have hlenOs : τ.os.length = (fin e).mem.length := by rw [τo, List.length_append, idOs_length]; exact c2
    have getQ : ∀ {p : Nat} {q : Nat × Nat}, τ.os[p]? = some q → p < τ.os.length ∧ τ.os.getD p (0, 0) = q := by
      intro p q hq
      obtain ⟨h1, h2⟩ := List.getElem?_eq_some_iff.1 hq
      exact ⟨h1, by simp [List.getD, hq]⟩
    have objEq : ∀ (p : Nat), p < τ.os.length → En.blk ⟨(τ.env ρ'.e ρ'.o).1, (τ.env ρ'.e ρ'.o).2⟩ p = ρ'.blk (τ.os.getD p (0, 0)).1 ∧
        En.off ⟨(τ.env ρ'.e ρ'.o).1, (τ.env ρ'.e ρ'.o).2⟩ p = ρ'.off (τ.os.getD p (0, 0)).1 + (τ.os.getD p (0, 0)).2 := by
      intro p hp
      have := Sub.blk_env he hoo hxx hpp [] [] p hp
      simpa using this
    have denEq : ∀ c : SC, (τ.sc c).den ρ' = c.den ⟨(τ.env ρ'.e ρ'.o).1, (τ.env ρ'.e ρ'.o).2⟩ := by
      intro c
      have := Sub.sc_den he hoo hxx hpp [] [] c
      simpa using this
    refine ⟨nw.map fun p => (ρ'.blk p.1, ρ'.off p.1 + p.2), by rw [hnlen]; exact c2, ?_, ?_, ?_, ?_, hM.fr⟩
    · intro b hb
      obtain ⟨q', hq', rfl⟩ := List.mem_map.1 hb
      obtain ⟨i, hi⟩ := List.getElem?_of_mem hq'
      -- the object, as the contract has it
      have hi2 : (ini e.args).mem.length + i < (fin e).mem.length := by have := (List.getElem?_eq_some_iff.1 hi).1; omega
      obtain ⟨fo, hfo⟩ := fin_get hi2
      obtain ⟨q2, so', h1, h2, h3, h4, h5, h6⟩ := chkMem_spec c8 hfo
      have hq2 : q2 = q' := by
        rw [τo, List.getElem?_append_right (by rw [idOs_length]; omega), idOs_length, show (ini e.args).mem.length + i - (ini e.args).mem.length = i by omega, hi] at h1
        exact (Option.some.inj h1).symm
      subst hq2
      have hw : fo.w = true := f3 _ fo (by omega) hfo
      rcases hM.own q2.1 so' h2 (h4 hw) with d | d
      · exact d
      · exfalso
        obtain ⟨o1, so1, e1, e2, e3, e4, e5⟩ := d 0 (by omega)
        have ho1 := mem_lt e1
        have hge : (ini e.args).mem.length ≤ q2.1 := by
          have := List.all_eq_true.1 c4 q2 hq'
          simp only [Bool.and_eq_true, Nat.ble_eq] at this
          exact this.1
        -- the object that came in is object o1 of the state
        obtain ⟨ff, hf1⟩ := fin_get (fmem := (fin e).mem) (p := o1) (by omega)
        obtain ⟨q3, so3, g1, g2, g3, g4, g5, g6⟩ := chkMem_spec c8 hf1
        have hq3 : q3 = (o1, 0) := by
          rw [τo, List.getElem?_append_left (by rw [idOs_length]; exact ho1)] at g1
          have hid : ∀ (n i j : Nat), j < n → (idOs i n)[j]? = some (i + j, 0) := by
            intro n
            induction n with
            | zero => intro i j hj; omega
            | succ n ih =>
              intro i j hj
              cases j with
              | zero => simp [idOs]
              | succ j =>
                simp only [idOs, List.getElem?_cons_succ]
                rw [ih (i + 1) j (by omega), show i + 1 + j = i + (j + 1) by omega]
          rw [hid _ _ _ ho1] at g1
          simpa using (Option.some.inj g1).symm
        subst hq3
        have hbo : En.blk ⟨base, bs⟩ o1 = ρ'.blk o1 := by
          have := En.blk_ext base ρ'.e bs q o1 (by rw [hbsl]; exact ho1)
          rw [← hq] at this
          exact this.symm
        have hof : En.off ⟨base, bs⟩ o1 = ρ'.off o1 := by
          have := En.off_ext base ρ'.e bs q o1 (by rw [hbsl]; exact ho1)
          rw [← hq] at this
          exact this.symm
        rcases hM.dis q2.1 o1 so' so3 (by omega) h2 g2 (h4 hw) with d' | d' | d'
        · exact d' (by rw [← hbo]; exact e3.symm)
        · rw [← hof] at d'
          simp at e5
          omega
        · rw [hbo] at e3
          rw [hof] at e4 e5
          simp only [Nat.add_zero] at e4 e5
          have hlen3 := f2 o1 so1 ff e1 hf1
          omega
    · rw [henv]
      intro p1 p2 a1 a2 hne h1 h2 hw
      obtain ⟨q1, s1, g1, g2, g3, g4, g5, g6⟩ := chkMem_spec c8 h1
      obtain ⟨q2, s2, k1, k2, k3, k4, k5, k6⟩ := chkMem_spec c8 h2
      obtain ⟨hl1, hq1⟩ := getQ g1
      obtain ⟨hl2, hq2⟩ := getQ k1
      obtain ⟨b1, b2⟩ := objEq p1 hl1
      obtain ⟨b3, b4⟩ := objEq p2 hl2
      rw [hq1] at b1 b2
      rw [hq2] at b3 b4
      rw [b1, b2, b3, b4]
      by_cases hbe : q1.1 = q2.1
      · rcases chkDis_spec c9 h1 h2 g1 k1 hne hw with d | d
        · exact (d hbe).elim
        · right; rw [hbe]; omega
      · rcases hM.dis q1.1 q2.1 s1 s2 hbe g2 k2 (g4 hw) with d | d | d
        · exact .inl d
        · right; left; omega
        · right; right; omega
    · rw [henv, ← c7]
      have := Sub.sv_den he hoo hxx hpp [] [] (retOf (fin e).res)
      simp only [List.append_nil] at this
      rw [← this]
      congr 2
      generalize (fin e).res = fr
      match fr with
      | [] => rfl
      | [v] => rfl
      | v :: u :: r => rfl
    · rw [henv]
      intro p1 a1 h1
      obtain ⟨q1, s1, g1, g2, g3, g4, g5, g6⟩ := chkMem_spec c8 h1
      obtain ⟨hl1, hq1⟩ := getQ g1
      obtain ⟨b1, b2⟩ := objEq p1 hl1
      rw [hq1] at b1 b2
      have g := hM.objs q1.1 s1 g2
      refine ⟨by rw [b1]; exact g.blk, fun i c hc => ?_, fun hw i hi => ?_⟩
      · rw [b1, b2, ← denEq, Nat.add_assoc]
        exact g.cell _ _ (chkMem_cells g3 hc)
      · rw [b1, b2, Nat.add_assoc]
        exact g.thaw (g4 hw) _ (by omega)
  have hres := results_run hA hM.objs hvs
  rcases hx1 with hx1 | hx1 <;> rw [hx1]
  · exact bodyPost_end hres hA.dfr hout
  · exact bodyPost_ret hres hA.dfr hout

end Go.Proofs.YtfeancgmmonebaaDoor.Sx

/-
  Reckoning with a run's numbers: bounds, and each number as a polynomial over the numbers that came in and quotients by powers of two; all checked by the kernel. Conditions: none; each theorem bears its own.
-/
namespace Go.Proofs.YtfeancgmmonebaaDoor.Sx
open Go

/-! ## 1. Polynomials -/

abbrev Atom := Nat × Nat
abbrev Mono := List Atom
abbrev Poly := List (Mono × Int)

/-- The atom (i, k): the i-th number divided by 2^k. -/
def atomV (e : List Int) (a : Atom) : Int := e.getD a.1 0 / 2 ^ a.2

def monoV (e : List Int) : Mono → Int
  | [] => 1
  | a :: r => atomV e a * monoV e r

def polyV (e : List Int) : Poly → Int
  | [] => 0
  | t :: r => t.2 * monoV e t.1 + polyV e r

inductive Ord3 where
  | lt
  | eq
  | gt

def cmpA (a b : Atom) : Ord3 :=
  if Nat.blt a.1 b.1 then .lt else if Nat.blt b.1 a.1 then .gt else if Nat.blt a.2 b.2 then .lt else if Nat.blt b.2 a.2 then .gt else .eq

theorem cmpA_eq {a b : Atom} (h : cmpA a b = .eq) : a = b := by
  obtain ⟨x, y⟩ := a
  obtain ⟨u, v⟩ := b
  unfold cmpA at h
  simp only at h
  split at h
  · cases h
  · rename_i h1
    split at h
    · cases h
    · rename_i h2
      split at h
      · cases h
      · rename_i h3
        split at h
        · cases h
        · rename_i h4
          simp only [Nat.blt_eq] at h1 h2 h3 h4
          simp only [Prod.mk.injEq]
          omega

def cmpM : Mono → Mono → Ord3
  | [], [] => .eq
  | [], _ :: _ => .lt
  | _ :: _, [] => .gt
  | a :: l, b :: m => match cmpA a b with
    | .lt => .lt
    | .gt => .gt
    | .eq => cmpM l m

theorem cmpM_eq : ∀ {l m : Mono}, cmpM l m = .eq → l = m
  | [], [], _ => rfl
  | [], _ :: _, h => by cases h
  | _ :: _, [], h => by cases h
  | a :: l, b :: m, h => by
    unfold cmpM at h
    split at h
    · cases h
    · cases h
    · rename_i h1
      rw [cmpA_eq h1, cmpM_eq h]

def pins (m : Mono) (c : Int) : Poly → Poly
  | [] => [(m, c)]
  | t :: r => match cmpM m t.1 with
    | .eq => if c + t.2 = 0 then r else (m, c + t.2) :: r
    | .lt => (m, c) :: t :: r
    | .gt => t :: pins m c r

theorem pins_val (e : List Int) (m : Mono) (c : Int) : ∀ p : Poly, polyV e (pins m c p) = c * monoV e m + polyV e p
  | [] => rfl
  | t :: r => by
    unfold pins
    split
    · rename_i h
      have := cmpM_eq h
      subst this
      split
      · rename_i h0
        have : c * monoV e t.1 + t.2 * monoV e t.1 = 0 := by rw [← Int.add_mul, h0, Int.zero_mul]
        simp only [polyV]
        omega
      · simp only [polyV, Int.add_mul]
        omega
    · rfl
    · simp only [polyV, pins_val e m c r]
      omega

def padd (p q : Poly) : Poly := p.foldr (fun t acc => pins t.1 t.2 acc) q

theorem padd_val (e : List Int) (q : Poly) : ∀ p : Poly, polyV e (padd p q) = polyV e p + polyV e q
  | [] => by simp [padd, polyV]
  | t :: r => by
    have := padd_val e q r
    simp only [padd, List.foldr_cons] at this ⊢
    rw [pins_val, this]
    simp only [polyV]
    omega

def pscale (c : Int) (p : Poly) : Poly := if c = 0 then [] else p.map fun t => (t.1, c * t.2)

theorem pscale_val (e : List Int) (c : Int) (p : Poly) : polyV e (pscale c p) = c * polyV e p := by
  unfold pscale
  split
  · rename_i h
    subst h
    simp [polyV]
  · induction p with
    | nil => simp [polyV]
    | cons t r ih => simp only [List.map_cons, polyV, ih, Int.mul_add, Int.mul_assoc]

def mins (a : Atom) : Mono → Mono
  | [] => [a]
  | b :: r => match cmpA a b with
    | .gt => b :: mins a r
    | _ => a :: b :: r

theorem mins_val (e : List Int) (a : Atom) : ∀ m : Mono, monoV e (mins a m) = atomV e a * monoV e m
  | [] => rfl
  | b :: r => by
    unfold mins
    split
    · simp only [monoV, mins_val e a r, Int.mul_left_comm]
    · rfl

def mmul (l m : Mono) : Mono := l.foldr mins m

theorem mmul_val (e : List Int) (m : Mono) : ∀ l : Mono, monoV e (mmul l m) = monoV e l * monoV e m
  | [] => by simp [mmul, monoV]
  | a :: l => by
    have := mmul_val e m l
    simp only [mmul, List.foldr_cons] at this ⊢
    rw [mins_val, this]
    simp only [monoV, Int.mul_assoc]

def pterm (m : Mono) (c : Int) (q : Poly) : Poly := q.foldr (fun t acc => pins (mmul m t.1) (c * t.2) acc) []

theorem pterm_val (e : List Int) (m : Mono) (c : Int) : ∀ q : Poly, polyV e (pterm m c q) = c * monoV e m * polyV e q
  | [] => by simp [pterm, polyV]
  | t :: r => by
    have := pterm_val e m c r
    simp only [pterm, List.foldr_cons] at this ⊢
    rw [pins_val, this, mmul_val]
    simp only [polyV, Int.mul_add, Int.mul_assoc, Int.mul_left_comm]

def pmul (p q : Poly) : Poly := p.foldr (fun t acc => padd (pterm t.1 t.2 q) acc) []

theorem pmul_val (e : List Int) (q : Poly) : ∀ p : Poly, polyV e (pmul p q) = polyV e p * polyV e q
  | [] => by simp [pmul, polyV]
  | t :: r => by
    have := pmul_val e q r
    simp only [pmul, List.foldr_cons] at this ⊢
    rw [padd_val, this, pterm_val]
    simp only [polyV, Int.add_mul]

def pconst (n : Int) : Poly := if n = 0 then [] else [([], n)]

theorem pconst_val (e : List Int) (n : Int) : polyV e (pconst n) = n := by
  unfold pconst
  split
  · rename_i h; simp [polyV, h]
  · simp [polyV, monoV]

def patom (a : Atom) : Poly := [([a], 1)]

theorem patom_val (e : List Int) (a : Atom) : polyV e (patom a) = atomV e a := by simp [patom, polyV, monoV]

/-! ## 2. Numbers written out in full -/

structure If where
  lo : Int
  hi : Int
  tz : Nat
  p : Poly

structure IfOk (E : List Int) (x : Int) (f : If) : Prop where
  lo : f.lo ≤ x
  hi : x ≤ f.hi
  tz : (2 : Int) ^ f.tz ∣ x
  val : x = polyV E f.p

def unsB : IntKind → Option Nat
  | .u8 => some 8
  | .u16 => some 16
  | .u32 => some 32
  | .u64 => some 64
  | _ => none

theorem uns_wrap {k : IntKind} {b : Nat} (h : unsB k = some b) (x : Int) : k.wrap x = x % 2 ^ b := by
  cases k <;> simp [unsB] at h <;> subst h <;> simp [IntKind.wrap, IntKind.bits, IntKind.signed]

theorem uns_bits {k : IntKind} {b : Nat} (h : unsB k = some b) : k.bits = b := by
  cases k <;> simp [unsB] at h <;> subst h <;> rfl

theorem mod_in {x : Int} {b : Nat} (h0 : 0 ≤ x) (h1 : x < 2 ^ b) : x % 2 ^ b = x := Int.emod_eq_of_lt h0 h1

def siIf (T : Tr If) : SI → Option If
  | .lit n => some ⟨n, n, 0, pconst n⟩
  | .var i => T.get i

/-- x shifted down by t, as an atom: of a number that is itself an atom, or of the number by its place. -/
def shAtom (x : SI) (f : If) (t : Nat) : Option Atom :=
  match f.p, x with
  | [([(v, k)], 1)], _ => some (v, k + t)
  | _, .var i => some (i, t)
  | _, _ => none

theorem div_pow (x : Int) (a b : Nat) : x / 2 ^ a / 2 ^ b = x / 2 ^ (a + b) := by
  rw [Int.ediv_ediv_of_nonneg (Int.pow_nonneg (by decide)), Int.pow_add]

theorem shAtom_val {E : List Int} {x : SI} {f : If} {t : Nat} {a : Atom} (h : shAtom x f t = some a) (hf : IfOk E (x.val E) f) : atomV E a = x.val E / 2 ^ t := by
  unfold shAtom at h
  split at h
  · rename_i p x' v k hp
    cases h
    have := hf.val
    rw [hp] at this
    simp [polyV, monoV] at this
    rw [this]
    simp only [atomV, div_pow]
  · cases h
    rfl
  · cases h

def isMask (m : Int) : Option Nat :=
  let t := Nat.log2 (m.toNat + 1)
  if decide (m = 2 ^ t - 1) then some t else none

def fall (b n : Nat) : If := ⟨0, 2 ^ b - 1, 0, patom (n, 0)⟩
def bit (n : Nat) : If := ⟨0, 1, 0, patom (n, 0)⟩

def bitsFor (x : Int) : Nat := Nat.log2 x.toNat + 1

def addIf (f g : If) : If := ⟨f.lo + g.lo, f.hi + g.hi, min f.tz g.tz, padd f.p g.p⟩
def scaleIf (s : Nat) (f : If) : If := ⟨f.lo * 2 ^ s, f.hi * 2 ^ s, f.tz + s, pscale (2 ^ s) f.p⟩
def modIf (t : Nat) (a : Atom) (f : If) : If := ⟨0, 2 ^ t - 1, min f.tz t, padd (pscale (-(2 ^ t)) (patom a)) f.p⟩
def shrIf (t : Nat) (a : Atom) (f : If) : If := ⟨f.lo / 2 ^ t, f.hi / 2 ^ t, 0, if f.lo / 2 ^ t = f.hi / 2 ^ t then pconst (f.lo / 2 ^ t) else patom a⟩

/-- The number at place n: what is known of 'op' at x and y. -/
def binIf (op : BinOp) (b n : Nat) (x y : SI) (f g : If) : Option If :=
  match op with
  | .add => if decide (0 ≤ f.lo + g.lo) && decide (f.hi + g.hi < 2 ^ b) then some (addIf f g) else some (fall b n)
  | .sub => if decide (0 ≤ f.lo - g.hi) && decide (f.hi - g.lo < 2 ^ b) then some ⟨f.lo - g.hi, f.hi - g.lo, min f.tz g.tz, padd (pscale (-1) g.p) f.p⟩ else some (fall b n)
  | .mul => if decide (0 ≤ f.lo) && decide (0 ≤ g.lo) && decide (f.hi * g.hi < 2 ^ b) then some ⟨f.lo * g.lo, f.hi * g.hi, f.tz + g.tz, pmul f.p g.p⟩ else some (fall b n)
  | .and =>
    if decide (0 ≤ f.lo) && decide (0 ≤ g.lo) && decide (f.hi < 2 ^ b) && decide (g.hi < 2 ^ b) then
      match y with
      | .lit m => match isMask m with
        | some t => if decide (f.hi < 2 ^ t) then some f else (shAtom x f t).map fun a => modIf t a f
        | none => some ⟨0, m, 0, patom (n, 0)⟩
      | .var _ => if decide (f.hi ≤ 1) && decide (g.hi ≤ 1) then some ⟨0, 1, 0, pmul f.p g.p⟩ else some ⟨0, f.hi, 0, patom (n, 0)⟩
    else some (fall b n)
  | .or =>
    if decide (0 ≤ f.lo) && decide (0 ≤ g.lo) && decide (f.hi < 2 ^ b) && decide (g.hi < 2 ^ b) then
      if decide (f.hi < 2 ^ g.tz) || decide (g.hi < 2 ^ f.tz) then some (addIf f g)
      else if decide (f.hi ≤ 1) && decide (g.hi ≤ 1) then some ⟨0, 1, 0, padd (pscale (-1) (pmul f.p g.p)) (padd f.p g.p)⟩
      else some (fall b n)
    else some (fall b n)
  | .shl => match y with
    | .lit s => if decide (0 ≤ f.lo) && decide (0 ≤ s) && decide (s ≤ b) && decide (f.hi * 2 ^ s.toNat < 2 ^ b) then some (scaleIf s.toNat f) else some (fall b n)
    | .var _ => some (fall b n)
  | .shr => match y with
    | .lit s => if decide (0 ≤ f.lo) && decide (0 ≤ s) && decide (s ≤ b) then (shAtom x f s.toNat).map fun a => shrIf s.toNat a f else none
    | .var _ => none
  | .eql | .neq | .lss | .leq | .gtr | .geq => some (bit n)
  | .xor => some (fall b n)
  | .andNot => some (fall b n)
  | .quo => some (fall b n)
  | .rem => none

end Go.Proofs.YtfeancgmmonebaaDoor.Sx
