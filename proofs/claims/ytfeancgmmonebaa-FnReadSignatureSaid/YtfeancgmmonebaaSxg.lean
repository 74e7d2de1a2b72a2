/-
  The symbolic call is right: if the contract holds, and what is owed holds, the call leaves the state that was reckoned. Conditions: none; each theorem bears its own.
-/
import Derived.Test.YtfeancgmmonebaaSxf
namespace Go.Proofs.Ytfeancgmmonebaa.Sx
open Go

theorem range_all {n : Nat} {f : Nat → Bool} (h : (List.range n).all f = true) {p : Nat} (hp : p < n) : f p = true := List.all_eq_true.1 h p (List.mem_range.2 hp)

theorem chkMem_len {cs cs' : List SC} {f : SC → SC} {d : Nat} (h : cs.map f = (cs'.drop d).take cs.length) (hne : cs ≠ []) : d + cs.length ≤ cs'.length := by
  have := congrArg List.length h
  simp only [List.length_map, List.length_take, List.length_drop] at this
  have : 0 < cs.length := List.length_pos_iff.2 hne
  omega

theorem chkMem_spec {s : St} {σ : Sub} {mem : List SO} (h : chkMem s σ mem = true) {p : Nat} {so : SO} (hp : mem[p]? = some so) :
    ∃ q so', σ.os[p]? = some q ∧ s.mem[q.1]? = some so' ∧ so.cells.map σ.sc = (so'.cells.drop q.2).take so.cells.length ∧ (so.w = true → so'.w = true) ∧ 0 < so.cells.length ∧ q.2 + so.cells.length ≤ so'.cells.length := by
  have := range_all h (mem_lt hp)
  rw [hp] at this
  split at this
  · rename_i so1 q h1 h2
    cases h1
    split at this
    · rename_i so' h3
      simp only [Bool.and_eq_true, Bool.or_eq_true, Bool.not_eq_true'] at this
      have heq := lbeq_eq (fun _ _ => SC.beq_eq) _ _ this.1.2
      have hne : so.cells ≠ [] := fun e => by have := this.1.1; rw [e] at this; cases this
      refine ⟨q, so', h2, h3, heq, fun hw => ?_, List.length_pos_iff.2 hne, chkMem_len heq hne⟩
      rcases this.2 with h4 | h4
      · rw [hw] at h4; cases h4
      · exact h4
    · cases this
  · cases this

theorem chkMem_cells {cs cs' : List SC} {f : SC → SC} {d : Nat} (h : cs.map f = (cs'.drop d).take cs.length) {j : Nat} {c : SC} (hj : cs[j]? = some c) : cs'[d + j]? = some (f c) := by
  have h1 : (cs.map f)[j]? = some (f c) := by simp [hj]
  rw [h, List.getElem?_take] at h1
  split at h1
  · rwa [List.getElem?_drop] at h1
  · cases h1

theorem chkDis_spec {σ : Sub} {mem : List SO} (h : chkDis σ mem = true) {p q : Nat} {a b : SO} {x y : Nat × Nat} (hp : mem[p]? = some a) (hq : mem[q]? = some b) (hx : σ.os[p]? = some x) (hy : σ.os[q]? = some y)
    (hne : p ≠ q) (hw : a.w = true) : x.1 ≠ y.1 ∨ x.2 + a.cells.length ≤ y.2 ∨ y.2 + b.cells.length ≤ x.2 := by
  have := range_all (range_all h (mem_lt hp)) (mem_lt hq)
  rw [hp, hq, hx, hy] at this
  simp only [Bool.or_eq_true, hw, Bool.not_true, Bool.not_eq_true', Nat.ble_eq] at this
  rcases this with (((h1 | h1) | h1) | h1) | h1
  · exact (hne (Nat.eq_of_beq_eq_true h1)).elim
  · cases h1
  · refine .inl fun e => ?_
    rw [e] at h1
    simp at h1
  · exact .inr (.inl h1)
  · exact .inr (.inr h1)

theorem wrOf_mem {σ : Sub} {mem fmem : List SO} {x : Wr} (h : x ∈ (List.range mem.length).filterMap (wrOf σ mem fmem)) :
    ∃ (p : Nat) (so fo : SO) (q : Nat × Nat), mem[p]? = some so ∧ fmem[p]? = some fo ∧ σ.os[p]? = some q ∧ so.w = true ∧ x = ⟨q.1, q.2, fo.cells.map σ.sc⟩ := by
  obtain ⟨p, _, hp⟩ := List.mem_filterMap.1 h
  unfold wrOf at hp
  split at hp
  · rename_i so fo q h1 h2 h3
    split at hp
    · rename_i hw
      cases hp
      exact ⟨p, so, fo, q, h1, h2, h3, hw, rfl⟩
    · cases hp
  · cases hp

theorem mem_wrOf {σ : Sub} {mem fmem : List SO} {p : Nat} {so fo : SO} {q : Nat × Nat} (h1 : mem[p]? = some so) (h2 : fmem[p]? = some fo) (h3 : σ.os[p]? = some q) (hw : so.w = true) :
    (⟨q.1, q.2, fo.cells.map σ.sc⟩ : Wr) ∈ (List.range mem.length).filterMap (wrOf σ mem fmem) :=
  List.mem_filterMap.2 ⟨p, List.mem_range.2 (mem_lt h1), by simp [wrOf, h1, h2, h3, hw]⟩

theorem chkFin_spec {mem fmem : List SO} (h : chkFin mem fmem = true) :
    mem.length ≤ fmem.length ∧ (∀ (p : Nat) (so fo : SO), mem[p]? = some so → fmem[p]? = some fo → so.cells.length = fo.cells.length) ∧ ∀ (p : Nat) (fo : SO), mem.length ≤ p → fmem[p]? = some fo → fo.w = true := by
  simp only [chkFin, Bool.and_eq_true, Nat.ble_eq] at h
  obtain ⟨⟨h1, h2⟩, h3⟩ := h
  refine ⟨h1, fun p so fo hp hf => ?_, fun p fo hp hf => ?_⟩
  · have := range_all h2 (mem_lt hp)
    rw [hp, hf] at this
    exact Nat.eq_of_beq_eq_true this
  · refine List.all_eq_true.1 h3 fo (List.mem_of_getElem? (i := p - mem.length) ?_)
    rw [List.getElem?_drop, show mem.length + (p - mem.length) = p by omega]
    exact hf

theorem fin_get {fmem : List SO} {p : Nat} (h : p < fmem.length) : ∃ fo, fmem[p]? = some fo := ⟨_, List.getElem?_eq_getElem h⟩

theorem memOf_spec {s : St} {σ : Sub} {mem fmem : List SO} (hf : mem.length ≤ fmem.length) :
    (memOf s σ mem fmem).length + mem.length = s.mem.length + fmem.length ∧
    ∀ (o : Nat) (so : SO), (memOf s σ mem fmem)[o]? = some so →
      (∃ so0, s.mem[o]? = some so0 ∧ so.w = so0.w ∧ so.cells.length = so0.cells.length ∧ ∀ (j : Nat) (c : SC), so.cells[j]? = some c →
        (∃ (p : Nat) (sp fo : SO) (q : Nat × Nat), mem[p]? = some sp ∧ fmem[p]? = some fo ∧ σ.os[p]? = some q ∧ sp.w = true ∧ q.1 = o ∧ q.2 ≤ j ∧ (fo.cells.map σ.sc)[j - q.2]? = some c) ∨
        (so0.cells[j]? = some c ∧ ∀ (p : Nat) (sp fo : SO) (q : Nat × Nat), mem[p]? = some sp → fmem[p]? = some fo → σ.os[p]? = some q → sp.w = true → ¬ (q.1 = o ∧ q.2 ≤ j ∧ j < q.2 + fo.cells.length))) ∨
      (s.mem.length ≤ o ∧ ∃ fo, fmem[mem.length + (o - s.mem.length)]? = some fo ∧ so = ⟨fo.cells.map σ.sc, true⟩) := by
  unfold memOf
  split
  · rename_i hs
    simp only [stillB, Bool.and_eq_true] at hs
    refine ⟨by rw [Nat.eq_of_beq_eq_true hs.2], fun o so ho => .inl ⟨so, ho, rfl, rfl, fun j c hc => .inr ⟨hc, fun p sp fo q hp _ _ hw => ?_⟩⟩⟩
    have := List.all_eq_true.1 hs.1 sp (List.mem_of_getElem? hp)
    rw [hw] at this
    cases this
  · obtain ⟨l1, sp1⟩ := writes_spec ((List.range mem.length).filterMap (wrOf σ mem fmem)) s.mem
    refine ⟨by simp [l1]; omega, fun o so ho => ?_⟩
    rcases Nat.lt_or_ge o s.mem.length with hl | hl
    · rw [List.getElem?_append_left (by rw [l1]; exact hl)] at ho
      obtain ⟨so0, h0, e1, e2, e3⟩ := sp1 o so ho
      refine .inl ⟨so0, h0, e1, e2, fun j c hc => ?_⟩
      rcases e3 j c hc with ⟨x, hx, x1, x2, x3⟩ | ⟨x1, x2⟩
      · obtain ⟨p, sp, fo, q, a1, a2, a3, a4, rfl⟩ := wrOf_mem hx
        exact .inl ⟨p, sp, fo, q, a1, a2, a3, a4, x1, x2, x3⟩
      · refine .inr ⟨x1, fun p sp fo q a1 a2 a3 a4 hh => x2 _ (mem_wrOf a1 a2 a3 a4) ?_⟩
        simpa using hh
    · rw [List.getElem?_append_right (by rw [l1]; exact hl), l1, List.getElem?_map, List.getElem?_drop] at ho
      obtain ⟨fo, hfo, rfl⟩ := Option.map_eq_some_iff.1 ho
      exact .inr ⟨hl, fo, hfo, rfl⟩

theorem callE_sound {P : Program} {Γ : List Entry} {base : List Int} {W : Nat → Nat → Prop} {w0 : World} {O : List (Nat × Nat)} {ρ : En} {s s' : St} {a : Act} {sv : SV} {quiet : Bool} {e : Entry} {j : Nat} {vs : List SV} {nds : List Need}
    (hA : RelA Γ base ρ s a) (hj : Γ.getD j noEntry = e) (hm : Meets P e) (h : callE quiet s e j vs = some (s', sv, nds)) (hn : ∀ nd ∈ nds, nd.holds Γ base) :
    ∃ l : List Int, (quiet = true → RelA Γ base ⟨ρ.e ++ l, ρ.o⟩ s' a ∧ s'.mem = s.mem) ∧ sv.ok s'.n s'.mem.length = true ∧ s'.asm = s.asm ∧ s'.nt = s.nt ∧ s'.tm = s.tm ∧ s.n ≤ s'.n ∧
      ∀ w, RelM W w0 O ρ s w → CallOk P e.f (vs.map (SV.den ρ)).toArray w fun en w' => ∃ p, (quiet = true → p = []) ∧ RelA Γ base ⟨ρ.e ++ l, ρ.o ++ p⟩ s' a ∧ RelM W w0 O ⟨ρ.e ++ l, ρ.o ++ p⟩ s' w' ∧
        en = .returned (sv.den ⟨ρ.e ++ l, ρ.o ++ p⟩) := by
  unfold callE at h
  simp only at h
  generalize hx : (exArgs s e.args vs).1 = xs at h
  generalize ho : (exArgs s e.args vs).2 = os at h
  split at h
  case isFalse => cases h
  rename_i hc
  simp only [Bool.and_eq_true] at hc
  obtain ⟨⟨⟨⟨⟨⟨⟨⟨c1, c2⟩, c3⟩, c4⟩, c5⟩, c6⟩, c7⟩, c8⟩, c9⟩ := hc
  have c1 := Nat.eq_of_beq_eq_true c1
  have c2 := Nat.eq_of_beq_eq_true c2
  have c5 := lbeq_eq SV.beq_eq _ _ c5
  generalize hσ : (⟨xs, s.n, os, s.mem.length⟩ : Sub) = σ at h c5 c6 c7
  have σx : σ.xs = xs := by rw [← hσ]
  have σn : σ.n0 = s.n := by rw [← hσ]
  have σo : σ.os = os := by rw [← hσ]
  have σm : σ.m0 = s.mem.length := by rw [← hσ]
  have he : ρ.e.length = σ.n0 := by rw [σn]; exact hA.len
  have hoo : ρ.o.length = σ.m0 := by rw [σm]; exact hA.lenO
  have hxx : σ.xs.all (SI.ok σ.n0) = true := by rw [σx, σn]; exact c3
  have hpp : σ.os.all (fun p => Nat.blt p.1 σ.m0) = true := by rw [σo, σm]; exact c4
  obtain ⟨f1, f2, f3⟩ := chkFin_spec c8
  split at h
  case isFalse => cases h
  rename_i hok
  simp only [Bool.and_eq_true] at hok
  obtain ⟨hok1, hok2⟩ := hok
  simp only [Option.some.injEq, Prod.mk.injEq] at h
  obtain ⟨hs', hsv, hnd⟩ := h
  generalize hmm : memOf s σ (ini e.args).mem (fin e).mem = mm at hs' hok1 hok2
  -- the contract's environment
  generalize hb : (σ.env ρ.e ρ.o).1 = cb
  generalize hbs : (σ.env ρ.e ρ.o).2 = cbs
  have hcb : cb = xs.map (·.val ρ.e) := by rw [← hb]; simp [Sub.env, σx]
  have hcbl : cb.length = (ini e.args).n := by rw [hcb]; simpa using c1
  have hcbsl : cbs.length = (ini e.args).mem.length := by rw [← hbs]; simp [Sub.env, σo]; exact c2
  have hpre : e.free = false → e.Pre cb := by
    intro hf
    rw [hf] at hnd
    have := hn ⟨s.defs, s.asm, j, xs⟩ (by rw [← hnd]; simp)
    unfold Need.holds at this
    simp only [← hA.env, hj] at this
    rw [hcb]
    exact this hA.asm
  have objEq : ∀ (p : Nat), p < σ.os.length → En.blk ⟨cb, cbs⟩ p = ρ.blk (σ.os.getD p (0, 0)).1 ∧ En.off ⟨cb, cbs⟩ p = ρ.off (σ.os.getD p (0, 0)).1 + (σ.os.getD p (0, 0)).2 := by
    intro p hp
    have := Sub.blk_env he hoo hxx hpp [] [] p hp
    simpa [hb, hbs] using this
  have getQ : ∀ {p : Nat} {q : Nat × Nat}, σ.os[p]? = some q → p < σ.os.length ∧ σ.os.getD p (0, 0) = q := by
    intro p q hq
    obtain ⟨h1, h2⟩ := List.getElem?_eq_some_iff.1 hq
    exact ⟨h1, by simp [List.getD, hq]⟩
  have hlen : σ.os.length = (ini e.args).mem.length := by rw [σo]; exact c2
  have denEq0 : ∀ c : SC, (σ.sc c).den ρ = c.den ⟨cb, cbs⟩ := by
    intro c
    have := Sub.sc_den he hoo hxx hpp [] [] c
    simpa [hb, hbs] using this
  have hargs : (ini e.args).args.map (SV.den ⟨cb, cbs⟩) = vs.map (SV.den ρ) := by
    rw [← c5, List.map_map]
    refine List.map_congr_left fun v _ => ?_
    have := Sub.sv_den he hoo hxx hpp [] [] v
    simp only [List.append_nil, hb, hbs] at this
    exact this.symm
  have hdef := hA.define (.app j xs ((fin e).n - (ini e.args).n))
  have hev : Def.ev Γ ρ.e (.app j xs ((fin e).n - (ini e.args).n)) = fit ((fin e).n - (ini e.args).n) (e.F cb) := by
    simp only [Def.ev, hj, hcb]
  rw [hev] at hdef
  simp only [fit_length] at hdef
  refine ⟨fit ((fin e).n - (ini e.args).n) (e.F cb), ?_, ?_, by rw [← hs'], by rw [← hs'], by rw [← hs'], by rw [← hs']; simp, ?_⟩
  · intro hq
    rw [hq] at c9
    simp only [Bool.not_true, Bool.false_or] at c9
    have hmo : memOf s σ (ini e.args).mem (fin e).mem = s.mem := by unfold memOf; rw [if_pos c9]
    rw [hmm] at hmo
    subst hmo
    subst hs'
    exact ⟨hdef, rfl⟩
  · rw [← hs', ← hsv]; exact hok2
  intro w hM
  have hmem : MemOk w ⟨cb, cbs⟩ (ini e.args).mem := by
    intro p so hp
    obtain ⟨q, so', h1, h2, h3, h4, h5, h6⟩ := chkMem_spec c6 hp
    obtain ⟨hpl, hq⟩ := getQ h1
    obtain ⟨b1, b2⟩ := objEq p hpl
    rw [hq] at b1 b2
    have g := hM.objs q.1 so' h2
    refine ⟨by rw [b1]; exact g.blk, fun i c hc => ?_, fun hw i hi => ?_⟩
    · rw [b1, b2, ← denEq0, Nat.add_assoc]
      exact g.cell _ _ (chkMem_cells h3 hc)
    · rw [b1, b2, Nat.add_assoc]
      exact g.thaw (h4 hw) _ (by omega)
  have hdis : Dis ⟨cb, cbs⟩ (ini e.args).mem := by
    intro p q a b hne hp hq hw
    obtain ⟨x, a', h1, h2, h3, h4, h5, h6⟩ := chkMem_spec c6 hp
    obtain ⟨y, b', g1, g2, g3, g4, g5, g6⟩ := chkMem_spec c6 hq
    obtain ⟨hpl, hx'⟩ := getQ h1
    obtain ⟨hql, hy'⟩ := getQ g1
    obtain ⟨b1, b2⟩ := objEq p hpl
    obtain ⟨b3, b4⟩ := objEq q hql
    rw [hx'] at b1 b2
    rw [hy'] at b3 b4
    rw [b1, b2, b3, b4]
    by_cases hbe : x.1 = y.1
    · rcases chkDis_spec c7 hp hq h1 g1 hne hw with d | d
      · exact (d hbe).elim
      · right; rw [hbe]; omega
    · rcases hM.dis x.1 y.1 a' b' hbe h2 g2 (h4 hw) with d | d | d
      · exact .inl d
      · right; left; omega
      · right; right; omega
  rw [← hargs]
  refine (hm cb cbs w hcbl hcbsl hpre hmem hdis).mono fun en w' ⟨nb, n1, n2, n3, n4, n5, n6⟩ => ?_
  generalize hl : fit ((fin e).n - (ini e.args).n) (e.F cb) = l at *
  have henv : e.env cb cbs nb = ⟨cb ++ l, cbs ++ nb⟩ := by simp only [Entry.env, hl]
  rw [henv] at n3 n4 n5
  obtain ⟨m1, m2⟩ := memOf_spec (s := s) (σ := σ) f1
  rw [hmm] at m1 m2
  have hml : mm.length = s.mem.length + nb.length := by omega
  have denEq : ∀ c : SC, (σ.sc c).den ⟨ρ.e ++ l, ρ.o ++ nb⟩ = c.den ⟨cb ++ l, cbs ++ nb⟩ := by
    intro c
    have := Sub.sc_den he hoo hxx hpp l nb c
    simpa [hb, hbs] using this
  have objNew : ∀ (p : Nat), p < σ.os.length → En.blk ⟨cb ++ l, cbs ++ nb⟩ p = ρ.blk (σ.os.getD p (0, 0)).1 ∧
      En.off ⟨cb ++ l, cbs ++ nb⟩ p = ρ.off (σ.os.getD p (0, 0)).1 + (σ.os.getD p (0, 0)).2 := by
    intro p hp
    rw [En.blk_ext cb (cb ++ l) cbs _ p (by rw [hcbsl, ← hlen]; exact hp), En.off_ext cb (cb ++ l) cbs _ p (by rw [hcbsl, ← hlen]; exact hp)]
    exact objEq p hp
  have objOld : ∀ (o : Nat), o < s.mem.length → En.blk ⟨ρ.e ++ l, ρ.o ++ nb⟩ o = ρ.blk o ∧ En.off ⟨ρ.e ++ l, ρ.o ++ nb⟩ o = ρ.off o := fun o ho' =>
    ⟨En.blk_ext ρ.e _ ρ.o _ o (by rw [hA.lenO]; exact ho'), En.off_ext ρ.e _ ρ.o _ o (by rw [hA.lenO]; exact ho')⟩
  have objFresh : ∀ (o : Nat), s.mem.length ≤ o → o < s.mem.length + nb.length → ∃ b, nb[o - s.mem.length]? = some b ∧ En.blk ⟨ρ.e ++ l, ρ.o ++ nb⟩ o = b.1 := fun o h1 h2 => by
    have hlt : o - s.mem.length < nb.length := by omega
    refine ⟨nb[o - s.mem.length], List.getElem?_eq_getElem hlt, ?_⟩
    simp only [En.blk, List.getD]
    rw [List.getElem?_append_right (by rw [hA.lenO]; exact h1), hA.lenO]
    simp [hlt]
  have hA' : RelA Γ base ⟨ρ.e ++ l, ρ.o ++ nb⟩ s' a := by
    have := hdef.objs mm nb (by simp [hml])
    rw [← hs']
    exact this
  refine ⟨nb, ?_, hA', ⟨?_, ?_, ?_, ?_, ?_, ?_⟩, ?_⟩
  · intro hq
    rw [hq] at c9
    simp only [Bool.not_true, Bool.false_or, stillB, Bool.and_eq_true] at c9
    have := Nat.eq_of_beq_eq_true c9.2
    have : nb.length = 0 := by omega
    rw [List.length_eq_zero_iff.1 this]
  · intro o so hso
    rw [← hs'] at hso
    rcases m2 o so hso with ⟨so0, h0, e1, e2, e3⟩ | ⟨hge, fo, hfo, rfl⟩
    · have hol := mem_lt h0
      have g := hM.objs o so0 h0
      obtain ⟨b1, b2⟩ := objOld o hol
      refine ⟨by rw [b1]; exact Nat.lt_of_lt_of_le g.blk n6.size, fun i c hc => ?_, fun hw i hi => ?_⟩
      · rcases e3 i c hc with ⟨p, sp, fo, q, a1, a2, a3, a4, a5, a6, a7⟩ | ⟨x1, x2⟩
        · obtain ⟨hpl, hq⟩ := getQ a3
          obtain ⟨b3, b4⟩ := objNew p hpl
          rw [hq] at b3 b4
          rw [List.getElem?_map] at a7
          obtain ⟨cc, hcc, rfl⟩ := Option.map_eq_some_iff.1 a7
          have := (n5 p fo a2).cell _ _ hcc
          rw [b3, b4, a5] at this
          rw [b1, b2, denEq, ← this]
          congr 2
          omega
        · have hden : c.den ⟨ρ.e ++ l, ρ.o ++ nb⟩ = c.den ρ :=
            SC.den_ext (by rw [hA.len, hA.lenO]; exact List.all_eq_true.1 (hM.ok o so0 h0) c (List.mem_of_getElem? x1))
          rw [b1, b2, hden, n6.cell g.blk]
          · exact g.cell i c x1
          · rintro ⟨p, sp, a1, a4, k1, k2, k3⟩
            obtain ⟨q, so', h1, h2, h3, h4, h5, h6⟩ := chkMem_spec c6 a1
            obtain ⟨hpl, hq⟩ := getQ h1
            obtain ⟨b3, b4⟩ := objEq p hpl
            rw [hq] at b3 b4
            obtain ⟨fo, hfo⟩ := fin_get (fmem := (fin e).mem) (p := p) (by have := mem_lt a1; omega)
            have hfl := f2 p sp fo a1 hfo
            have hi0 : i < so0.cells.length := (List.getElem?_eq_some_iff.1 x1).1
            by_cases hqo : q.1 = o
            · exact x2 p sp fo q a1 hfo h1 a4 ⟨hqo, by rw [b4, hqo] at k2; omega, by rw [b4, hqo] at k3; omega⟩
            · rcases hM.dis q.1 o so' so0 hqo h2 h0 (h4 a4) with d | d | d
              · exact d (b3.symm.trans k1)
              · omega
              · omega
      · rw [b1, b2, n6.frozen g.blk]
        exact g.thaw (by rw [← e1]; exact hw) i (by omega)
    · have hol : o < s.mem.length + nb.length := by rw [← hml]; exact mem_lt hso
      obtain ⟨b, hb1, hb2⟩ := objFresh o hge hol
      have hp := Sub.blk_new he hoo hxx hpp l nb ((ini e.args).mem.length + (o - s.mem.length)) (by rw [hlen]; omega)
      rw [hb, hbs, σm, hlen, show s.mem.length + ((ini e.args).mem.length + (o - s.mem.length) - (ini e.args).mem.length) = o by omega] at hp
      have g := n5 _ fo hfo
      refine ⟨by rw [← hp.1]; exact g.blk, fun i c hc => ?_, fun hw i hi => ?_⟩
      · simp only [List.getElem?_map] at hc
        obtain ⟨cc, hcc, rfl⟩ := Option.map_eq_some_iff.1 hc
        rw [← hp.1, ← hp.2, denEq]
        exact g.cell i cc hcc
      · rw [← hp.1, ← hp.2]
        exact g.thaw (f3 _ fo (by omega) hfo) i (by simpa using hi)
  · intro o so hso
    rw [← hs'] at hso ⊢
    exact List.all_eq_true.1 hok1 so (List.mem_of_getElem? hso)
  · intro o o' so so' hne hso hso' hw
    rw [← hs'] at hso hso'
    have hlt := mem_lt hso
    have hlt' := mem_lt hso'
    rcases m2 o so hso with ⟨so0, h0, e1, e2, _⟩ | ⟨hge, fo, hfo, rfl⟩ <;> rcases m2 o' so' hso' with ⟨so0', h0', e1', e2', _⟩ | ⟨hge', fo', hfo', rfl⟩
    · rw [(objOld o (mem_lt h0)).1, (objOld o (mem_lt h0)).2, (objOld o' (mem_lt h0')).1, (objOld o' (mem_lt h0')).2, e2, e2']
      exact hM.dis o o' so0 so0' hne h0 h0' (by rw [← e1]; exact hw)
    · obtain ⟨b, hb1, hb2⟩ := objFresh o' hge' (by rw [← hml]; exact hlt')
      left
      rw [(objOld o (mem_lt h0)).1, hb2]
      have := (hM.objs o so0 h0).blk
      have := n2 b (List.mem_of_getElem? hb1)
      omega
    · obtain ⟨b, hb1, hb2⟩ := objFresh o hge (by rw [← hml]; exact hlt)
      left
      rw [(objOld o' (mem_lt h0')).1, hb2]
      have := (hM.objs o' so0' h0').blk
      have := n2 b (List.mem_of_getElem? hb1)
      omega
    · have hp := Sub.blk_new he hoo hxx hpp l nb ((ini e.args).mem.length + (o - s.mem.length)) (by rw [hlen]; omega)
      have hp' := Sub.blk_new he hoo hxx hpp l nb ((ini e.args).mem.length + (o' - s.mem.length)) (by rw [hlen]; omega)
      rw [hb, hbs, σm, hlen, show s.mem.length + ((ini e.args).mem.length + (o - s.mem.length) - (ini e.args).mem.length) = o by omega] at hp
      rw [hb, hbs, σm, hlen, show s.mem.length + ((ini e.args).mem.length + (o' - s.mem.length) - (ini e.args).mem.length) = o' by omega] at hp'
      have := n3 _ _ fo fo' (by omega) hfo hfo' (f3 _ fo (by omega) hfo)
      rw [hp.1, hp.2, hp'.1, hp'.2] at this
      simpa using this
  · intro o so hso hw
    rw [← hs'] at hso
    rcases m2 o so hso with ⟨so0, h0, e1, e2, _⟩ | ⟨hge, fo, hfo, rfl⟩
    · rw [(objOld o (mem_lt h0)).1, (objOld o (mem_lt h0)).2, e2]
      exact hM.own o so0 h0 (by rw [← e1]; exact hw)
    · obtain ⟨b, hb1, hb2⟩ := objFresh o hge (by rw [← hml]; exact mem_lt hso)
      left
      rw [hb2]
      have := n2 b (List.mem_of_getElem? hb1)
      have := hM.fr.size
      omega
  · refine hM.fr.trans n6 fun k i hk hW => ?_
    obtain ⟨p, sp, a1, a4, k1, k2, k3⟩ := hW
    obtain ⟨q, so', h1, h2, h3, h4, h5, h6⟩ := chkMem_spec c6 a1
    obtain ⟨hpl, hq⟩ := getQ h1
    obtain ⟨b3, b4⟩ := objEq p hpl
    rw [hq] at b3 b4
    rcases hM.own q.1 so' h2 (h4 a4) with d | d
    · omega
    · have := d (i - ρ.off q.1) (by omega)
      rw [← b3, k1, show ρ.off q.1 + (i - ρ.off q.1) = i by omega] at this
      exact this
  · obtain ⟨p, hp⟩ := hM.pre
    exact ⟨p ++ nb, by simp [hp]⟩
  · rw [n4, ← hsv]
    have := Sub.sv_den he hoo hxx hpp l nb (retOf (fin e).res)
    rw [hb, hbs] at this
    rw [this]

end Go.Proofs.Ytfeancgmmonebaa.Sx
