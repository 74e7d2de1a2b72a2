/-
  The symbolic call is right: if the contract holds, and what is owed holds, the call leaves the state that was reckoned. Conditions: none; each theorem bears its own.
-/
import Derived.Test.YtfeancgmmonebaaDoorMgc
import Derived.Deep.Quiet
import Derived.StillTail
namespace Go.Proofs.YtfeancgmmonebaaDoor.Sx
open Go

theorem range_all {n : Nat} {f : Nat → Bool} (h : (List.range n).all f = true) {p : Nat} (hp : p < n) : f p = true := List.all_eq_true.1 h p (List.mem_range.2 hp)

theorem chkMem_len {cs cs' : List SC} {f : SC → SC} {d : Nat} (h : cs.map f = (cs'.drop d).take cs.length) (hne : cs ≠ []) : d + cs.length ≤ cs'.length := by
  have := congrArg List.length h
  simp only [List.length_map, List.length_take, List.length_drop] at this
  have : 0 < cs.length := List.length_pos_iff.2 hne
  omega

theorem chkMem_spec {s : St} {σ : Sub} {mem : List SO} (h : chkMem s σ mem = true) {p : Nat} {so : SO} (hp : mem[p]? = some so) :
    ∃ q so', σ.os[p]? = some q ∧ s.mem[q.1]? = some so' ∧ so.cells.map σ.sc = (so'.cells.drop q.2).take so.cells.length ∧ (so.w = true → so'.w = true) ∧ 0 < so.cells.length ∧ q.2 + so.cells.length ≤ so'.cells.length := by
  have := range_all h (mem_lt hp)
  rw [hp] at this
  split at this
  · rename_i so1 q h1 h2
    cases h1
    split at this
    · rename_i so' h3
      simp only [Bool.and_eq_true, Bool.or_eq_true, Bool.not_eq_true'] at this
      have heq := lbeq_eq (fun _ _ => SC.beq_eq) _ _ this.1.2
      have hne : so.cells ≠ [] := fun e => by have := this.1.1; rw [e] at this; cases this
      refine ⟨q, so', h2, h3, heq, fun hw => ?_, List.length_pos_iff.2 hne, chkMem_len heq hne⟩
      rcases this.2 with h4 | h4
      · rw [hw] at h4; cases h4
      · exact h4
    · cases this
  · cases this

theorem chkMem_cells {cs cs' : List SC} {f : SC → SC} {d : Nat} (h : cs.map f = (cs'.drop d).take cs.length) {j : Nat} {c : SC} (hj : cs[j]? = some c) : cs'[d + j]? = some (f c) := by
  have h1 : (cs.map f)[j]? = some (f c) := by simp [hj]
  rw [h, List.getElem?_take] at h1
  split at h1
  · rwa [List.getElem?_drop] at h1
  · cases h1

theorem chkDis_spec {σ : Sub} {mem : List SO} (h : chkDis σ mem = true) {p q : Nat} {a b : SO} {x y : Nat × Nat} (hp : mem[p]? = some a) (hq : mem[q]? = some b) (hx : σ.os[p]? = some x) (hy : σ.os[q]? = some y)
    (hne : p ≠ q) (hw : a.w = true) : x.1 ≠ y.1 ∨ x.2 + a.cells.length ≤ y.2 ∨ y.2 + b.cells.length ≤ x.2 := by
  have := range_all (range_all h (mem_lt hp)) (mem_lt hq)
  rw [hp, hq, hx, hy] at this
  simp only [Bool.or_eq_true, hw, Bool.not_true, Bool.not_eq_true', Nat.ble_eq] at this
  rcases this with (((h1 | h1) | h1) | h1) | h1
  · exact (hne (Nat.eq_of_beq_eq_true h1)).elim
  · cases h1
  · refine .inl fun e => ?_
    rw [e] at h1
    simp at h1
  · exact .inr (.inl h1)
  · exact .inr (.inr h1)

theorem wrOf_mem {σ : Sub} {mem fmem : List SO} {x : Wr} (h : x ∈ (List.range mem.length).filterMap (wrOf σ mem fmem)) :
    ∃ (p : Nat) (so fo : SO) (q : Nat × Nat), mem[p]? = some so ∧ fmem[p]? = some fo ∧ σ.os[p]? = some q ∧ so.w = true ∧ x = ⟨q.1, q.2, fo.cells.map σ.sc⟩ := by
  obtain ⟨p, _, hp⟩ := List.mem_filterMap.1 h
  unfold wrOf at hp
  split at hp
  · rename_i so fo q h1 h2 h3
    split at hp
    · rename_i hw
      cases hp
      exact ⟨p, so, fo, q, h1, h2, h3, hw, rfl⟩
    · cases hp
  · cases hp

theorem mem_wrOf {σ : Sub} {mem fmem : List SO} {p : Nat} {so fo : SO} {q : Nat × Nat} (h1 : mem[p]? = some so) (h2 : fmem[p]? = some fo) (h3 : σ.os[p]? = some q) (hw : so.w = true) :
    (⟨q.1, q.2, fo.cells.map σ.sc⟩ : Wr) ∈ (List.range mem.length).filterMap (wrOf σ mem fmem) :=
  List.mem_filterMap.2 ⟨p, List.mem_range.2 (mem_lt h1), by simp [wrOf, h1, h2, h3, hw]⟩

theorem chkFin_spec {mem fmem : List SO} (h : chkFin mem fmem = true) :
    mem.length ≤ fmem.length ∧ (∀ (p : Nat) (so fo : SO), mem[p]? = some so → fmem[p]? = some fo → so.cells.length = fo.cells.length) ∧ ∀ (p : Nat) (fo : SO), mem.length ≤ p → fmem[p]? = some fo → fo.w = true := by
  simp only [chkFin, Bool.and_eq_true, Nat.ble_eq] at h
  obtain ⟨⟨h1, h2⟩, h3⟩ := h
  refine ⟨h1, fun p so fo hp hf => ?_, fun p fo hp hf => ?_⟩
  · have := range_all h2 (mem_lt hp)
    rw [hp, hf] at this
    exact Nat.eq_of_beq_eq_true this
  · refine List.all_eq_true.1 h3 fo (List.mem_of_getElem? (i := p - mem.length) ?_)
    rw [List.getElem?_drop, show mem.length + (p - mem.length) = p by omega]
    exact hf

theorem fin_get {fmem : List SO} {p : Nat} (h : p < fmem.length) : ∃ fo, fmem[p]? = some fo := ⟨_, List.getElem?_eq_getElem h⟩

theorem memOf_spec {s : St} {σ : Sub} {mem fmem : List SO} (hf : mem.length ≤ fmem.length) :
    (memOf s σ mem fmem).length + mem.length = s.mem.length + fmem.length ∧
    ∀ (o : Nat) (so : SO), (memOf s σ mem fmem)[o]? = some so →
      (∃ so0, s.mem[o]? = some so0 ∧ so.w = so0.w ∧ so.cells.length = so0.cells.length ∧ ∀ (j : Nat) (c : SC), so.cells[j]? = some c →
        (∃ (p : Nat) (sp fo : SO) (q : Nat × Nat), mem[p]? = some sp ∧ fmem[p]? = some fo ∧ σ.os[p]? = some q ∧ sp.w = true ∧ q.1 = o ∧ q.2 ≤ j ∧ (fo.cells.map σ.sc)[j - q.2]? = some c) ∨
        (so0.cells[j]? = some c ∧ ∀ (p : Nat) (sp fo : SO) (q : Nat × Nat), mem[p]? = some sp → fmem[p]? = some fo → σ.os[p]? = some q → sp.w = true → ¬ (q.1 = o ∧ q.2 ≤ j ∧ j < q.2 + fo.cells.length))) ∨
      (s.mem.length ≤ o ∧ ∃ fo, fmem[mem.length + (o - s.mem.length)]? = some fo ∧ so = ⟨fo.cells.map σ.sc, true⟩) := by
  unfold memOf
  split
  · rename_i hs
    simp only [stillB, Bool.and_eq_true] at hs
    refine ⟨by rw [Nat.eq_of_beq_eq_true hs.2], fun o so ho => .inl ⟨so, ho, rfl, rfl, fun j c hc => .inr ⟨hc, fun p sp fo q hp _ _ hw => ?_⟩⟩⟩
    have := List.all_eq_true.1 hs.1 sp (List.mem_of_getElem? hp)
    rw [hw] at this
    cases this
  · obtain ⟨l1, sp1⟩ := writes_spec ((List.range mem.length).filterMap (wrOf σ mem fmem)) s.mem
    refine ⟨by simp [l1]; omega, fun o so ho => ?_⟩
    rcases Nat.lt_or_ge o s.mem.length with hl | hl
    · rw [List.getElem?_append_left (by rw [l1]; exact hl)] at ho
      obtain ⟨so0, h0, e1, e2, e3⟩ := sp1 o so ho
      refine .inl ⟨so0, h0, e1, e2, fun j c hc => ?_⟩
      rcases e3 j c hc with ⟨x, hx, x1, x2, x3⟩ | ⟨x1, x2⟩
      · obtain ⟨p, sp, fo, q, a1, a2, a3, a4, rfl⟩ := wrOf_mem hx
        exact .inl ⟨p, sp, fo, q, a1, a2, a3, a4, x1, x2, x3⟩
      · refine .inr ⟨x1, fun p sp fo q a1 a2 a3 a4 hh => x2 _ (mem_wrOf a1 a2 a3 a4) ?_⟩
        simpa using hh
    · rw [List.getElem?_append_right (by rw [l1]; exact hl), l1, List.getElem?_map, List.getElem?_drop] at ho
      obtain ⟨fo, hfo, rfl⟩ := Option.map_eq_some_iff.1 ho
      exact .inr ⟨hl, fo, hfo, rfl⟩

theorem callE_sound {P : Program} {Γ : List Entry} {base : List Int} {W : Nat → Nat → Prop} {w0 : World} {O : List (Nat × Nat)} {ρ : En} {s s' : St} {a : Act} {sv : SV} {quiet : Bool} {e : Entry} {j : Nat} {vs : List SV} {nds : List Need}
    (hA : RelA Γ base ρ s a) (hj : Γ.getD j noEntry = e) (hm : Meets P e) (h : callE quiet s e j vs = some (s', sv, nds)) (hn : ∀ nd ∈ nds, nd.holds Γ base) :
    ∃ l : List Int, (quiet = true → RelA Γ base ⟨ρ.e ++ l, ρ.o⟩ s' a ∧ s'.mem = s.mem) ∧ sv.ok s'.n s'.mem.length = true ∧ s'.asm = s.asm ∧ s'.nt = s.nt ∧ s'.tm = s.tm ∧ s.n ≤ s'.n ∧
      ∀ w, RelM W w0 O ρ s w → CallOk P e.f (vs.map (SV.den ρ)).toArray w fun en w' => ∃ p, (quiet = true → p = []) ∧ RelA Γ base ⟨ρ.e ++ l, ρ.o ++ p⟩ s' a ∧ RelM W w0 O ⟨ρ.e ++ l, ρ.o ++ p⟩ s' w' ∧
        en = .returned (sv.den ⟨ρ.e ++ l, ρ.o ++ p⟩) := by
  unfold callE at h
  simp only at h
  generalize hx : (exArgs s e.args vs).1 = xs at h
  generalize ho : (exArgs s e.args vs).2 = os at h
  split at h
  case isFalse => cases h
  rename_i hc
  simp only [Bool.and_eq_true] at hc
  obtain ⟨⟨⟨⟨⟨⟨⟨⟨c1, c2⟩, c3⟩, c4⟩, c5⟩, c6⟩, c7⟩, c8⟩, c9⟩ := hc
  have c1 := Nat.eq_of_beq_eq_true c1
  have c2 := Nat.eq_of_beq_eq_true c2
  have c5 := lbeq_eq SV.beq_eq _ _ c5
  generalize hσ : (⟨xs, s.n, os, s.mem.length⟩ : Sub) = σ at h c5 c6 c7
  have σx : σ.xs = xs := by rw [← hσ]
  have σn : σ.n0 = s.n := by rw [← hσ]
  have σo : σ.os = os := by rw [← hσ]
  have σm : σ.m0 = s.mem.length := by rw [← hσ]
  have he : ρ.e.length = σ.n0 := by rw [σn]; exact hA.len
  have hoo : ρ.o.length = σ.m0 := by rw [σm]; exact hA.lenO
  have hxx : σ.xs.all (SI.ok σ.n0) = true := by rw [σx, σn]; exact c3
  have hpp : σ.os.all (fun p => Nat.blt p.1 σ.m0) = true := by rw [σo, σm]; exact c4
  obtain ⟨f1, f2, f3⟩ := chkFin_spec c8
  split at h
  case isFalse => cases h
  rename_i hok
  simp only [Bool.and_eq_true] at hok
  obtain ⟨hok1, hok2⟩ := hok
  simp only [Option.some.injEq, Prod.mk.injEq] at h
  obtain ⟨hs', hsv, hnd⟩ := h
  generalize hmm : memOf s σ (ini e.args).mem (fin e).mem = mm at hs' hok1 hok2
  -- the contract's environment
  generalize hb : (σ.env ρ.e ρ.o).1 = cb
  generalize hbs : (σ.env ρ.e ρ.o).2 = cbs
  have hcb : cb = xs.map (·.val ρ.e) := by rw [← hb]; simp [Sub.env, σx]
  have hcbl : cb.length = (ini e.args).n := by rw [hcb]; simpa using c1
  have hcbsl : cbs.length = (ini e.args).mem.length := by rw [← hbs]; simp [Sub.env, σo]; exact c2
  have hpre : e.free = false → e.Pre cb := by
    intro hf
    rw [hf] at hnd
    have := hn ⟨s.defs, s.asm, j, xs⟩ (by rw [← hnd]; simp)
    unfold Need.holds at this
    simp only [← hA.env, hj] at this
    rw [hcb]
    exact this hA.asm
  have objEq : ∀ (p : Nat), p < σ.os.length → En.blk ⟨cb, cbs⟩ p = ρ.blk (σ.os.getD p (0, 0)).1 ∧ En.off ⟨cb, cbs⟩ p = ρ.off (σ.os.getD p (0, 0)).1 + (σ.os.getD p (0, 0)).2 := by
    intro p hp
    have := Sub.blk_env he hoo hxx hpp [] [] p hp
    simpa [hb, hbs] using this
  have getQ : ∀ {p : Nat} {q : Nat × Nat}, σ.os[p]? = some q → p < σ.os.length ∧ σ.os.getD p (0, 0) = q := by
    intro p q hq
    obtain ⟨h1, h2⟩ := List.getElem?_eq_some_iff.1 hq
    exact ⟨h1, by simp [List.getD, hq]⟩
  have hlen : σ.os.length = (ini e.args).mem.length := by rw [σo]; exact c2
  have denEq0 : ∀ c : SC, (σ.sc c).den ρ = c.den ⟨cb, cbs⟩ := by
    intro c
    have := Sub.sc_den he hoo hxx hpp [] [] c
    simpa [hb, hbs] using this
  have hargs : (ini e.args).args.map (SV.den ⟨cb, cbs⟩) = vs.map (SV.den ρ) := by
    rw [← c5, List.map_map]
    refine List.map_congr_left fun v _ => ?_
    have := Sub.sv_den he hoo hxx hpp [] [] v
    simp only [List.append_nil, hb, hbs] at this
    exact this.symm
  have hdef := hA.define (.app j xs ((fin e).n - (ini e.args).n))
  have hev : Def.ev Γ ρ.e (.app j xs ((fin e).n - (ini e.args).n)) = fit ((fin e).n - (ini e.args).n) (e.F cb) := by
    simp only [Def.ev, hj, hcb]
  rw [hev] at hdef
  simp only [fit_length] at hdef
  refine ⟨fit ((fin e).n - (ini e.args).n) (e.F cb), ?_, ?_, by rw [← hs'], by rw [← hs'], by rw [← hs'], by rw [← hs']; simp, ?_⟩
  · intro hq
    rw [hq] at c9
    simp only [Bool.not_true, Bool.false_or] at c9
    have hmo : memOf s σ (ini e.args).mem (fin e).mem = s.mem := by unfold memOf; rw [if_pos c9]
    rw [hmm] at hmo
    subst hmo
    subst hs'
    exact ⟨hdef, rfl⟩
  · rw [← hs', ← hsv]; exact hok2
  intro w hM
  have hmem : MemOk w ⟨cb, cbs⟩ (ini e.args).mem := by
    intro p so hp
    obtain ⟨q, so', h1, h2, h3, h4, h5, h6⟩ := chkMem_spec c6 hp
    obtain ⟨hpl, hq⟩ := getQ h1
    obtain ⟨b1, b2⟩ := objEq p hpl
    rw [hq] at b1 b2
    have g := hM.objs q.1 so' h2
    refine ⟨by rw [b1]; exact g.blk, fun i c hc => ?_, fun hw i hi => ?_⟩
    · rw [b1, b2, ← denEq0, Nat.add_assoc]
      exact g.cell _ _ (chkMem_cells h3 hc)
    · rw [b1, b2, Nat.add_assoc]
      exact g.thaw (h4 hw) _ (by omega)
  have hdis : Dis ⟨cb, cbs⟩ (ini e.args).mem := by
    intro p q a b hne hp hq hw
    obtain ⟨x, a', h1, h2, h3, h4, h5, h6⟩ := chkMem_spec c6 hp
    obtain ⟨y, b', g1, g2, g3, g4, g5, g6⟩ := chkMem_spec c6 hq
    obtain ⟨hpl, hx'⟩ := getQ h1
    obtain ⟨hql, hy'⟩ := getQ g1
    obtain ⟨b1, b2⟩ := objEq p hpl
    obtain ⟨b3, b4⟩ := objEq q hql
    rw [hx'] at b1 b2
    rw [hy'] at b3 b4
    rw [b1, b2, b3, b4]
    by_cases hbe : x.1 = y.1
    · rcases chkDis_spec c7 hp hq h1 g1 hne hw with d | d
      · exact (d hbe).elim
      · right; rw [hbe]; omega
    · rcases hM.dis x.1 y.1 a' b' hbe h2 g2 (h4 hw) with d | d | d
      · exact .inl d
      · right; left; omega
      · right; right; omega
  rw [← hargs]
  refine (hm cb cbs w hcbl hcbsl hpre hmem hdis).mono fun en w' ⟨nb, n1, n2, n3, n4, n5, n6⟩ => ?_
  generalize hl : fit ((fin e).n - (ini e.args).n) (e.F cb) = l at *
  have henv : e.env cb cbs nb = ⟨cb ++ l, cbs ++ nb⟩ := by simp only [Entry.env, hl]
  rw [henv] at n3 n4 n5
  obtain ⟨m1, m2⟩ := memOf_spec (s := s) (σ := σ) f1
  rw [hmm] at m1 m2
  have hml : mm.length = s.mem.length + nb.length := by omega
  have denEq : ∀ c : SC, (σ.sc c).den ⟨ρ.e ++ l, ρ.o ++ nb⟩ = c.den ⟨cb ++ l, cbs ++ nb⟩ := by
    intro c
    have := Sub.sc_den he hoo hxx hpp l nb c
    simpa [hb, hbs] using this
  have objNew : ∀ (p : Nat), p < σ.os.length → En.blk ⟨cb ++ l, cbs ++ nb⟩ p = ρ.blk (σ.os.getD p (0, 0)).1 ∧
      En.off ⟨cb ++ l, cbs ++ nb⟩ p = ρ.off (σ.os.getD p (0, 0)).1 + (σ.os.getD p (0, 0)).2 := by
    intro p hp
    rw [En.blk_ext cb (cb ++ l) cbs _ p (by rw [hcbsl, ← hlen]; exact hp), En.off_ext cb (cb ++ l) cbs _ p (by rw [hcbsl, ← hlen]; exact hp)]
    exact objEq p hp
  have objOld : ∀ (o : Nat), o < s.mem.length → En.blk ⟨ρ.e ++ l, ρ.o ++ nb⟩ o = ρ.blk o ∧ En.off ⟨ρ.e ++ l, ρ.o ++ nb⟩ o = ρ.off o := fun o ho' =>
    ⟨En.blk_ext ρ.e _ ρ.o _ o (by rw [hA.lenO]; exact ho'), En.off_ext ρ.e _ ρ.o _ o (by rw [hA.lenO]; exact ho')⟩
  have objFresh : ∀ (o : Nat), s.mem.length ≤ o → o < s.mem.length + nb.length → ∃ b, nb[o - s.mem.length]? = some b ∧ En.blk ⟨ρ.e ++ l, ρ.o ++ nb⟩ o = b.1 := fun o h1 h2 => by
    have hlt : o - s.mem.length < nb.length := by omega
    refine ⟨nb[o - s.mem.length], List.getElem?_eq_getElem hlt, ?_⟩
    simp only [En.blk, List.getD]
    rw [List.getElem?_append_right (by rw [hA.lenO]; exact h1), hA.lenO]
    simp [hlt]
  have hA' : RelA Γ base ⟨ρ.e ++ l, ρ.o ++ nb⟩ s' a := by
    have := hdef.objs mm nb (by simp [hml])
    rw [← hs']
    exact this
  refine ⟨nb, ?_, hA', ⟨?_, ?_, ?_, ?_, ?_, ?_⟩, ?_⟩
  · intro hq
    rw [hq] at c9
    simp only [Bool.not_true, Bool.false_or, stillB, Bool.and_eq_true] at c9
    have := Nat.eq_of_beq_eq_true c9.2
    have : nb.length = 0 := by omega
    rw [List.length_eq_zero_iff.1 this]
  · intro o so hso
    rw [← hs'] at hso
    rcases m2 o so hso with ⟨so0, h0, e1, e2, e3⟩ | ⟨hge, fo, hfo, rfl⟩
    · have hol := mem_lt h0
      have g := hM.objs o so0 h0
      obtain ⟨b1, b2⟩ := objOld o hol
      refine ⟨by rw [b1]; exact Nat.lt_of_lt_of_le g.blk n6.size, fun i c hc => ?_, fun hw i hi => ?_⟩
      · rcases e3 i c hc with ⟨p, sp, fo, q, a1, a2, a3, a4, a5, a6, a7⟩ | ⟨x1, x2⟩
        · obtain ⟨hpl, hq⟩ := getQ a3
          obtain ⟨b3, b4⟩ := objNew p hpl
          rw [hq] at b3 b4
          rw [List.getElem?_map] at a7
          obtain ⟨cc, hcc, rfl⟩ := Option.map_eq_some_iff.1 a7
          have := (n5 p fo a2).cell _ _ hcc
          rw [b3, b4, a5] at this
          rw [b1, b2, denEq, ← this]
          congr 2
          omega
        · have hden : c.den ⟨ρ.e ++ l, ρ.o ++ nb⟩ = c.den ρ :=
            SC.den_ext (by rw [hA.len, hA.lenO]; exact List.all_eq_true.1 (hM.ok o so0 h0) c (List.mem_of_getElem? x1))
          rw [b1, b2, hden, n6.cell g.blk]
          · exact g.cell i c x1
          · rintro ⟨p, sp, a1, a4, k1, k2, k3⟩
            obtain ⟨q, so', h1, h2, h3, h4, h5, h6⟩ := chkMem_spec c6 a1
            obtain ⟨hpl, hq⟩ := getQ h1
            obtain ⟨b3, b4⟩ := objEq p hpl
            rw [hq] at b3 b4
            obtain ⟨fo, hfo⟩ := fin_get (fmem := (fin e).mem) (p := p) (by have := mem_lt a1; omega)
            have hfl := f2 p sp fo a1 hfo
            have hi0 : i < so0.cells.length := (List.getElem?_eq_some_iff.1 x1).1
            by_cases hqo : q.1 = o
            · exact x2 p sp fo q a1 hfo h1 a4 ⟨hqo, by rw [b4, hqo] at k2; omega, by rw [b4, hqo] at k3; omega⟩
            · rcases hM.dis q.1 o so' so0 hqo h2 h0 (h4 a4) with d | d | d
              · exact d (b3.symm.trans k1)
              · omega
              · omega
      · rw [b1, b2, n6.frozen g.blk]
        exact g.thaw (by rw [← e1]; exact hw) i (by omega)
    · have hol : o < s.mem.length + nb.length := by rw [← hml]; exact mem_lt hso
      obtain ⟨b, hb1, hb2⟩ := objFresh o hge hol
      have hp := Sub.blk_new he hoo hxx hpp l nb ((ini e.args).mem.length + (o - s.mem.length)) (by rw [hlen]; omega)
      rw [hb, hbs, σm, hlen, show s.mem.length + ((ini e.args).mem.length + (o - s.mem.length) - (ini e.args).mem.length) = o by omega] at hp
      have g := n5 _ fo hfo
      refine ⟨by rw [← hp.1]; exact g.blk, fun i c hc => ?_, fun hw i hi => ?_⟩
      · simp only [List.getElem?_map] at hc
        obtain ⟨cc, hcc, rfl⟩ := Option.map_eq_some_iff.1 hc
        rw [← hp.1, ← hp.2, denEq]
        exact g.cell i cc hcc
      · rw [← hp.1, ← hp.2]
        exact g.thaw (f3 _ fo (by omega) hfo) i (by simpa using hi)
  · intro o so hso
    rw [← hs'] at hso ⊢
    exact List.all_eq_true.1 hok1 so (List.mem_of_getElem? hso)
  · intro o o' so so' hne hso hso' hw
    rw [← hs'] at hso hso'
    have hlt := mem_lt hso
    have hlt' := mem_lt hso'
    rcases m2 o so hso with ⟨so0, h0, e1, e2, _⟩ | ⟨hge, fo, hfo, rfl⟩ <;> rcases m2 o' so' hso' with ⟨so0', h0', e1', e2', _⟩ | ⟨hge', fo', hfo', rfl⟩
    · rw [(objOld o (mem_lt h0)).1, (objOld o (mem_lt h0)).2, (objOld o' (mem_lt h0')).1, (objOld o' (mem_lt h0')).2, e2, e2']
      exact hM.dis o o' so0 so0' hne h0 h0' (by rw [← e1]; exact hw)
    · obtain ⟨b, hb1, hb2⟩ := objFresh o' hge' (by rw [← hml]; exact hlt')
      left
      rw [(objOld o (mem_lt h0)).1, hb2]
      have := (hM.objs o so0 h0).blk
      have := n2 b (List.mem_of_getElem? hb1)
      omega
    · obtain ⟨b, hb1, hb2⟩ := objFresh o hge (by rw [← hml]; exact hlt)
      left
      rw [(objOld o' (mem_lt h0')).1, hb2]
      have := (hM.objs o' so0' h0').blk
      have := n2 b (List.mem_of_getElem? hb1)
      omega
    · have hp := Sub.blk_new he hoo hxx hpp l nb ((ini e.args).mem.length + (o - s.mem.length)) (by rw [hlen]; omega)
      have hp' := Sub.blk_new he hoo hxx hpp l nb ((ini e.args).mem.length + (o' - s.mem.length)) (by rw [hlen]; omega)
      rw [hb, hbs, σm, hlen, show s.mem.length + ((ini e.args).mem.length + (o - s.mem.length) - (ini e.args).mem.length) = o by omega] at hp
      rw [hb, hbs, σm, hlen, show s.mem.length + ((ini e.args).mem.length + (o' - s.mem.length) - (ini e.args).mem.length) = o' by omega] at hp'
      have := n3 _ _ fo fo' (by omega) hfo hfo' (f3 _ fo (by omega) hfo)
      rw [hp.1, hp.2, hp'.1, hp'.2] at this
      simpa using this
  · intro o so hso hw
    rw [← hs'] at hso
    rcases m2 o so hso with ⟨so0, h0, e1, e2, _⟩ | ⟨hge, fo, hfo, rfl⟩
    · rw [(objOld o (mem_lt h0)).1, (objOld o (mem_lt h0)).2, e2]
      exact hM.own o so0 h0 (by rw [← e1]; exact hw)
    · obtain ⟨b, hb1, hb2⟩ := objFresh o hge (by rw [← hml]; exact mem_lt hso)
      left
      rw [hb2]
      have := n2 b (List.mem_of_getElem? hb1)
      have := hM.fr.size
      omega
  · refine hM.fr.trans n6 fun k i hk hW => ?_
    obtain ⟨p, sp, a1, a4, k1, k2, k3⟩ := hW
    obtain ⟨q, so', h1, h2, h3, h4, h5, h6⟩ := chkMem_spec c6 a1
    obtain ⟨hpl, hq⟩ := getQ h1
    obtain ⟨b3, b4⟩ := objEq p hpl
    rw [hq] at b3 b4
    rcases hM.own q.1 so' h2 (h4 a4) with d | d
    · omega
    · have := d (i - ρ.off q.1) (by omega)
      rw [← b3, k1, show ρ.off q.1 + (i - ρ.off q.1) = i by omega] at this
      exact this
  · obtain ⟨p, hp⟩ := hM.pre
    exact ⟨p ++ nb, by simp [hp]⟩
  · rw [n4, ← hsv]
    have := Sub.sv_den he hoo hxx hpp l nb (retOf (fin e).res)
    rw [hb, hbs] at this
    rw [this]

end Go.Proofs.YtfeancgmmonebaaDoor.Sx

/-
  Regions, symbolically: operations in their order; a region that asks for an order: its first operations only read, the others follow one by one. Conditions: none; each theorem bears its own.
-/
namespace Go.Proofs.YtfeancgmmonebaaDoor.Sx
open Go

/-! ## 1. A region whose head only reads, in every world of a class, and whose tail is a chain -/
section
variable {P : Program} {ops : Array Oper} {md : Region.Mode} {C : World → Prop}

/-- The head's operations, in whatever order; then 'L'. -/
def headAny (P : Program) (md : Region.Mode) (ops : Array Oper) (C : World → Prop) (n : Nat) (L : Array Bool → Act → Prop) : Nat → Array Bool → Act → Prop
  | 0, listed, a => L listed a
  | f + 1, listed, a => Region.ready md ops listed ≠ [] ∧ ∀ i ∈ Region.ready md ops listed, i < n ∧ qOp P ops C i (headAny P md ops C n L f (listed.setIfInBounds i true)) a

theorem any_of_head {n g : Nat} {L : Array Bool → Act → Prop} {Q : Exit → Act → World → Prop} (hL : ∀ listed a w, C w → L listed a → wpAny P md ops Q g listed a w) :
    ∀ (f : Nat) (listed : Array Bool) (a : Act) (w : World), C w → headAny P md ops C n L f listed a → wpAny P md ops Q (f + g) listed a w
  | 0, listed, a, w, hw, h => by rw [Nat.zero_add]; exact hL _ _ _ hw h
  | f + 1, listed, a, w, hw, h => by
    rw [show f + 1 + g = (f + g) + 1 by omega]
    exact ⟨fun h0 => absurd h0 h.1, fun i hi => wpOp_of_qOp hw (fun a' w' hw' h' => any_of_head hL f _ a' w' hw' h') (h.2 i hi).2⟩

theorem head_first {n i : Nat} {oi : Oper} {v : Value} {L : Array Bool → Act → Prop} (hi : ops[i]? = some oi) (hsel : ∀ (j : Nat) (o : Oper) cs b, ops[j]? = some o → o.op ≠ .select cs b)
    (hs : Region.sinkB md ops n = true) (hc : Region.chainB md ops n = true) (hn : n < ops.size) (hin : i < n) (hdone : ∀ listed a, L listed a → ∀ j ∈ Region.ready md ops listed, n ≤ j) :
    ∀ (f : Nat) (listed : Array Bool) (a : Act), HeadInv md ops n listed →
      (∀ j oj, ops[j]? = some oj → j ≠ i → listed.getD j true = false → (∀ e ∈ oj.after, Region.binds md e = true → e.on ≠ i) → oi.apart ops oj = true) →
      i ∈ Region.ready md ops listed → YieldsIn P ops C oi v a →
      headAny P md ops C n L f (listed.setIfInBounds i true) (a.put oi.dst v) → headAny P md ops C n L (f + 1) listed a := by
  intro f
  induction f with
  | zero =>
    intro listed a inv _ hr hy H
    have hun := (mem_ready.1 hr).1
    refine ⟨fun h => (by rw [h] at hr; cases hr), fun j hj => ?_⟩
    have hjn : j < n := by
      rcases Nat.lt_or_ge j n with h | h
      · exact h
      · exact absurd hj (tail_waits hs hc hn inv _ i rfl hin hun j h)
    refine ⟨hjn, ?_⟩
    by_cases hji : j = i
    · subst hji; exact hy.qOp hi H
    · have := hdone _ _ H j (ready_mono hj hji)
      omega
  | succ f ih =>
    intro listed a inv hfree hr hy H
    have hun := (mem_ready.1 hr).1
    refine ⟨fun h => (by rw [h] at hr; cases hr), fun j hj => ?_⟩
    have hjn : j < n := by
      rcases Nat.lt_or_ge j n with h | h
      · exact h
      · exact absurd hj (tail_waits hs hc hn inv _ i rfl hin hun j h)
    refine ⟨hjn, ?_⟩
    by_cases hji : j = i
    · subst hji; exact hy.qOp hi H
    · have h1 := (H.2 j (ready_mono hj hji)).2
      obtain ⟨hjun, oj, hoj, hall⟩ := mem_ready.1 hj
      have hnot : ∀ e ∈ oj.after, Region.binds md e = true → e.on ≠ i := fun e he hb heq => by
        have h1 := hall e he hb
        rw [heq, getD_both hun] at h1
        cases h1
      have h2 := qOp_put hoj (hfree j oj hoj hji hjun hnot) (fun cs b => hsel i oi cs b hi) (fun cs b => hsel j oj cs b hoj) hy h1
      have hfree' : ∀ k ok, ops[k]? = some ok → k ≠ i → (listed.setIfInBounds j true).getD k true = false →
          (∀ e ∈ ok.after, Region.binds md e = true → e.on ≠ i) → oi.apart ops ok = true := fun k ok hk hki hun hno => by
        refine hfree k ok hk hki ?_ hno
        by_cases hjk : j = k
        · subst hjk; exact hjun
        · rw [getD_set_ne true hjk] at hun; exact hun
      refine qOp_mono (fun a' h3 => ih (listed.setIfInBounds j true) a' (inv.set hj hjn) hfree' (ready_mono hr (Ne.symm hji)) h3.1 ?_) h2
      rw [Array.setIfInBounds_comm _ _ hji]
      exact h3.2

theorem head_lex {n g : Nat} {Lq : Act → Prop} (hsel : Region.noSelect ops = true) (hs : Region.sinkB md ops n = true) (hc : Region.chainB md ops n = true) (hn : n < ops.size) :
    ∀ (l : List Oper) (k : Nat) (listed : Array Bool) (a : Act), (∀ j, j < l.length → l[j]? = ops[k + j]?) → k + l.length = n → HeadInv md ops n listed →
    Region.lexHead md ops g l.length k listed = true → wpQuiet P ops C Lq l a →
    headAny P md ops C n (fun listed' a' => Region.seqB md ops g n listed' = true ∧ Lq a') l.length listed a
  | [], k, listed, a, _, hk, _, hB, h => by
    have : k = n := by simpa using hk
    subst this
    exact ⟨by simpa [Region.lexHead] using hB, h⟩
  | o :: l, k, listed, a, hl, hk, inv, hB, h => by
    have h0 : ops[k]? = some o := by simpa using (hl 0 (by simp)).symm
    simp only [List.length_cons, Region.lexHead, Bool.and_eq_true] at hB
    obtain ⟨⟨hr, hf⟩, hB'⟩ := hB
    have hkn : k < n := by simp only [List.length_cons] at hk; omega
    have hr' : k ∈ Region.ready md ops listed := by simpa using hr
    have hst : qOp P ops C k (wpQuiet P ops C Lq l) a := by unfold qOp; simp only [h0]; exact h
    obtain ⟨v, hy, hK⟩ := yieldsIn_of_qOp h0 hst
    exact head_first h0 (Region.noSelect_spec hsel) hs hc hn hkn (fun listed' a' hL => seqB_ready hL.1) l.length listed a inv (Region.free_spec h0 hf) hr' hy
      (head_lex hsel hs hc hn l (k + 1) _ _ (fun j hj => by have := hl (j + 1) (by simp; omega); simpa [Nat.add_assoc, Nat.add_comm 1 j] using this) (by simp only [List.length_cons] at hk; omega) (inv.set hr' hkn) hB' hK)

theorem wp_region_head {id : Nat} {Q : Exit → Act → World → Prop} {a : Act} {w : World} {l : List Oper} (n : Nat) (hm : P.follows .mixedOrders = true) (hB : Region.lexTailB .any l.toArray n = true)
    (hC : C { w with drawn := w.drawn + 1 })
    (h : wpQuiet P l.toArray C (fun a' => ∀ w', C w' → wpList P l.toArray Q (l.drop n) a' w') (l.take n) a) : (Code.region id l.toArray true).wp P Q a w := by
  simp only [Region.lexTailB, Bool.and_eq_true, decide_eq_true_eq] at hB
  obtain ⟨⟨⟨⟨hsel, hn⟩, hs⟩, hc⟩, hlex⟩ := hB
  have hn' : n < l.length := by simpa using hn
  have htl : (l.take n).length = n := by simp; omega
  have hdl : (l.drop n).length = l.toArray.size - n := by simp
  have inv0 : HeadInv .any l.toArray n (Array.replicate l.toArray.size false) :=
    ⟨by simp, fun j oj _ hl => (by rw [getD_replicate_false] at hl; cases hl), fun t _ ht => getD_in (by simpa using ht) (getD_replicate_false _ _)⟩
  have H := head_lex (md := .any) (g := l.toArray.size - n) hsel hs hc hn (l.take n) 0 _ a (fun j hj => by
    have hj' : j < n := by rw [htl] at hj; exact hj
    simp [hj']) (by simpa using htl) inv0 (by rw [htl]; exact hlex) h
  refine wp_region_any hm ?_
  have := any_of_head (Q := Q) (g := l.toArray.size - n) (fun listed a' w' hw' hL => by
    have := wpAny_of_seq (md := .any) (Q' := Q) (l.drop n) n listed a' w' (fun j => by simp [List.getElem?_drop]) (by rw [hdl]; exact hL.1) (hL.2 w' hw')
    rwa [hdl] at this) _ _ _ _ hC H
  rw [htl, show n + (l.toArray.size - n) = l.toArray.size by omega] at this
  exact this
end

/-! ## 2. One operation -/

inductive GRes where
  | run
  | skip
  | part (x : SI) (want : Bool)
  | fail

def guardRes (ops : Array Oper) (s : St) (o : Oper) : GRes :=
  match o.guard with
  | none => .run
  | some (j, want) =>
    match (ops[j]?).bind (·.dst) with
    | none => .fail
    | some d =>
      match s.tm.get d with
      | some (.one (.sc (.bool x))) =>
        match known s.asm x with
        | some b => if b == want then .run else .skip
        | none => .part x want
      | some (.tup []) => .skip
      | _ => .fail

def getAll (s : St) : List Operand → Option (List SV)
  | [] => some []
  | x :: r => match s.get x, getAll s r with
    | some v, some vs => some (v :: vs)
    | _, _ => none

def callAny (quiet : Bool) (s : St) (f : FuncId) (vs : List SV) : Nat → List Entry → Option (St × SV × List Need)
  | _, [] => none
  | j, e :: r => if Nat.beq e.f f then match callE quiet s e j vs with
      | some x => some x
      | none => callAny quiet s f vs (j + 1) r
    else callAny quiet s f vs (j + 1) r

def stepOp (P : Program) (Γ : List Entry) (quiet : Bool) (s : St) (o : Oper) : Option (St × SV × List Need) :=
  match opV P s o.op with
  | some r => match s.give r with
    | some (s', sv) => some (s', sv, [])
    | none => none
  | none =>
    match o.op with
    | .call c => match c.callee with
      | .value (.func f) => match getAll s c.args.toList with
        | some vs => callAny quiet s f vs 0 Γ
        | none => none
      | _ => none
    | op => if quiet then none else match opM P s op with
      | some (s', sv) => some (s', sv, [])
      | none => none

def runOps (P : Program) (Γ : List Entry) (quiet : Bool) (ops : Array Oper) : List Oper → St → Option (List Need × List St)
  | [], s => some ([], [s])
  | o :: r, s =>
    let go (s : St) : Option (List Need × List St) := match stepOp P Γ quiet s o with
      | some (s1, sv, nds) => match s1.put o.dst sv with
        | some s2 => match runOps P Γ quiet ops r s2 with
          | some (n, ss) => some (nds ++ n, ss)
          | none => none
        | none => none
      | none => none
    let skip (s : St) : Option (List Need × List St) := match s.put o.dst (.tup []) with
      | some s2 => runOps P Γ quiet ops r s2
      | none => none
    match guardRes ops s o with
    | .run => go s
    | .skip => skip s
    | .part x want => match go { s with asm := (x, want) :: s.asm }, skip { s with asm := (x, !want) :: s.asm } with
      | some (n1, s1), some (n2, s2) => some (n1 ++ n2, s1 ++ s2)
      | _, _ => none
    | .fail => none

theorem known_val {asm : List (SI × Bool)} {e : List Int} (h : asmHolds e asm) {x : SI} {b : Bool} (hk : known asm x = some b) : (x.val e != 0) = b := by
  cases x with
  | lit n => simpa [known, SI.val] using hk
  | var i =>
    simp only [known] at hk
    obtain ⟨q, hq, rfl⟩ := Option.map_eq_some_iff.1 hk
    have h1 := List.mem_of_find?_eq_some hq
    have h2 := List.find?_some hq
    have h3 := h q h1
    rw [← h3, ← SI.beq_eq (x := q.1) (y := .var i) h2]

theorem RelA.test {Γ : List Entry} {base : List Int} {ρ : En} {s : St} {a : Act} (hA : RelA Γ base ρ s a) {x : SI} {b : Bool} (hx : x.ok s.n = true) (hb : (x.val ρ.e != 0) = b) :
    RelA Γ base ρ { s with asm := (x, b) :: s.asm } a :=
  ⟨hA.env, hA.len, hA.lenO, hA.size, hA.dfr, hA.tm, fun c hc => by
    rcases List.mem_cons.1 hc with rfl | hc
    · exact hb
    · exact hA.asm c hc, fun c hc => by
    rcases List.mem_cons.1 hc with rfl | hc
    · exact hx
    · exact hA.asmok c hc⟩

theorem RelM.test {W : Nat → Nat → Prop} {w0 : World} {O : List (Nat × Nat)} {ρ : En} {s : St} {w : World} (h : RelM W w0 O ρ s w) (asm : List (SI × Bool)) : RelM W w0 O ρ { s with asm := asm } w :=
  ⟨h.objs, h.ok, h.dis, h.own, h.fr, h.pre⟩

theorem RelM.same {W : Nat → Nat → Prop} {w0 : World} {O : List (Nat × Nat)} {ρ : En} {s s' : St} {w : World} (h : RelM W w0 O ρ s w) (hm : s'.mem = s.mem) (hn : s'.n = s.n) : RelM W w0 O ρ s' w :=
  ⟨fun o so ho => h.objs o so (by rw [← hm]; exact ho), fun o so ho => by rw [hm, hn]; exact h.ok o so (by rw [← hm]; exact ho), by rw [hm]; exact h.dis, fun o so ho => h.own o so (by rw [← hm]; exact ho), h.fr, h.pre⟩

/-- Is the operation wanted? As the guard was read. -/
theorem guard_spec {Γ : List Entry} {base : List Int} {ρ : En} {s : St} {a : Act} (hA : RelA Γ base ρ s a) (ops : Array Oper) (o : Oper) :
    match guardRes ops s o with
    | .run => Region.wanted o (yielded ops a.tmps) = true
    | .skip => Region.wanted o (yielded ops a.tmps) = false
    | .part x want => x.ok s.n = true ∧ Region.wanted o (yielded ops a.tmps) = ((x.val ρ.e != 0) == want)
    | .fail => True := by
  unfold guardRes Region.wanted
  cases hg : o.guard with
  | none => rfl
  | some g =>
    obtain ⟨j, want⟩ := g
    simp only
    cases hd : (ops[j]?).bind (·.dst) with
    | none => trivial
    | some d =>
      simp only
      cases ht : s.tm.get d with
      | none => trivial
      | some sv =>
        have h := hA.tm d sv ht
        have hy : yielded ops a.tmps j = match sv.den ρ with | .bool b => some b | _ => none := by
          simp only [yielded, hd, Option.bind_some, h.2]
          cases hq : sv.den ρ <;> rfl
        cases sv with
        | tup vs =>
          cases vs with
          | nil => simp only [hy, SV.den]; rfl
          | cons v vs => trivial
        | one v =>
          cases v with
          | agg cs => trivial
          | sc c =>
            cases c with
            | bool x =>
              simp only [hy, SV.den, S1.den, SC.den]
              have e1 : (some (x.val ρ.e != 0) == some want) = ((x.val ρ.e != 0) == want) := rfl
              cases hk : known s.asm x with
              | none => dsimp only; exact ⟨h.1, e1⟩
              | some b =>
                have hb := known_val hA.asm hk
                dsimp only
                by_cases hbw : (b == want) = true
                · rw [if_pos hbw]
                  dsimp only
                  rw [e1, hb]; exact hbw
                · rw [if_neg hbw]
                  dsimp only
                  rw [e1, hb]; simpa using hbw
            | _ => trivial

theorem getAll_sound {Γ : List Entry} {base : List Int} {ρ : En} {s : St} {a : Act} (hA : RelA Γ base ρ s a) : ∀ (l : List Operand) (vs : List SV), getAll s l = some vs → l.map a.eval = vs.map (SV.den ρ)
  | [], vs, h => by cases h; rfl
  | x :: r, vs, h => by
    unfold getAll at h
    split at h
    · rename_i v vs' h1 h2
      cases h
      simp [(get_sound hA h1).1, getAll_sound hA r vs' h2]
    · cases h

theorem callAny_spec {quiet : Bool} {s : St} {f : FuncId} {vs : List SV} {x : St × SV × List Need} : ∀ (Γ : List Entry) (j : Nat), callAny quiet s f vs j Γ = some x →
    ∃ (i : Nat) (e : Entry), Γ[i]? = some e ∧ e.f = f ∧ callE quiet s e (j + i) vs = some x
  | [], j, h => by cases h
  | e :: r, j, h => by
    have go : callAny quiet s f vs (j + 1) r = some x → ∃ (i : Nat) (e' : Entry), (e :: r)[i]? = some e' ∧ e'.f = f ∧ callE quiet s e' (j + i) vs = some x := fun h => by
      obtain ⟨i, e', h1, h2, h3⟩ := callAny_spec r (j + 1) h
      exact ⟨i + 1, e', by simpa using h1, h2, by rw [show j + (i + 1) = j + 1 + i by omega]; exact h3⟩
    unfold callAny at h
    split at h
    · rename_i hf
      split at h
      · rename_i y hy
        cases h
        exact ⟨0, e, rfl, Nat.eq_of_beq_eq_true hf, hy⟩
      · exact go h
    · exact go h

/-- More numbers, more objects. -/
def Ext (ρ ρ' : En) : Prop := ∃ l p, ρ' = ⟨ρ.e ++ l, ρ.o ++ p⟩

theorem Ext.refl (ρ : En) : Ext ρ ρ := ⟨[], [], by simp⟩
theorem Ext.trans {a b c : En} (h : Ext a b) (g : Ext b c) : Ext a c := by
  obtain ⟨l, p, rfl⟩ := h
  obtain ⟨m, q, rfl⟩ := g
  exact ⟨l ++ m, p ++ q, by simp⟩

/-- What one step leaves. -/
structure After (Γ : List Entry) (base : List Int) (W : Nat → Nat → Prop) (w0 : World) (O : List (Nat × Nat)) (ρ : En) (s : St) (s' : St) (sv : SV) (a : Act) (v : Value) (w' : World) (ρ' : En) : Prop where
  ext : Ext ρ ρ'
  rA : RelA Γ base ρ' s' a
  rM : RelM W w0 O ρ' s' w'
  ok : sv.ok s'.n s'.mem.length = true
  val : v = sv.den ρ'
  asm : s'.asm = s.asm

theorem stepOp_sound {P : Program} {Γ : List Entry} (hΓ : ∀ e ∈ Γ, Meets P e) {base : List Int} {W : Nat → Nat → Prop} {w0 : World} {O : List (Nat × Nat)} {ρ : En} {s s' : St} {a : Act} {w : World} {sv : SV} {nds : List Need} {o : Oper}
    (hA : RelA Γ base ρ s a) (hM : RelM W w0 O ρ s w) (h : stepOp P Γ false s o = some (s', sv, nds)) (hn : ∀ nd ∈ nds, nd.holds Γ base) {next : Act → World → Prop} {Q : Exit → Act → World → Prop}
    (hk : ∀ v w' ρ', After Γ base W w0 O ρ s s' sv a v w' ρ' → next (a.put o.dst v) w') : o.wp P a w next Q := by
  unfold stepOp at h
  split at h
  · rename_i r hr
    split at h
    · rename_i s1 sv1 hg
      cases h
      obtain ⟨l, g1, g2, g3, g4, g5, g6, g7, g8⟩ := give_sound hA hg
      have hrun := opV_run hA (w := w) hM.objs.cells o hr
      unfold Oper.wp
      rw [hrun]
      exact hk _ _ _ ⟨⟨l, [], by simp⟩, g1, hM.grow l g4 g8 hA.len hA.lenO, g2, g3.symm, g7⟩
    · cases h
  · split at h
    · rename_i c hop
      split at h
      · rename_i f hcal
        split at h
        · rename_i vs hvs
          obtain ⟨i, e, h1, rfl, h3⟩ := callAny_spec Γ 0 h
          rw [Nat.zero_add] at h3
          have hj : Γ.getD i noEntry = e := by simp [List.getD, h1]
          obtain ⟨l, _, q2, q3, q4, q5, q6, q7⟩ := callE_sound (W := W) (w0 := w0) (O := O) hA hj (hΓ e (List.mem_of_getElem? h1)) h3 hn
          have hcall := q7 w hM
          have hargs : c.args.map a.eval = (vs.map (SV.den ρ)).toArray := by
            apply Array.ext'
            simp [getAll_sound hA _ _ hvs]
          have hex : execOp a.eval o = callFunc e.f ((vs.map (SV.den ρ)).toArray) := by
            obtain ⟨dst, op, ty, pos, after, guard⟩ := o
            obtain ⟨callee, args, ats⟩ := c
            simp only at hop hcal hargs
            subst hop hcal
            rw [execOp_call_go, hargs]
            simp
          unfold Oper.wp
          rw [hex]
          rcases hcall with ⟨r1, r2⟩ | ⟨v, r1, r2⟩
          · rw [r1, Oper.upon_enter]
            refine r2.mono fun en w' ⟨p, _, p1, p2, p3⟩ => ?_
            subst p3
            exact hk _ _ _ ⟨⟨l, p, rfl⟩, p1, p2, q2, rfl, q3⟩
          · rw [r1, Oper.upon_value]
            obtain ⟨p, _, p1, p2, p3⟩ := r2
            cases p3
            exact hk _ _ _ ⟨⟨l, p, rfl⟩, p1, p2, q2, rfl, q3⟩
        · cases h
      · cases h
    · simp only [Bool.false_eq_true, if_false] at h
      split at h
      · rename_i s1 sv1 hg
        cases h
        obtain ⟨p, w', nx, g1, g2, g3, g4, g5, g6, g7, g8, g9⟩ := opM_sound hA hM o hg
        unfold Oper.wp
        rw [g8]
        rcases g9 with rfl | ⟨rfl, g9⟩
        · exact hk _ _ _ ⟨⟨[], p, by simp⟩, g1, g2, g3, rfl, g6⟩
        · rw [Oper.upon_skip]
          exact hk _ _ _ ⟨⟨[], p, by simp⟩, g1, g2, g3, g9.symm, g6⟩
      · cases h

theorem tup_ok (n m : Nat) : (SV.tup []).ok n m = true := rfl
theorem tup_den (ρ : En) : (SV.tup []).den ρ = undef := rfl

theorem runOps_sound {P : Program} {Γ : List Entry} (hΓ : ∀ e ∈ Γ, Meets P e) {base : List Int} {W : Nat → Nat → Prop} {w0 : World} {O : List (Nat × Nat)} (ops : Array Oper) {Q : Exit → Act → World → Prop} :
    ∀ (l : List Oper) (s : St) (ρ : En) (a : Act) (w : World) (nds : List Need) (ss : List St), runOps P Γ false ops l s = some (nds, ss) → (∀ nd ∈ nds, nd.holds Γ base) → RelA Γ base ρ s a → RelM W w0 O ρ s w →
      (∀ s' ∈ ss, ∀ ρ' a' w', Ext ρ ρ' → RelA Γ base ρ' s' a' → RelM W w0 O ρ' s' w' → Q .normal a' w') → wpList P ops Q l a w
  | [], s, ρ, a, w, nds, ss, h, hn, hA, hM, hQ => by
    cases h
    exact wpList_nil (hQ s (by simp) ρ a w (Ext.refl ρ) hA hM)
  | o :: r, s, ρ, a, w, nds, ss, h, hn, hA, hM, hQ => by
    have go : ∀ (s : St) (ρ : En) (nds : List Need) (ss : List St), (match stepOp P Γ false s o with
          | some (s1, sv, nds) => match s1.put o.dst sv with
            | some s2 => match runOps P Γ false ops r s2 with
              | some (n, ss) => some (nds ++ n, ss)
              | none => none
            | none => none
          | none => none) = some (nds, ss) → (∀ nd ∈ nds, nd.holds Γ base) → RelA Γ base ρ s a → RelM W w0 O ρ s w → (∀ s' ∈ ss, ∀ ρ' a' w', Ext ρ ρ' → RelA Γ base ρ' s' a' → RelM W w0 O ρ' s' w' → Q .normal a' w') →
          Region.wanted o (yielded ops a.tmps) = true → wpList P ops Q (o :: r) a w := by
      intro s ρ nds ss h hn hA hM hQ hw
      split at h
      · rename_i s1 sv nd1 hst
        split at h
        · rename_i s2 hput
          split at h
          · rename_i n2 ss2 hrest
            simp only [Option.some.injEq, Prod.mk.injEq] at h
            obtain ⟨rfl, rfl⟩ := h
            refine wpList_step fun K hK => ?_
            rw [if_pos hw]
            refine stepOp_sound hΓ hA hM hst (fun nd hnd => hn nd (by simp [hnd])) fun v w' ρ' aft => ?_
            refine hK _ _ ?_
            obtain ⟨p1, p2, p3, p4, p5⟩ := aft.rA.put aft.ok hput
            rw [aft.val]
            exact runOps_sound hΓ ops r s2 ρ' _ w' n2 _ hrest (fun nd hnd => hn nd (by simp [hnd])) p1 (aft.rM.same p2 p3) fun s' hs' ρ2 a2 w2 he => hQ s' hs' ρ2 a2 w2 (aft.ext.trans he)
          · cases h
        · cases h
      · cases h
    have skip : ∀ (s : St) (nds : List Need) (ss : List St), (match s.put o.dst (.tup []) with
          | some s2 => runOps P Γ false ops r s2
          | none => none) = some (nds, ss) → (∀ nd ∈ nds, nd.holds Γ base) → RelA Γ base ρ s a → RelM W w0 O ρ s w → (∀ s' ∈ ss, ∀ ρ' a' w', Ext ρ ρ' → RelA Γ base ρ' s' a' → RelM W w0 O ρ' s' w' → Q .normal a' w') →
          Region.wanted o (yielded ops a.tmps) = false → wpList P ops Q (o :: r) a w := by
      intro s nds ss h hn hA hM hQ hw
      split at h
      · rename_i s2 hput
        obtain ⟨p1, p2, p3, p4, p5⟩ := hA.put (tup_ok _ _) hput
        refine wpList_skip hw ?_
        rw [← tup_den ρ]
        exact runOps_sound hΓ ops r s2 ρ _ w nds ss h hn p1 (hM.same p2 p3) hQ
      · cases h
    have hg := guard_spec hA ops o
    unfold runOps at h
    simp only at h
    split at h
    · rename_i hgr
      rw [hgr] at hg
      exact go s ρ nds ss h hn hA hM hQ hg
    · rename_i hgr
      rw [hgr] at hg
      exact skip s nds ss h hn hA hM hQ hg
    · rename_i x want hgr
      rw [hgr] at hg
      obtain ⟨hx, hw⟩ := hg
      split at h
      · rename_i n1 s1 n2 s2 h1 h2
        simp only [Option.some.injEq, Prod.mk.injEq] at h
        obtain ⟨rfl, rfl⟩ := h
        by_cases hb : (x.val ρ.e != 0) = want
        · exact go _ ρ n1 s1 h1 (fun nd hnd => hn nd (by simp [hnd])) (hA.test hx hb) (hM.test _) (fun s' hs' => hQ s' (by simp [hs'])) (by rw [hw, hb]; simp)
        · have hb' : (x.val ρ.e != 0) = !want := by cases h1 : (x.val ρ.e != 0) <;> cases want <;> simp_all
          exact skip _ n2 s2 h2 (fun nd hnd => hn nd (by simp [hnd])) (hA.test hx hb') (hM.test _) (fun s' hs' => hQ s' (by simp [hs'])) (by rw [hw, hb']; cases want <;> rfl)
      · cases h
    · cases h

end Go.Proofs.YtfeancgmmonebaaDoor.Sx
