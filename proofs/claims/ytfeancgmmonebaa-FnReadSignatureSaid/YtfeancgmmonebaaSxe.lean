/-
  Operations that make memory or store into it, symbolically. Conditions: none; each theorem bears its own.
-/
import Derived.Test.YtfeancgmmonebaaSxd
namespace Go.Proofs.Ytfeancgmmonebaa.Sx
open Go

theorem S1.den_cells {v : S1} {n m : Nat} (h : v.ok n m = true) (ρ : En) : (v.den ρ).cells = (v.cells.map (SC.den ρ)).toArray := by
  cases v with
  | sc c =>
    have : ∀ cs, c.den ρ ≠ .agg cs := by
      intro cs hc
      cases c with
      | cv v => simp only [SC.den] at hc; subst hc; simp [S1.ok, SC.ok, Value.oneCell'] at h
      | int k x => cases hc
      | bool x => cases hc
      | ptr i d => cases hc
      | slice i d l c => cases hc
    simp only [S1.den, S1.cells]
    cases hc : c.den ρ with
    | agg cs => exact (this cs hc).elim
    | _ => simp [Value.cells, hc]
  | agg cs => rfl

theorem S1.cells_ok {v : S1} {n m : Nat} (h : v.ok n m = true) : v.cells.all (SC.ok n m) = true := by
  cases v with
  | sc c => simp only [S1.cells, List.all_cons, List.all_nil, Bool.and_true]; exact h
  | agg cs => exact h

theorem SC.den_one {c : SC} {n m : Nat} (h : c.ok n m = true) (ρ : En) : (c.den ρ).oneCell' = true := by
  cases c with
  | cv v => exact h
  | _ => rfl

def newObj (s : St) (cs : List SC) : Option (St × SV) :=
  if cs.all (SC.ok s.n s.mem.length) then some ({ s with mem := s.mem ++ [⟨cs, true⟩] }, .one (.sc (.ptr s.mem.length 0))) else none

def opM (P : Program) (s : St) (op : Op) : Option (St × SV) :=
  match op with
  | .alloc T =>
    match (P.info? T).bind (·.zero) with
    | some v => match ofCells v.cells.toList with
      | some cs => newObj s cs
      | none => none
    | none => none
  | .box _ x =>
    match s.get x with
    | some (.one v) => newObj s v.cells
    | _ => none
  | .store T a x =>
    match s.get a, s.get x with
    | some (.one (.sc (.ptr o d))), some (.one v) =>
      match szOf P T, s.mem[o]? with
      | some n, some so =>
        if so.w && decide (v.cells.length = n) && decide (d + n ≤ so.cells.length) then some ({ s with mem := writes s.mem [⟨o, d, v.cells⟩] }, .tup []) else none
      | _, _ => none
    | _, _ => none
  | _ => none

theorem RelA.objs {Γ : List Entry} {base : List Int} {ρ : En} {s : St} {a : Act} (hA : RelA Γ base ρ s a) (mem : List SO) (p : List (Nat × Nat)) (hl : mem.length = s.mem.length + p.length) :
    RelA Γ base ⟨ρ.e, ρ.o ++ p⟩ { s with mem := mem } a := by
  refine ⟨hA.env, hA.len, by simp [hA.lenO, hl], hA.size, hA.dfr, ?_, hA.asm, hA.asmok⟩
  intro t sv ht
  have := hA.tm t sv ht
  refine ⟨SV.ok_mono this.1 (Nat.le_refl _) (by show s.mem.length ≤ mem.length; omega), ?_⟩
  have e := SV.den_ext (l := []) (p := p) (e := ρ.e) (o := ρ.o) (v := sv) (by rw [hA.len, hA.lenO]; exact this.1)
  rw [List.append_nil] at e
  rw [e]; exact this.2

theorem En.blk_new (e : List Int) (o : List (Nat × Nat)) (b d : Nat) : En.blk ⟨e, o ++ [(b, d)]⟩ o.length = b := by simp [En.blk, List.getD]
theorem En.off_new (e : List Int) (o : List (Nat × Nat)) (b d : Nat) : En.off ⟨e, o ++ [(b, d)]⟩ o.length = d := by simp [En.off, List.getD]

theorem RelM.newObj {W : Nat → Nat → Prop} {w0 : World} {O : List (Nat × Nat)} {ρ : En} {s : St} {w : World} (h : RelM W w0 O ρ s w) (len : ρ.e.length = s.n) (lenO : ρ.o.length = s.mem.length) {cs : List SC}
    (hok : cs.all (SC.ok s.n s.mem.length) = true) (T : TypeId) :
    RelM W w0 O ⟨ρ.e, ρ.o ++ [(w.heap.size, 0)]⟩ { s with mem := s.mem ++ [⟨cs, true⟩] } (w.alloc (.cells (cs.map (SC.den ρ)).toArray T)) := by
  have old : ∀ (o : Nat) (so : SO), s.mem[o]? = some so → En.blk ⟨ρ.e, ρ.o ++ [(w.heap.size, 0)]⟩ o = ρ.blk o ∧ En.off ⟨ρ.e, ρ.o ++ [(w.heap.size, 0)]⟩ o = ρ.off o := fun o so ho =>
    ⟨En.blk_ext ρ.e _ ρ.o _ o (by rw [lenO]; exact mem_lt ho), En.off_ext ρ.e _ ρ.o _ o (by rw [lenO]; exact mem_lt ho)⟩
  have ext : ∀ {c : SC}, c.ok s.n s.mem.length = true → c.den ⟨ρ.e, ρ.o ++ [(w.heap.size, 0)]⟩ = c.den ρ := fun {c} hc => by
    have e := SC.den_ext (l := []) (p := [(w.heap.size, 0)]) (e := ρ.e) (o := ρ.o) (c := c) (by rw [len, lenO]; exact hc)
    rwa [List.append_nil] at e
  have split : ∀ (o : Nat) (so : SO), (s.mem ++ [(⟨cs, true⟩ : SO)])[o]? = some so → s.mem[o]? = some so ∨ (o = s.mem.length ∧ so = ⟨cs, true⟩) := fun o so ho => by
    rcases Nat.lt_or_ge o s.mem.length with hl | hl
    · rw [List.getElem?_append_left hl] at ho; exact .inl ho
    · rw [List.getElem?_append_right hl] at ho
      have : o - s.mem.length < 1 := by
        rcases Nat.lt_or_ge (o - s.mem.length) 1 with h1 | h1
        · exact h1
        · rw [List.getElem?_eq_none (by simpa using h1)] at ho; cases ho
      have h0 : o = s.mem.length := by omega
      subst h0
      simp at ho
      exact .inr ⟨rfl, ho.symm⟩
  have nb : En.blk ⟨ρ.e, ρ.o ++ [(w.heap.size, 0)]⟩ s.mem.length = w.heap.size := by rw [← lenO]; exact En.blk_new _ _ _ _
  have no : En.off ⟨ρ.e, ρ.o ++ [(w.heap.size, 0)]⟩ s.mem.length = 0 := by rw [← lenO]; exact En.off_new _ _ _ _
  refine ⟨?_, ?_, ?_, ?_, h.fr.alloc _, ?_⟩
  · intro o so ho
    rcases split o so ho with ho | ⟨rfl, rfl⟩
    · have g := h.objs o so ho
      obtain ⟨e1, e2⟩ := old o so ho
      refine ⟨by rw [e1]; have := g.blk; simp; omega, fun j c hc => ?_, fun hw j hj => ?_⟩
      · rw [e1, e2, World.cell?_alloc_lt _ _ _ g.blk, ext (List.all_eq_true.1 (h.ok o so ho) c (List.mem_of_getElem? hc))]
        exact g.cell j c hc
      · rw [e1, e2, World.frozen?_alloc_old _ _ _ (by have := g.blk; simp; omega)]
        exact g.thaw hw j hj
    · refine ⟨by rw [nb]; simp, fun j c hc => ?_, fun hw j hj => ?_⟩
      · rw [nb, no, Nat.zero_add, World.cell?_alloc_new, ext (List.all_eq_true.1 hok c (List.mem_of_getElem? hc))]
        simp only at hc
        simp [hc]
      · rw [nb, no, Nat.zero_add]; exact World.frozen?_alloc_new _ _ _ _
  · intro o so ho
    show so.cells.all (SC.ok s.n (s.mem ++ [(⟨cs, true⟩ : SO)]).length) = true
    rcases split o so ho with ho | ⟨rfl, rfl⟩
    · exact cells_mono (h.ok o so ho) (Nat.le_refl _) (by simp)
    · exact cells_mono hok (Nat.le_refl _) (by simp)
  · intro o o' so so' hne ho ho' hw
    rcases split o so ho with ho | ⟨rfl, rfl⟩ <;> rcases split o' so' ho' with ho' | ⟨rfl, rfl⟩
    · rw [(old o so ho).1, (old o so ho).2, (old o' so' ho').1, (old o' so' ho').2]
      exact h.dis o o' so so' hne ho ho' hw
    · left; rw [(old o so ho).1, nb]; have := (h.objs o so ho).blk; omega
    · left; rw [(old o' so' ho').1, nb]; have := (h.objs o' so' ho').blk; omega
    · exact (hne rfl).elim
  · intro o so ho hw
    rcases split o so ho with ho | ⟨rfl, rfl⟩
    · rw [(old o so ho).1, (old o so ho).2]; exact h.own o so ho hw
    · left; rw [nb]; exact h.fr.size
  · obtain ⟨p, hp⟩ := h.pre
    exact ⟨p ++ [(w.heap.size, 0)], by simp [hp]⟩

theorem cells_out (b : Nat) : ∀ (vs : List Value) (o : Nat) (w : World) (x : Addr), (x.block ≠ b ∨ x.off < o ∨ o + vs.length ≤ x.off) → (w.setCells b o vs).cell? x = w.cell? x
  | [], _, _, _, _ => rfl
  | v :: r, o, w, x, h => by
    simp only [List.length_cons] at h
    rw [World.setCells, cells_out b r (o + 1) _ x (by omega), World.cell?_setCell_other]
    intro e
    subst e
    simp at h
    omega

theorem heap_setCells (b : Nat) : ∀ (vs : List Value) (o : Nat) (w : World), (w.setCells b o vs).heap.size = w.heap.size
  | [], _, _ => rfl
  | v :: r, o, w => by rw [World.setCells, heap_setCells b r]; simp [World.setCell]

theorem Fr.setCells {W : Nat → Nat → Prop} {w0 : World} (b : Nat) : ∀ (vs : List Value) (o : Nat) (w : World), Fr W w0 w → (b < w0.heap.size → ∀ j, j < vs.length → W b (o + j)) → Fr W w0 (w.setCells b o vs)
  | [], _, _, h, _ => h
  | v :: r, o, w, h, hw => by
    rw [World.setCells]
    refine Fr.setCells b r (o + 1) _ (h.setCell v fun hb => by simpa using hw hb 0 (by simp)) fun hb j hj => ?_
    have := hw hb (j + 1) (by simp; omega)
    rwa [show o + 1 + j = o + (j + 1) by omega]

/-- Cells of a writable object are written. -/
theorem RelM.write {W : Nat → Nat → Prop} {w0 : World} {O : List (Nat × Nat)} {ρ : En} {s : St} {w : World} (h : RelM W w0 O ρ s w) {o d : Nat} {so : SO} {cs : List SC} (ho : s.mem[o]? = some so) (hw : so.w = true)
    (hn : d + cs.length ≤ so.cells.length) (hok : cs.all (SC.ok s.n s.mem.length) = true) :
    RelM W w0 O ρ { s with mem := writes s.mem [⟨o, d, cs⟩] } (w.setCells (ρ.blk o) (ρ.off o + d) (cs.map (SC.den ρ))) ∧
      ∀ (P : Program), (storeCells ⟨ρ.blk o, ρ.off o + d, none⟩ (cs.map (SC.den ρ))).run P w = .ok () (w.setCells (ρ.blk o) (ρ.off o + d) (cs.map (SC.den ρ))) := by
  have g := h.objs o so ho
  have isc : ∀ j, j < cs.length → (w.cell? ⟨ρ.blk o, ρ.off o + d + j, none⟩).isSome = true := fun j hj => by
    have hj' : d + j < so.cells.length := by omega
    have := g.cell (d + j) _ (List.getElem?_eq_getElem hj')
    rw [Nat.add_assoc, this]; rfl
  have run : ∀ (P : Program), (storeCells ⟨ρ.blk o, ρ.off o + d, none⟩ (cs.map (SC.den ρ))).run P w = .ok () (w.setCells (ρ.blk o) (ρ.off o + d) (cs.map (SC.den ρ))) := fun P => by
    have := run_storeCells_cells (P := P) (ρ.blk o) (ρ.off o + d) (cs.map (SC.den ρ)) 0 w (by simpa using isc) (by
      intro j hj
      have := g.thaw hw (d + j) (by simp at hj; omega)
      rwa [show ρ.off o + d + 0 + j = ρ.off o + (d + j) by omega]) (by
      intro v hv
      obtain ⟨c, hc, rfl⟩ := List.mem_map.1 hv
      exact SC.den_one (List.all_eq_true.1 hok c hc) ρ)
    simpa using this
  refine ⟨?_, run⟩
  obtain ⟨wl, wspec⟩ := writes_spec [⟨o, d, cs⟩] s.mem
  refine ⟨?_, ?_, ?_, ?_, ?_, h.pre⟩
  · intro o' so' ho'
    obtain ⟨so0, h0, e1, e2, e3⟩ := wspec o' so' ho'
    have g0 := h.objs o' so0 h0
    refine ⟨by rw [heap_setCells]; exact g0.blk, fun j c hc => ?_, fun hw' j hj => ?_⟩
    · rcases e3 j c hc with ⟨x, hx, hxo, hxd, hxc⟩ | ⟨hc0, hno⟩
      · simp at hx; subst hx
        simp only at hxo hxd hxc
        subst hxo
        have hjl : j - d < cs.length := (List.getElem?_eq_some_iff.1 hxc).1
        have := World.cell?_setCells_in (ρ.blk o) (cs.map (SC.den ρ)) (ρ.off o + d) w (by
          intro i hi
          exact isc i (by simpa using hi)) (j - d) (by simpa using hjl)
        rw [show ρ.off o + d + (j - d) = ρ.off o + j by omega] at this
        rw [this, List.getElem_map, (List.getElem?_eq_some_iff.1 hxc).2]
      · have hno := hno ⟨o, d, cs⟩ (by simp)
        simp only at hno
        rw [cells_out]
        · exact g0.cell j c hc0
        · simp only [List.length_map]
          by_cases hoo : o = o'
          · subst hoo
            right; omega
          · have hj0 : j < so0.cells.length := (List.getElem?_eq_some_iff.1 hc0).1
            rcases h.dis o o' so so0 hoo ho h0 hw with q | q | q
            · left; exact fun e => q e.symm
            · right; omega
            · right; omega
    · rw [World.frozen?_setCells]
      exact g0.thaw (by rw [← e1]; exact hw') j (by omega)
  · intro o' so' ho'
    obtain ⟨so0, h0, e1, e2, e3⟩ := wspec o' so' ho'
    show so'.cells.all (SC.ok s.n (writes s.mem [⟨o, d, cs⟩]).length) = true
    rw [wl]
    refine List.all_eq_true.2 fun c hc => ?_
    obtain ⟨j, hj⟩ := List.getElem?_of_mem hc
    rcases e3 j c hj with ⟨x, hx, _, _, hxc⟩ | ⟨hc0, _⟩
    · simp at hx; subst hx
      exact List.all_eq_true.1 hok c (List.mem_of_getElem? hxc)
    · exact List.all_eq_true.1 (h.ok o' so0 h0) c (List.mem_of_getElem? hc0)
  · intro p p' sp sp' hne hp hp' hpw
    obtain ⟨q, h0, e1, e2, _⟩ := wspec p sp hp
    obtain ⟨q', h0', e1', e2', _⟩ := wspec p' sp' hp'
    rw [e2, e2']
    exact h.dis p p' q q' hne h0 h0' (by rw [← e1]; exact hpw)
  · intro p sp hp hpw
    obtain ⟨q, h0, e1, e2, _⟩ := wspec p sp hp
    rw [e2]
    exact h.own p q h0 (by rw [← e1]; exact hpw)
  · refine Fr.setCells _ _ _ _ h.fr fun hb j hj => ?_
    rcases h.own o so ho hw with q | q
    · omega
    · have := q (d + j) (by simp at hj; omega)
      rwa [show ρ.off o + d + j = ρ.off o + (d + j) by omega]

theorem opM_sound {P : Program} {Γ : List Entry} {base : List Int} {W : Nat → Nat → Prop} {w0 : World} {O : List (Nat × Nat)} {ρ : En} {s s' : St} {a : Act} {w : World} {sv : SV} (hA : RelA Γ base ρ s a) (hM : RelM W w0 O ρ s w) (o : Oper)
    (h : opM P s o.op = some (s', sv)) :
    ∃ p w' nx, RelA Γ base ⟨ρ.e, ρ.o ++ p⟩ s' a ∧ RelM W w0 O ⟨ρ.e, ρ.o ++ p⟩ s' w' ∧ sv.ok s'.n s'.mem.length = true ∧ s'.n = s.n ∧ s'.nt = s.nt ∧ s'.asm = s.asm ∧ s'.defs = s.defs ∧ (execOp a.eval o).run P w = .ok nx w' ∧
      (nx = .value (sv.den ⟨ρ.e, ρ.o ++ p⟩) ∨ (nx = .skip ∧ sv.den ⟨ρ.e, ρ.o ++ p⟩ = undef)) := by
  have fresh : ∀ {cs : List SC} (T : TypeId), newObj s cs = some (s', sv) →
      RelA Γ base ⟨ρ.e, ρ.o ++ [(w.heap.size, 0)]⟩ s' a ∧ RelM W w0 O ⟨ρ.e, ρ.o ++ [(w.heap.size, 0)]⟩ s' (w.alloc (.cells (cs.map (SC.den ρ)).toArray T)) ∧ sv.ok s'.n s'.mem.length = true ∧ s'.n = s.n ∧ s'.nt = s.nt ∧ s'.asm = s.asm ∧ s'.defs = s.defs ∧
        sv.den ⟨ρ.e, ρ.o ++ [(w.heap.size, 0)]⟩ = .pointer (some ⟨w.heap.size, 0, none⟩) := by
    intro cs T h
    unfold newObj at h
    split at h
    · rename_i hok
      cases h
      refine ⟨hA.objs _ _ (by simp), hM.newObj hA.len hA.lenO hok T, by simp [SV.ok, S1.ok, SC.ok], rfl, rfl, rfl, rfl, ?_⟩
      simp only [SV.den, S1.den, SC.den]
      rw [← hA.lenO, En.blk_new, En.off_new]
    · cases h
  obtain ⟨dst, op, ty, pos, after, guard⟩ := o
  simp only at h
  cases op
  case alloc T =>
    simp only [opM] at h
    split at h
    · rename_i v hv
      split at h
      · rename_i cs hcs
        obtain ⟨i, hi, hz⟩ := Option.bind_eq_some_iff.1 hv
        obtain ⟨q1, q2, q3, q4, q5, q6, q7, q8⟩ := fresh T h
        have hd := (ofCells_den ρ s.n s.mem.length _ _ hcs).1
        refine ⟨_, _, _, q1, q2, q3, q4, q5, q6, q7, ?_, .inl rfl⟩
        have hq : (cs.map (SC.den ρ)).toArray = v.cells := by rw [hd]
        simp [execOp, Instr.alloc, zeroValue, typeInfo, hi, hz, newVar, newRow, q8, hq]
      · cases h
    · cases h
  case box T x =>
    simp only [opM] at h
    split at h
    · rename_i v hx
      obtain ⟨q1, q2, q3, q4, q5, q6, q7, q8⟩ := fresh T h
      refine ⟨_, _, _, q1, q2, q3, q4, q5, q6, q7, ?_, .inl rfl⟩
      have hg := get_sound hA hx
      have hg1 : a.eval x = v.den ρ := hg.1
      have hq : (v.den ρ).cells = (v.cells.map (SC.den ρ)).toArray := S1.den_cells (v := v) hg.2 ρ
      simp [execOp, hg1, Instr.box, newVar, newRow, q8, hq]
    · cases h
  case store T x y =>
    simp only [opM] at h
    split at h
    · rename_i o d v hx hy
      split at h
      · rename_i n so hz ho
        split at h
        · rename_i hb
          simp only [Bool.and_eq_true, decide_eq_true_eq] at hb
          obtain ⟨⟨hw, hl⟩, hn⟩ := hb
          cases h
          have hg := get_sound hA hy
          have hok := S1.cells_ok (v := v) hg.2
          obtain ⟨r1, r2⟩ := hM.write ho hw (by rw [hl]; exact hn) hok
          have hq : (v.den ρ).cells = (v.cells.map (SC.den ρ)).toArray := S1.den_cells (v := v) hg.2 ρ
          refine ⟨[], _, _, by simpa using hA.objs (writes s.mem [⟨o, d, v.cells⟩]) [] (by rw [(writes_spec _ _).1]; rfl), by simpa using r1, rfl, rfl, rfl, rfl, rfl, ?_, .inr ⟨rfl, rfl⟩⟩
          have := r2 P
          have hg1 : a.eval y = v.den ρ := hg.1
          have hp : a.eval x = .pointer (some ⟨ρ.blk o, ρ.off o + d, none⟩) := (get_sound hA hx).1
          simp [execOp, hp, hg1, Instr.storeAt, Instr.sureAddr, storeVar, hq, hl, run_szOf hz, this]
        · cases h
      · cases h
    · cases h
  all_goals (simp [opM] at h)

end Go.Proofs.Ytfeancgmmonebaa.Sx
