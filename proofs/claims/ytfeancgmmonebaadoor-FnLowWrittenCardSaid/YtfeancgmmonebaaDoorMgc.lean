/-
  Memory: what may have been written, what the symbolic objects say of it; a block laid, a variable stored into. Conditions: none; each theorem bears its own.
-/
import Derived.Test.YtfeancgmmonebaaDoorMgb
namespace Go.Proofs.YtfeancgmmonebaaDoor.Sx
open Go

/-! ## 1. The frame: only the places of 'W' may have been written in blocks that were there -/

structure Fr (W : Nat → Nat → Prop) (w0 w : World) : Prop where
  os : w.os = w0.os
  tape : w.tape = w0.tape
  output : w.output = w0.output
  size : w0.heap.size ≤ w.heap.size
  block : ∀ k, k < w0.heap.size → w.heap[k]? = w0.heap[k]? ∨
    ∃ c c' e fz, w0.heap[k]? = some (.cells c e fz) ∧ w.heap[k]? = some (.cells c' e fz) ∧ c'.size = c.size ∧ ∀ j, ¬ W k j → c'[j]? = c[j]?

theorem Fr.refl (W : Nat → Nat → Prop) (w : World) : Fr W w w := ⟨rfl, rfl, rfl, Nat.le_refl _, fun _ _ => .inl rfl⟩

theorem Fr.trans {W W' : Nat → Nat → Prop} {a b c : World} (h : Fr W a b) (h' : Fr W' b c) (hw : ∀ k j, k < a.heap.size → W' k j → W k j) : Fr W a c := by
  refine ⟨h'.os.trans h.os, h'.tape.trans h.tape, h'.output.trans h.output, Nat.le_trans h.size h'.size, fun k hk => ?_⟩
  rcases h.block k hk with h1 | ⟨x, x', e, fz, h1, h2, h3, h4⟩ <;> rcases h'.block k (Nat.lt_of_lt_of_le hk h.size) with g1 | ⟨y, y', e', fz', g1, g2, g3, g4⟩
  · exact .inl (g1.trans h1)
  · exact .inr ⟨y, y', e', fz', h1 ▸ g1, g2, g3, fun j hj => g4 j fun hq => hj (hw k j hk hq)⟩
  · exact .inr ⟨x, x', e, fz, h1, g1.trans h2, h3, h4⟩
  · rw [h2] at g1
    cases g1
    exact .inr ⟨x, y', e, fz, h1, g2, g3.trans h3, fun j hj => (g4 j fun hq => hj (hw k j hk hq)).trans (h4 j hj)⟩

theorem Fr.mono {W W' : Nat → Nat → Prop} {a b : World} (h : Fr W a b) (hw : ∀ k j, k < a.heap.size → W k j → W' k j) : Fr W' a b :=
  ⟨h.os, h.tape, h.output, h.size, fun k hk => by
    rcases h.block k hk with h1 | ⟨x, x', e, fz, h1, h2, h3, h4⟩
    · exact .inl h1
    · exact .inr ⟨x, x', e, fz, h1, h2, h3, fun j hj => h4 j fun hq => hj (hw k j hk hq)⟩⟩

theorem Fr.drew {W : Nat → Nat → Prop} {a w : World} (h : Fr W a w) : Fr W a { w with drawn := w.drawn + 1 } := ⟨h.os, h.tape, h.output, h.size, h.block⟩

theorem Fr.cell {W : Nat → Nat → Prop} {w0 w : World} (h : Fr W w0 w) {k j : Nat} (hk : k < w0.heap.size) (hj : ¬ W k j) : w.cell? ⟨k, j, none⟩ = w0.cell? ⟨k, j, none⟩ := by
  rcases h.block k hk with h1 | ⟨x, x', e, fz, h1, h2, h3, h4⟩
  · simp [World.cell?, h1]
  · simp [World.cell?, h1, h2, h4 j hj]

theorem Fr.frozen {W : Nat → Nat → Prop} {w0 w : World} (h : Fr W w0 w) {k j : Nat} (hk : k < w0.heap.size) : w.frozen? ⟨k, j, none⟩ = w0.frozen? ⟨k, j, none⟩ := by
  rcases h.block k hk with h1 | ⟨x, x', e, fz, h1, h2, h3, h4⟩
  · simp [World.frozen?, h1]
  · simp [World.frozen?, h1, h2]

theorem Fr.below {W : Nat → Nat → Prop} {w0 w : World} (h : Fr W w0 w) {B : Nat} (hB : B ≤ w0.heap.size) (hw : ∀ k j, k < B → ¬ W k j) : Go.RowKit.Below B w0 w := by
  refine ⟨h.os, h.tape, h.output, h.size, fun k hk => ?_⟩
  rcases h.block k (by omega) with h1 | ⟨x, x', e, fz, h1, h2, h3, h4⟩
  · exact h1
  · rw [h1, h2]
    have : x' = x := by
      apply Array.ext_getElem?
      intro j
      exact h4 j (hw k j hk)
    rw [this]

theorem Fr.alloc {W : Nat → Nat → Prop} {w0 w : World} (h : Fr W w0 w) (o : Obj) : Fr W w0 (w.alloc o) := by
  refine Fr.trans (W' := fun _ _ => False) h ⟨rfl, rfl, rfl, by simp, fun k hk => .inl ?_⟩ (fun _ _ _ hf => hf.elim)
  exact Go.heap_alloc_old w o hk

theorem Fr.setCell {W : Nat → Nat → Prop} {w0 w : World} (h : Fr W w0 w) {k j : Nat} (v : Value) (hw : k < w0.heap.size → W k j) : Fr W w0 (w.setCell ⟨k, j, none⟩ v) := by
  refine Fr.trans (W' := fun k' j' => k' = k ∧ j' = j) h ⟨rfl, rfl, rfl, by simp [World.setCell], fun k' hk' => ?_⟩ (fun k' j' hk' hq => by obtain ⟨rfl, rfl⟩ := hq; exact hw hk')
  by_cases hkk : k' = k
  · subst hkk
    cases hc : w.heap[k']? with
    | none => exact .inl (by simp [World.setCell, Array.getElem?_modify, hc])
    | some o =>
      cases o with
      | cells c e fz =>
        refine .inr ⟨c, c.setIfInBounds j v, e, fz, rfl, by simp [World.setCell, Array.getElem?_modify, hc], by simp, fun j' hj' => ?_⟩
        simp only [Array.getElem?_setIfInBounds]
        have : ¬ j = j' := fun e => hj' ⟨rfl, e.symm⟩
        simp [this]
      | _ => exact .inl (by simp [World.setCell, Array.getElem?_modify, hc])
  · exact .inl (by simp only [World.setCell, Array.getElem?_modify]; rw [if_neg (fun e => hkk e.symm)])

/-! ## 2. Symbolic memory -/

def Dis (ρ : En) (mem : List SO) : Prop :=
  ∀ (o o' : Nat) (so so' : SO), o ≠ o' → mem[o]? = some so → mem[o']? = some so' → so.w = true →
    ρ.blk o ≠ ρ.blk o' ∨ ρ.off o + so.cells.length ≤ ρ.off o' ∨ ρ.off o' + so'.cells.length ≤ ρ.off o

structure RelM (W : Nat → Nat → Prop) (w0 : World) (O : List (Nat × Nat)) (ρ : En) (s : St) (w : World) : Prop where
  objs : ObjsOk w ρ s
  ok : ∀ (o : Nat) (so : SO), s.mem[o]? = some so → so.cells.all (SC.ok s.n s.mem.length) = true
  dis : Dis ρ s.mem
  own : ∀ (o : Nat) (so : SO), s.mem[o]? = some so → so.w = true → w0.heap.size ≤ ρ.blk o ∨ ∀ j, j < so.cells.length → W (ρ.blk o) (ρ.off o + j)
  fr : Fr W w0 w
  pre : ∃ p, ρ.o = O ++ p

theorem mem_lt {mem : List SO} {o : Nat} {so : SO} (h : mem[o]? = some so) : o < mem.length := by
  rcases Nat.lt_or_ge o mem.length with h' | h'
  · exact h'
  · rw [List.getElem?_eq_none h'] at h; cases h

/-- More numbers change nothing of memory. -/
theorem RelM.grow {W : Nat → Nat → Prop} {w0 : World} {O : List (Nat × Nat)} {ρ : En} {s s' : St} {w : World} (h : RelM W w0 O ρ s w) (l : List Int) (hm : s'.mem = s.mem) (hn : s.n ≤ s'.n)
    (len : ρ.e.length = s.n) (lenO : ρ.o.length = s.mem.length) : RelM W w0 O ⟨ρ.e ++ l, ρ.o⟩ s' w := by
  refine ⟨?_, ?_, ?_, ?_, h.fr, h.pre⟩
  · intro o so ho
    rw [hm] at ho
    have g := h.objs o so ho
    refine ⟨g.blk, fun j c hc => ?_, g.thaw⟩
    have := g.cell j c hc
    have ok := List.all_eq_true.1 (h.ok o so ho) c (List.mem_of_getElem? hc)
    have e := SC.den_ext (l := l) (p := []) (e := ρ.e) (o := ρ.o) (c := c) (by rw [len, lenO]; exact ok)
    rw [List.append_nil] at e
    rw [e]; exact this
  · intro o so ho
    rw [hm] at ho ⊢
    exact cells_mono (h.ok o so ho) hn (Nat.le_refl _)
  · rw [hm]; exact h.dis
  · intro o so ho
    rw [hm] at ho
    exact h.own o so ho

theorem RelM.drew {W : Nat → Nat → Prop} {w0 : World} {O : List (Nat × Nat)} {ρ : En} {s : St} {w : World} (h : RelM W w0 O ρ s w) : RelM W w0 O ρ s { w with drawn := w.drawn + 1 } :=
  ⟨fun o so ho => let g := h.objs o so ho; ⟨g.blk, g.cell, g.thaw⟩, h.ok, h.dis, h.own, h.fr.drew, h.pre⟩

/-! ## 3. A slot is written -/

def St.put (s : St) (dst : Option Tmp) (sv : SV) : Option St :=
  match dst with
  | none => some s
  | some d => if Nat.blt d s.nt then some { s with tm := Tr.set 20 s.tm d (some sv) } else none

theorem RelA.put {Γ : List Entry} {base : List Int} {ρ : En} {s s' : St} {a : Act} (hA : RelA Γ base ρ s a) {dst : Option Tmp} {sv : SV} (hok : sv.ok s.n s.mem.length = true)
    (h : s.put dst sv = some s') : RelA Γ base ρ s' (a.put dst (sv.den ρ)) ∧ s'.mem = s.mem ∧ s'.n = s.n ∧ s'.asm = s.asm ∧ s'.defs = s.defs := by
  cases dst with
  | none => cases h; exact ⟨hA, rfl, rfl, rfl, rfl⟩
  | some d =>
    simp only [St.put] at h
    split at h
    · rename_i hd
      cases h
      have hd : d < s.nt := by simpa using hd
      refine ⟨⟨hA.env, hA.len, hA.lenO, by simp [Act.put, hA.size], hA.dfr, ?_, hA.asm, hA.asmok⟩, rfl, rfl, rfl, rfl⟩
      intro t v ht
      rcases Tr.get_set _ _ _ _ _ _ ht with ⟨rfl, e⟩ | ⟨hne, ht⟩
      · cases e
        exact ⟨hok, by simp [Act.put, hA.size, hd]⟩
      · have := hA.tm t v ht
        refine ⟨this.1, ?_⟩
        simp only [Act.put, Array.getElem?_setIfInBounds]
        rw [if_neg (fun e => hne e.symm)]
        exact this.2
    · cases h

/-! ## 4. Writing cells -/

theorem over_length : ∀ (d : Nat) (l cs : List SC), (over d l cs).length = l.length
  | 0, l, [] => by cases l <;> simp [over]
  | d + 1, l, [] => by cases l <;> simp [over]
  | 0, [], c :: cs => by simp [over]
  | d + 1, [], c :: cs => by simp [over]
  | 0, x :: l, c :: cs => by simp [over, over_length 0 l cs]
  | d + 1, x :: l, c :: cs => by simp [over, over_length d l (c :: cs)]

theorem over_get : ∀ (d : Nat) (l cs : List SC) (j : Nat) (c : SC), (over d l cs)[j]? = some c → (d ≤ j ∧ cs[j - d]? = some c) ∨ (l[j]? = some c ∧ ¬ (d ≤ j ∧ j < d + cs.length))
  | 0, [], [], j, c, h => .inr ⟨h, by simp⟩
  | 0, _ :: _, [], j, c, h => .inr ⟨h, by simp⟩
  | d + 1, [], [], j, c, h => .inr ⟨h, by simp⟩
  | d + 1, _ :: _, [], j, c, h => .inr ⟨h, by simp⟩
  | 0, [], x :: cs, j, c, h => by simp [over] at h
  | d + 1, [], x :: cs, j, c, h => by simp [over] at h
  | 0, y :: l, x :: cs, 0, c, h => by
    simp [over] at h
    exact .inl ⟨Nat.le_refl _, by simpa using h⟩
  | 0, y :: l, x :: cs, j + 1, c, h => by
    simp only [over, List.getElem?_cons_succ] at h
    rcases over_get 0 l cs j c h with ⟨_, h1⟩ | ⟨h1, h2⟩
    · exact .inl ⟨by omega, by simpa using h1⟩
    · exact .inr ⟨by simpa using h1, by simp at h2 ⊢; omega⟩
  | d + 1, y :: l, x :: cs, 0, c, h => by
    simp only [over, List.getElem?_cons_zero] at h
    exact .inr ⟨by simpa using h, by omega⟩
  | d + 1, y :: l, x :: cs, j + 1, c, h => by
    simp only [over, List.getElem?_cons_succ] at h
    rcases over_get d l (x :: cs) j c h with ⟨h1, h2⟩ | ⟨h1, h2⟩
    · exact .inl ⟨by omega, by rw [show j + 1 - (d + 1) = j - d by omega]; exact h2⟩
    · exact .inr ⟨by simpa using h1, by omega⟩

structure Wr where
  o : Nat
  d : Nat
  cs : List SC

def writeOne (mem : List SO) (x : Wr) : List SO :=
  match mem[x.o]? with
  | some so => mem.set x.o { so with cells := over x.d so.cells x.cs }
  | none => mem

def writes (mem : List SO) (ws : List Wr) : List SO := ws.foldl writeOne mem

theorem writeOne_spec (mem : List SO) (x : Wr) :
    (writeOne mem x).length = mem.length ∧ ∀ (o : Nat) (so : SO), (writeOne mem x)[o]? = some so → ∃ so0, mem[o]? = some so0 ∧ so.w = so0.w ∧ so.cells.length = so0.cells.length ∧
      ∀ (j : Nat) (c : SC), so.cells[j]? = some c → (x.o = o ∧ x.d ≤ j ∧ x.cs[j - x.d]? = some c) ∨ (so0.cells[j]? = some c ∧ ¬ (x.o = o ∧ x.d ≤ j ∧ j < x.d + x.cs.length)) := by
  unfold writeOne
  split
  · rename_i so1 h1
    refine ⟨by simp, fun o so h => ?_⟩
    rw [List.getElem?_set] at h
    by_cases ho : x.o = o
    · subst ho
      have hl := mem_lt h1
      simp only [if_true, hl] at h
      cases h
      refine ⟨so1, h1, rfl, over_length _ _ _, fun j c hc => ?_⟩
      rcases over_get _ _ _ _ _ hc with ⟨a, b⟩ | ⟨a, b⟩
      · exact .inl ⟨rfl, a, b⟩
      · exact .inr ⟨a, fun q => b q.2⟩
    · rw [if_neg ho] at h
      exact ⟨so, h, rfl, rfl, fun j c hc => .inr ⟨hc, fun q => ho q.1⟩⟩
  · rename_i h1
    refine ⟨rfl, fun o so h => ⟨so, h, rfl, rfl, fun j c hc => .inr ⟨hc, ?_⟩⟩⟩
    rintro ⟨rfl, _⟩
    rw [h] at h1
    cases h1

theorem writes_spec : ∀ (ws : List Wr) (mem : List SO),
    (writes mem ws).length = mem.length ∧ ∀ (o : Nat) (so : SO), (writes mem ws)[o]? = some so → ∃ so0, mem[o]? = some so0 ∧ so.w = so0.w ∧ so.cells.length = so0.cells.length ∧
      ∀ (j : Nat) (c : SC), so.cells[j]? = some c → (∃ x ∈ ws, x.o = o ∧ x.d ≤ j ∧ x.cs[j - x.d]? = some c) ∨ (so0.cells[j]? = some c ∧ ∀ x ∈ ws, ¬ (x.o = o ∧ x.d ≤ j ∧ j < x.d + x.cs.length))
  | [], mem => ⟨rfl, fun o so h => ⟨so, h, rfl, rfl, fun j c hc => .inr ⟨hc, by simp⟩⟩⟩
  | x :: ws, mem => by
    obtain ⟨l1, h1⟩ := writeOne_spec mem x
    obtain ⟨l2, h2⟩ := writes_spec ws (writeOne mem x)
    refine ⟨l2.trans l1, fun o so h => ?_⟩
    obtain ⟨so1, g1, g2, g3, g4⟩ := h2 o so h
    obtain ⟨so0, k1, k2, k3, k4⟩ := h1 o so1 g1
    refine ⟨so0, k1, g2.trans k2, g3.trans k3, fun j c hc => ?_⟩
    rcases g4 j c hc with ⟨y, hy, q⟩ | ⟨q1, q2⟩
    · exact .inl ⟨y, by simp [hy], q⟩
    · rcases k4 j c q1 with q | ⟨r1, r2⟩
      · exact .inl ⟨x, by simp, q⟩
      · refine .inr ⟨r1, fun y hy => ?_⟩
        rcases List.mem_cons.1 hy with rfl | hy
        · exact r2
        · exact q2 y hy

theorem writes_get {ws : List Wr} {mem : List SO} {o : Nat} {so0 : SO} (h : mem[o]? = some so0) : ∃ so, (writes mem ws)[o]? = some so := by
  have hl := mem_lt h
  have : o < (writes mem ws).length := by rw [(writes_spec ws mem).1]; exact hl
  exact ⟨_, List.getElem?_eq_getElem this⟩

end Go.Proofs.YtfeancgmmonebaaDoor.Sx

/-
  Operations that make memory or store into it, symbolically. Conditions: none; each theorem bears its own.
-/
namespace Go.Proofs.YtfeancgmmonebaaDoor.Sx
open Go

theorem S1.den_cells {v : S1} {n m : Nat} (h : v.ok n m = true) (ρ : En) : (v.den ρ).cells = (v.cells.map (SC.den ρ)).toArray := by
  cases v with
  | sc c =>
    have : ∀ cs, c.den ρ ≠ .agg cs := by
      intro cs hc
      cases c with
      | cv v => simp only [SC.den] at hc; subst hc; simp [S1.ok, SC.ok, Value.oneCell'] at h
      | int k x => cases hc
      | bool x => cases hc
      | ptr i d => cases hc
      | slice i d l c => cases hc
    simp only [S1.den, S1.cells]
    cases hc : c.den ρ with
    | agg cs => exact (this cs hc).elim
    | _ => simp [Value.cells, hc]
  | agg cs => rfl

theorem S1.cells_ok {v : S1} {n m : Nat} (h : v.ok n m = true) : v.cells.all (SC.ok n m) = true := by
  cases v with
  | sc c => simp only [S1.cells, List.all_cons, List.all_nil, Bool.and_true]; exact h
  | agg cs => exact h

theorem SC.den_one {c : SC} {n m : Nat} (h : c.ok n m = true) (ρ : En) : (c.den ρ).oneCell' = true := by
  cases c with
  | cv v => exact h
  | _ => rfl

def newObj (s : St) (cs : List SC) : Option (St × SV) :=
  if cs.all (SC.ok s.n s.mem.length) then some ({ s with mem := s.mem ++ [⟨cs, true⟩] }, .one (.sc (.ptr s.mem.length 0))) else none

def opM (P : Program) (s : St) (op : Op) : Option (St × SV) :=
  match op with
  | .alloc T =>
    match (P.info? T).bind (·.zero) with
    | some v => match ofCells v.cells.toList with
      | some cs => newObj s cs
      | none => none
    | none => none
  | .box _ x =>
    match s.get x with
    | some (.one v) => newObj s v.cells
    | _ => none
  | .store T a x =>
    match s.get a, s.get x with
    | some (.one (.sc (.ptr o d))), some (.one v) =>
      match szOf P T, s.mem[o]? with
      | some n, some so =>
        if so.w && decide (v.cells.length = n) && decide (d + n ≤ so.cells.length) then some ({ s with mem := writes s.mem [⟨o, d, v.cells⟩] }, .tup []) else none
      | _, _ => none
    | _, _ => none
  | _ => none

theorem RelA.objs {Γ : List Entry} {base : List Int} {ρ : En} {s : St} {a : Act} (hA : RelA Γ base ρ s a) (mem : List SO) (p : List (Nat × Nat)) (hl : mem.length = s.mem.length + p.length) :
    RelA Γ base ⟨ρ.e, ρ.o ++ p⟩ { s with mem := mem } a := by
  refine ⟨hA.env, hA.len, by simp [hA.lenO, hl], hA.size, hA.dfr, ?_, hA.asm, hA.asmok⟩
  intro t sv ht
  have := hA.tm t sv ht
  refine ⟨SV.ok_mono this.1 (Nat.le_refl _) (by show s.mem.length ≤ mem.length; omega), ?_⟩
  have e := SV.den_ext (l := []) (p := p) (e := ρ.e) (o := ρ.o) (v := sv) (by rw [hA.len, hA.lenO]; exact this.1)
  rw [List.append_nil] at e
  rw [e]; exact this.2

theorem En.blk_new (e : List Int) (o : List (Nat × Nat)) (b d : Nat) : En.blk ⟨e, o ++ [(b, d)]⟩ o.length = b := by simp [En.blk, List.getD]
theorem En.off_new (e : List Int) (o : List (Nat × Nat)) (b d : Nat) : En.off ⟨e, o ++ [(b, d)]⟩ o.length = d := by simp [En.off, List.getD]

theorem RelM.newObj {W : Nat → Nat → Prop} {w0 : World} {O : List (Nat × Nat)} {ρ : En} {s : St} {w : World} (h : RelM W w0 O ρ s w) (len : ρ.e.length = s.n) (lenO : ρ.o.length = s.mem.length) {cs : List SC}
    (hok : cs.all (SC.ok s.n s.mem.length) = true) (T : TypeId) :
    RelM W w0 O ⟨ρ.e, ρ.o ++ [(w.heap.size, 0)]⟩ { s with mem := s.mem ++ [⟨cs, true⟩] } (w.alloc (.cells (cs.map (SC.den ρ)).toArray T)) := by
  have old : ∀ (o : Nat) (so : SO), s.mem[o]? = some so → En.blk ⟨ρ.e, ρ.o ++ [(w.heap.size, 0)]⟩ o = ρ.blk o ∧ En.off ⟨ρ.e, ρ.o ++ [(w.heap.size, 0)]⟩ o = ρ.off o := fun o so ho =>
    ⟨En.blk_ext ρ.e _ ρ.o _ o (by rw [lenO]; exact mem_lt ho), En.off_ext ρ.e _ ρ.o _ o (by rw [lenO]; exact mem_lt ho)⟩
  have ext : ∀ {c : SC}, c.ok s.n s.mem.length = true → c.den ⟨ρ.e, ρ.o ++ [(w.heap.size, 0)]⟩ = c.den ρ := fun {c} hc => by
    have e := SC.den_ext (l := []) (p := [(w.heap.size, 0)]) (e := ρ.e) (o := ρ.o) (c := c) (by rw [len, lenO]; exact hc)
    rwa [List.append_nil] at e
  have split : ∀ (o : Nat) (so : SO), (s.mem ++ [(⟨cs, true⟩ : SO)])[o]? = some so → s.mem[o]? = some so ∨ (o = s.mem.length ∧ so = ⟨cs, true⟩) := fun o so ho => by
    rcases Nat.lt_or_ge o s.mem.length with hl | hl
    · rw [List.getElem?_append_left hl] at ho; exact .inl ho
    · rw [List.getElem?_append_right hl] at ho
      have : o - s.mem.length < 1 := by
        rcases Nat.lt_or_ge (o - s.mem.length) 1 with h1 | h1
        · exact h1
        · rw [List.getElem?_eq_none (by simpa using h1)] at ho; cases ho
      have h0 : o = s.mem.length := by omega
      subst h0
      simp at ho
      exact .inr ⟨rfl, ho.symm⟩
  have nb : En.blk ⟨ρ.e, ρ.o ++ [(w.heap.size, 0)]⟩ s.mem.length = w.heap.size := by rw [← lenO]; exact En.blk_new _ _ _ _
  have no : En.off ⟨ρ.e, ρ.o ++ [(w.heap.size, 0)]⟩ s.mem.length = 0 := by rw [← lenO]; exact En.off_new _ _ _ _
  refine ⟨?_, ?_, ?_, ?_, h.fr.alloc _, ?_⟩
  · intro o so ho
    rcases split o so ho with ho | ⟨rfl, rfl⟩
    · have g := h.objs o so ho
      obtain ⟨e1, e2⟩ := old o so ho
      refine ⟨by rw [e1]; have := g.blk; simp; omega, fun j c hc => ?_, fun hw j hj => ?_⟩
      · rw [e1, e2, World.cell?_alloc_lt _ _ _ g.blk, ext (List.all_eq_true.1 (h.ok o so ho) c (List.mem_of_getElem? hc))]
        exact g.cell j c hc
      · rw [e1, e2, World.frozen?_alloc_old _ _ _ (by have := g.blk; simp; omega)]
        exact g.thaw hw j hj
    · refine ⟨by rw [nb]; simp, fun j c hc => ?_, fun hw j hj => ?_⟩
      · rw [nb, no, Nat.zero_add, World.cell?_alloc_new, ext (List.all_eq_true.1 hok c (List.mem_of_getElem? hc))]
        simp only at hc
        simp [hc]
      · rw [nb, no, Nat.zero_add]; exact World.frozen?_alloc_new _ _ _ _
  · intro o so ho
    show so.cells.all (SC.ok s.n (s.mem ++ [(⟨cs, true⟩ : SO)]).length) = true
    rcases split o so ho with ho | ⟨rfl, rfl⟩
    · exact cells_mono (h.ok o so ho) (Nat.le_refl _) (by simp)
    · exact cells_mono hok (Nat.le_refl _) (by simp)
  · intro o o' so so' hne ho ho' hw
    rcases split o so ho with ho | ⟨rfl, rfl⟩ <;> rcases split o' so' ho' with ho' | ⟨rfl, rfl⟩
    · rw [(old o so ho).1, (old o so ho).2, (old o' so' ho').1, (old o' so' ho').2]
      exact h.dis o o' so so' hne ho ho' hw
    · left; rw [(old o so ho).1, nb]; have := (h.objs o so ho).blk; omega
    · left; rw [(old o' so' ho').1, nb]; have := (h.objs o' so' ho').blk; omega
    · exact (hne rfl).elim
  · intro o so ho hw
    rcases split o so ho with ho | ⟨rfl, rfl⟩
    · rw [(old o so ho).1, (old o so ho).2]; exact h.own o so ho hw
    · left; rw [nb]; exact h.fr.size
  · obtain ⟨p, hp⟩ := h.pre
    exact ⟨p ++ [(w.heap.size, 0)], by simp [hp]⟩

theorem cells_out (b : Nat) : ∀ (vs : List Value) (o : Nat) (w : World) (x : Addr), (x.block ≠ b ∨ x.off < o ∨ o + vs.length ≤ x.off) → (w.setCells b o vs).cell? x = w.cell? x
  | [], _, _, _, _ => rfl
  | v :: r, o, w, x, h => by
    simp only [List.length_cons] at h
    rw [World.setCells, cells_out b r (o + 1) _ x (by omega), World.cell?_setCell_other]
    intro e
    subst e
    simp at h
    omega

theorem heap_setCells (b : Nat) : ∀ (vs : List Value) (o : Nat) (w : World), (w.setCells b o vs).heap.size = w.heap.size
  | [], _, _ => rfl
  | v :: r, o, w => by rw [World.setCells, heap_setCells b r]; simp [World.setCell]

theorem Fr.setCells {W : Nat → Nat → Prop} {w0 : World} (b : Nat) : ∀ (vs : List Value) (o : Nat) (w : World), Fr W w0 w → (b < w0.heap.size → ∀ j, j < vs.length → W b (o + j)) → Fr W w0 (w.setCells b o vs)
  | [], _, _, h, _ => h
  | v :: r, o, w, h, hw => by
    rw [World.setCells]
    refine Fr.setCells b r (o + 1) _ (h.setCell v fun hb => by simpa using hw hb 0 (by simp)) fun hb j hj => ?_
    have := hw hb (j + 1) (by simp; omega)
    rwa [show o + 1 + j = o + (j + 1) by omega]

/-- Cells of a writable object are written. -/
theorem RelM.write {W : Nat → Nat → Prop} {w0 : World} {O : List (Nat × Nat)} {ρ : En} {s : St} {w : World} (h : RelM W w0 O ρ s w) {o d : Nat} {so : SO} {cs : List SC} (ho : s.mem[o]? = some so) (hw : so.w = true)
    (hn : d + cs.length ≤ so.cells.length) (hok : cs.all (SC.ok s.n s.mem.length) = true) :
    RelM W w0 O ρ { s with mem := writes s.mem [⟨o, d, cs⟩] } (w.setCells (ρ.blk o) (ρ.off o + d) (cs.map (SC.den ρ))) ∧
      ∀ (P : Program), (storeCells ⟨ρ.blk o, ρ.off o + d, none⟩ (cs.map (SC.den ρ))).run P w = .ok () (w.setCells (ρ.blk o) (ρ.off o + d) (cs.map (SC.den ρ))) := by
  have g := h.objs o so ho
  have isc : ∀ j, j < cs.length → (w.cell? ⟨ρ.blk o, ρ.off o + d + j, none⟩).isSome = true := fun j hj => by
    have hj' : d + j < so.cells.length := by omega
    have := g.cell (d + j) _ (List.getElem?_eq_getElem hj')
    rw [Nat.add_assoc, this]; rfl
  have run : ∀ (P : Program), (storeCells ⟨ρ.blk o, ρ.off o + d, none⟩ (cs.map (SC.den ρ))).run P w = .ok () (w.setCells (ρ.blk o) (ρ.off o + d) (cs.map (SC.den ρ))) := fun P => by
    have := run_storeCells_cells (P := P) (ρ.blk o) (ρ.off o + d) (cs.map (SC.den ρ)) 0 w (by simpa using isc) (by
      intro j hj
      have := g.thaw hw (d + j) (by simp at hj; omega)
      rwa [show ρ.off o + d + 0 + j = ρ.off o + (d + j) by omega]) (by
      intro v hv
      obtain ⟨c, hc, rfl⟩ := List.mem_map.1 hv
      exact SC.den_one (List.all_eq_true.1 hok c hc) ρ)
    simpa using this
  refine ⟨?_, run⟩
  obtain ⟨wl, wspec⟩ := writes_spec [⟨o, d, cs⟩] s.mem
  refine ⟨?_, ?_, ?_, ?_, ?_, h.pre⟩
  · intro o' so' ho'
    obtain ⟨so0, h0, e1, e2, e3⟩ := wspec o' so' ho'
    have g0 := h.objs o' so0 h0
    refine ⟨by rw [heap_setCells]; exact g0.blk, fun j c hc => ?_, fun hw' j hj => ?_⟩
    · rcases e3 j c hc with ⟨x, hx, hxo, hxd, hxc⟩ | ⟨hc0, hno⟩
      · simp at hx; subst hx
        simp only at hxo hxd hxc
        subst hxo
        have hjl : j - d < cs.length := (List.getElem?_eq_some_iff.1 hxc).1
        have := World.cell?_setCells_in (ρ.blk o) (cs.map (SC.den ρ)) (ρ.off o + d) w (by
          intro i hi
          exact isc i (by simpa using hi)) (j - d) (by simpa using hjl)
        rw [show ρ.off o + d + (j - d) = ρ.off o + j by omega] at this
        rw [this, List.getElem_map, (List.getElem?_eq_some_iff.1 hxc).2]
      · have hno := hno ⟨o, d, cs⟩ (by simp)
        simp only at hno
        rw [cells_out]
        · exact g0.cell j c hc0
        · simp only [List.length_map]
          by_cases hoo : o = o'
          · subst hoo
            right; omega
          · have hj0 : j < so0.cells.length := (List.getElem?_eq_some_iff.1 hc0).1
            rcases h.dis o o' so so0 hoo ho h0 hw with q | q | q
            · left; exact fun e => q e.symm
            · right; omega
            · right; omega
    · rw [World.frozen?_setCells]
      exact g0.thaw (by rw [← e1]; exact hw') j (by omega)
  · intro o' so' ho'
    obtain ⟨so0, h0, e1, e2, e3⟩ := wspec o' so' ho'
    show so'.cells.all (SC.ok s.n (writes s.mem [⟨o, d, cs⟩]).length) = true
    rw [wl]
    refine List.all_eq_true.2 fun c hc => ?_
    obtain ⟨j, hj⟩ := List.getElem?_of_mem hc
    rcases e3 j c hj with ⟨x, hx, _, _, hxc⟩ | ⟨hc0, _⟩
    · simp at hx; subst hx
      exact List.all_eq_true.1 hok c (List.mem_of_getElem? hxc)
    · exact List.all_eq_true.1 (h.ok o' so0 h0) c (List.mem_of_getElem? hc0)
  · intro p p' sp sp' hne hp hp' hpw
    obtain ⟨q, h0, e1, e2, _⟩ := wspec p sp hp
    obtain ⟨q', h0', e1', e2', _⟩ := wspec p' sp' hp'
    rw [e2, e2']
    exact h.dis p p' q q' hne h0 h0' (by rw [← e1]; exact hpw)
  · intro p sp hp hpw
    obtain ⟨q, h0, e1, e2, _⟩ := wspec p sp hp
    rw [e2]
    exact h.own p q h0 (by rw [← e1]; exact hpw)
  · refine Fr.setCells _ _ _ _ h.fr fun hb j hj => ?_
    rcases h.own o so ho hw with q | q
    · omega
    · have := q (d + j) (by simp at hj; omega)
      rwa [show ρ.off o + d + j = ρ.off o + (d + j) by omega]

theorem opM_sound {P : Program} {Γ : List Entry} {base : List Int} {W : Nat → Nat → Prop} {w0 : World} {O : List (Nat × Nat)} {ρ : En} {s s' : St} {a : Act} {w : World} {sv : SV} (hA : RelA Γ base ρ s a) (hM : RelM W w0 O ρ s w) (o : Oper)
    (h : opM P s o.op = some (s', sv)) :
    ∃ p w' nx, RelA Γ base ⟨ρ.e, ρ.o ++ p⟩ s' a ∧ RelM W w0 O ⟨ρ.e, ρ.o ++ p⟩ s' w' ∧ sv.ok s'.n s'.mem.length = true ∧ s'.n = s.n ∧ s'.nt = s.nt ∧ s'.asm = s.asm ∧ s'.defs = s.defs ∧ (execOp a.eval o).run P w = .ok nx w' ∧
      (nx = .value (sv.den ⟨ρ.e, ρ.o ++ p⟩) ∨ (nx = .skip ∧ sv.den ⟨ρ.e, ρ.o ++ p⟩ = undef)) := by
  have fresh : ∀ {cs : List SC} (T : TypeId), newObj s cs = some (s', sv) →
      RelA Γ base ⟨ρ.e, ρ.o ++ [(w.heap.size, 0)]⟩ s' a ∧ RelM W w0 O ⟨ρ.e, ρ.o ++ [(w.heap.size, 0)]⟩ s' (w.alloc (.cells (cs.map (SC.den ρ)).toArray T)) ∧ sv.ok s'.n s'.mem.length = true ∧ s'.n = s.n ∧ s'.nt = s.nt ∧ s'.asm = s.asm ∧ s'.defs = s.defs ∧
        sv.den ⟨ρ.e, ρ.o ++ [(w.heap.size, 0)]⟩ = .pointer (some ⟨w.heap.size, 0, none⟩) := by
    intro cs T h
    unfold newObj at h
    split at h
    · rename_i hok
      cases h
      refine ⟨hA.objs _ _ (by simp), hM.newObj hA.len hA.lenO hok T, by simp [SV.ok, S1.ok, SC.ok], rfl, rfl, rfl, rfl, ?_⟩
      simp only [SV.den, S1.den, SC.den]
      rw [← hA.lenO, En.blk_new, En.off_new]
    · cases h
  obtain ⟨dst, op, ty, pos, after, guard⟩ := o
  simp only at h
  cases op
  case alloc T =>
    simp only [opM] at h
    split at h
    · rename_i v hv
      split at h
      · rename_i cs hcs
        obtain ⟨i, hi, hz⟩ := Option.bind_eq_some_iff.1 hv
        obtain ⟨q1, q2, q3, q4, q5, q6, q7, q8⟩ := fresh T h
        have hd := (ofCells_den ρ s.n s.mem.length _ _ hcs).1
        refine ⟨_, _, _, q1, q2, q3, q4, q5, q6, q7, ?_, .inl rfl⟩
        have hq : (cs.map (SC.den ρ)).toArray = v.cells := by rw [hd]
        simp [execOp, Instr.alloc, zeroValue, typeInfo, hi, hz, newVar, newRow, q8, hq]
      · cases h
    · cases h
  case box T x =>
    simp only [opM] at h
    split at h
    · rename_i v hx
      obtain ⟨q1, q2, q3, q4, q5, q6, q7, q8⟩ := fresh T h
      refine ⟨_, _, _, q1, q2, q3, q4, q5, q6, q7, ?_, .inl rfl⟩
      have hg := get_sound hA hx
      have hg1 : a.eval x = v.den ρ := hg.1
      have hq : (v.den ρ).cells = (v.cells.map (SC.den ρ)).toArray := S1.den_cells (v := v) hg.2 ρ
      simp [execOp, hg1, Instr.box, newVar, newRow, q8, hq]
    · cases h
  case store T x y =>
    simp only [opM] at h
    split at h
    · rename_i o d v hx hy
      split at h
      · rename_i n so hz ho
        split at h
        · rename_i hb
          simp only [Bool.and_eq_true, decide_eq_true_eq] at hb
          obtain ⟨⟨hw, hl⟩, hn⟩ := hb
          cases h
          have hg := get_sound hA hy
          have hok := S1.cells_ok (v := v) hg.2
          obtain ⟨r1, r2⟩ := hM.write ho hw (by rw [hl]; exact hn) hok
          have hq : (v.den ρ).cells = (v.cells.map (SC.den ρ)).toArray := S1.den_cells (v := v) hg.2 ρ
          refine ⟨[], _, _, by simpa using hA.objs (writes s.mem [⟨o, d, v.cells⟩]) [] (by rw [(writes_spec _ _).1]; rfl), by simpa using r1, rfl, rfl, rfl, rfl, rfl, ?_, .inr ⟨rfl, rfl⟩⟩
          have := r2 P
          have hg1 : a.eval y = v.den ρ := hg.1
          have hp : a.eval x = .pointer (some ⟨ρ.blk o, ρ.off o + d, none⟩) := (get_sound hA hx).1
          simp [execOp, hp, hg1, Instr.storeAt, Instr.sureAddr, storeVar, hq, hl, run_szOf hz, this]
        · cases h
      · cases h
    · cases h
  all_goals (simp [opM] at h)

end Go.Proofs.YtfeancgmmonebaaDoor.Sx

/-
  Calls by contract: what a contract says, how a call is matched with one, and that the symbolic call is right. Conditions: none; each theorem bears its own.
-/
namespace Go.Proofs.YtfeancgmmonebaaDoor.Sx
open Go
set_option linter.unusedSectionVars false

/-! ## 1. What a contract says -/

def kcells : Nat → List CK → List SC
  | _, [] => []
  | n, k :: ks => mkSC k (.var n) :: kcells (n + 1) ks

structure Ini where
  args : List SV
  mem : List SO
  n : Nat

def iniArg (i : Ini) (a : ASh) : Ini :=
  match a with
  | .int k => ⟨i.args ++ [.one (.sc (.int k (.var i.n)))], i.mem, i.n + 1⟩
  | .bool => ⟨i.args ++ [.one (.sc (.bool (.var i.n)))], i.mem, i.n + 1⟩
  | .agg ks => ⟨i.args ++ [.one (.agg (kcells i.n ks))], i.mem, i.n + ks.length⟩
  | .ptr ks w => ⟨i.args ++ [.one (.sc (.ptr i.mem.length 0))], i.mem ++ [⟨kcells i.n ks, w⟩], i.n + ks.length⟩
  | .slice ks cap w => ⟨i.args ++ [.one (.sc (.slice i.mem.length 0 ks.length cap))], i.mem ++ [⟨kcells i.n ks, w⟩], i.n + ks.length⟩
  | .same j => ⟨i.args ++ [i.args.getD j (.tup [])], i.mem, i.n⟩
  | .cst v => ⟨i.args ++ [(ofValue v).getD (.tup [])], i.mem, i.n⟩

def ini (shs : List ASh) : Ini := shs.foldl iniArg ⟨[], [], 0⟩

def rekey : Nat → List SC → List SC
  | _, [] => []
  | n, .int k _ :: r => .int k (.var n) :: rekey (n + 1) r
  | n, .bool _ :: r => .bool (.var n) :: rekey (n + 1) r
  | n, c :: r => c :: rekey (n + 1) r

def finMem : Nat → List SO → List SO × Nat
  | n, [] => ([], n)
  | n, so :: r =>
    if so.w then (⟨rekey n so.cells, true⟩ :: (finMem (n + so.cells.length) r).1, (finMem (n + so.cells.length) r).2)
    else (so :: (finMem n r).1, (finMem n r).2)

structure Fin where
  res : List S1
  mem : List SO
  n : Nat

def finRes (i : Ini) (f : Fin) (r : RSh) : Fin :=
  match r with
  | .int k => ⟨f.res ++ [.sc (.int k (.var f.n))], f.mem, f.n + 1⟩
  | .bool => ⟨f.res ++ [.sc (.bool (.var f.n))], f.mem, f.n + 1⟩
  | .agg ks => ⟨f.res ++ [.agg (kcells f.n ks)], f.mem, f.n + ks.length⟩
  | .arg j => match i.args[j]? with
    | some (.one v) => ⟨f.res ++ [v], f.mem, f.n⟩
    | _ => f
  | .new ks => ⟨f.res ++ [.sc (.ptr f.mem.length 0)], f.mem ++ [⟨kcells f.n ks, true⟩], f.n + ks.length⟩
  | .cst v => match ofValue v with
    | some (.one x) => ⟨f.res ++ [x], f.mem, f.n⟩
    | _ => f

def fin (e : Entry) : Fin := e.res.foldl (finRes (ini e.args)) ⟨[], (finMem (ini e.args).n (ini e.args).mem).1, (finMem (ini e.args).n (ini e.args).mem).2⟩

def retOf (l : List S1) : SV :=
  match l with
  | [v] => .one v
  | vs => .tup vs

def WOf (ρ : En) (mem : List SO) (k j : Nat) : Prop := ∃ (o : Nat) (so : SO), mem[o]? = some so ∧ so.w = true ∧ ρ.blk o = k ∧ ρ.off o ≤ j ∧ j < ρ.off o + so.cells.length

def MemOk (w : World) (ρ : En) (mem : List SO) : Prop := ∀ (o : Nat) (so : SO), mem[o]? = some so → ObjOk w ρ o so

/-- The environment behind a call: the numbers that it gives, the blocks that it makes. -/
def Entry.env (e : Entry) (base : List Int) (bs nb : List (Nat × Nat)) : En :=
  ⟨base ++ fit ((fin e).n - (ini e.args).n) (e.F base), bs ++ nb⟩

/-- What a call comes to: of a function with a body; of one that the model answers for itself. -/
def CallOk (P : Program) (f : FuncId) (args : Array Value) (w : World) (R : Ending → World → Prop) : Prop :=
  ((callFunc f args).run P w = .ok (.enter f args) w ∧ Calls P f args w R) ∨ ∃ v, (callFunc f args).run P w = .ok (.value v) w ∧ R (.returned v) w

theorem CallOk.mono {P : Program} {f : FuncId} {args : Array Value} {w : World} {R R' : Ending → World → Prop} (h : CallOk P f args w R) (hr : ∀ e w', R e w' → R' e w') : CallOk P f args w R' := by
  rcases h with ⟨h1, h2⟩ | ⟨v, h1, h2⟩
  · exact .inl ⟨h1, h2.mono hr⟩
  · exact .inr ⟨v, h1, hr _ _ h2⟩

def Meets (P : Program) (e : Entry) : Prop :=
  ∀ (base : List Int) (bs : List (Nat × Nat)) (w : World), base.length = (ini e.args).n → bs.length = (ini e.args).mem.length → (e.free = false → e.Pre base) →
    MemOk w ⟨base, bs⟩ (ini e.args).mem → Dis ⟨base, bs⟩ (ini e.args).mem →
    CallOk P e.f ((ini e.args).args.map (SV.den ⟨base, bs⟩)).toArray w fun en w' =>
      ∃ nb : List (Nat × Nat), (ini e.args).mem.length + nb.length = (fin e).mem.length ∧ (∀ q ∈ nb, w.heap.size ≤ q.1) ∧ Dis (e.env base bs nb) (fin e).mem ∧
        en = .returned ((retOf (fin e).res).den (e.env base bs nb)) ∧ MemOk w' (e.env base bs nb) (fin e).mem ∧ Fr (WOf ⟨base, bs⟩ (ini e.args).mem) w w'

/-! ## 2. A contract's symbols, at a call -/

structure Sub where
  xs : List SI
  n0 : Nat
  os : List (Nat × Nat)
  m0 : Nat

def Sub.si (σ : Sub) : SI → SI
  | .lit n => .lit n
  | .var i => if Nat.blt i σ.xs.length then σ.xs.getD i (.lit 0) else .var (σ.n0 + (i - σ.xs.length))

def Sub.sc (σ : Sub) : SC → SC
  | .int k x => .int k (σ.si x)
  | .bool x => .bool (σ.si x)
  | .ptr o d => if Nat.blt o σ.os.length then .ptr (σ.os.getD o (0, 0)).1 ((σ.os.getD o (0, 0)).2 + d) else .ptr (σ.m0 + (o - σ.os.length)) d
  | .slice o d l c => if Nat.blt o σ.os.length then .slice (σ.os.getD o (0, 0)).1 ((σ.os.getD o (0, 0)).2 + d) l c else .slice (σ.m0 + (o - σ.os.length)) d l c
  | .cv v => .cv v

def Sub.s1 (σ : Sub) : S1 → S1
  | .sc c => .sc (σ.sc c)
  | .agg cs => .agg (cs.map σ.sc)

def Sub.sv (σ : Sub) : SV → SV
  | .one v => .one (σ.s1 v)
  | .tup vs => .tup (vs.map σ.s1)

/-- The contract's environment behind a call that is made in the environment (e, o). -/
def Sub.env (σ : Sub) (e : List Int) (o : List (Nat × Nat)) : List Int × List (Nat × Nat) :=
  (σ.xs.map (·.val e), σ.os.map fun p => (En.blk ⟨e, o⟩ p.1, En.off ⟨e, o⟩ p.1 + p.2))

section
variable {σ : Sub} {e : List Int} {o : List (Nat × Nat)} (he : e.length = σ.n0) (ho : o.length = σ.m0) (hx : σ.xs.all (SI.ok σ.n0) = true) (hp : σ.os.all (fun p => Nat.blt p.1 σ.m0) = true)
include he ho hx hp

theorem Sub.si_val (l : List Int) (x : SI) : (σ.si x).val (e ++ l) = x.val ((σ.env e o).1 ++ l) := by
  cases x with
  | lit n => rfl
  | var i =>
    simp only [Sub.si]
    split
    · rename_i hi
      have hi : i < σ.xs.length := by simpa using hi
      have hok : (σ.xs[i]).ok e.length = true := by rw [he]; exact List.all_eq_true.1 hx _ (List.getElem_mem hi)
      have e1 : σ.xs.getD i (.lit 0) = σ.xs[i] := by simp [List.getD, List.getElem?_eq_getElem hi]
      rw [e1, SI.val_ext hok, SI.val_var]
      simp [Sub.env, List.getD, List.getElem?_append_left, hi]
    · rename_i hi
      have hi : σ.xs.length ≤ i := by simpa using hi
      simp only [SI.val_var, List.getD, Sub.env]
      rw [List.getElem?_append_right (by simp [he]), List.getElem?_append_right (by simpa using hi)]
      simp [he]

theorem Sub.blk_env (l : List Int) (nb : List (Nat × Nat)) (i : Nat) (hi : i < σ.os.length) :
    En.blk ⟨(σ.env e o).1 ++ l, (σ.env e o).2 ++ nb⟩ i = En.blk ⟨e ++ l, o ++ nb⟩ (σ.os.getD i (0, 0)).1 ∧
    En.off ⟨(σ.env e o).1 ++ l, (σ.env e o).2 ++ nb⟩ i = En.off ⟨e ++ l, o ++ nb⟩ (σ.os.getD i (0, 0)).1 + (σ.os.getD i (0, 0)).2 := by
  have e1 : σ.os.getD i (0, 0) = σ.os[i] := by simp [List.getD, List.getElem?_eq_getElem hi]
  have h1 : (σ.os[i]).1 < o.length := by
    have := List.all_eq_true.1 hp _ (List.getElem_mem hi)
    rw [ho]; simpa using this
  rw [e1, En.blk_ext e (e ++ l) o nb _ h1, En.off_ext e (e ++ l) o nb _ h1]
  constructor <;> simp [En.blk, En.off, Sub.env, List.getD, List.getElem?_append_left, hi]

theorem Sub.blk_new (l : List Int) (nb : List (Nat × Nat)) (i : Nat) (hi : σ.os.length ≤ i) :
    En.blk ⟨(σ.env e o).1 ++ l, (σ.env e o).2 ++ nb⟩ i = En.blk ⟨e ++ l, o ++ nb⟩ (σ.m0 + (i - σ.os.length)) ∧
    En.off ⟨(σ.env e o).1 ++ l, (σ.env e o).2 ++ nb⟩ i = En.off ⟨e ++ l, o ++ nb⟩ (σ.m0 + (i - σ.os.length)) := by
  constructor <;>
  · simp only [En.blk, En.off, Sub.env, List.getD]
    rw [List.getElem?_append_right (by simpa using hi), List.getElem?_append_right (by simp [ho])]
    simp [ho]

theorem Sub.sc_den (l : List Int) (nb : List (Nat × Nat)) (c : SC) : (σ.sc c).den ⟨e ++ l, o ++ nb⟩ = c.den ⟨(σ.env e o).1 ++ l, (σ.env e o).2 ++ nb⟩ := by
  cases c with
  | int k x => simp only [Sub.sc, SC.den, Sub.si_val he ho hx hp]
  | bool x => simp only [Sub.sc, SC.den, Sub.si_val he ho hx hp]
  | ptr i d =>
    simp only [Sub.sc]
    split
    · rename_i hi
      have := Sub.blk_env he ho hx hp l nb i (by simpa using hi)
      simp only [SC.den, this.1, this.2, Nat.add_assoc]
    · rename_i hi
      have := Sub.blk_new he ho hx hp l nb i (by simpa using hi)
      simp only [SC.den, this.1, this.2]
  | slice i d n c =>
    simp only [Sub.sc]
    split
    · rename_i hi
      have := Sub.blk_env he ho hx hp l nb i (by simpa using hi)
      simp only [SC.den, this.1, this.2, Nat.add_assoc]
    · rename_i hi
      have := Sub.blk_new he ho hx hp l nb i (by simpa using hi)
      simp only [SC.den, this.1, this.2]
  | cv v => rfl

theorem Sub.s1_den (l : List Int) (nb : List (Nat × Nat)) (v : S1) : (σ.s1 v).den ⟨e ++ l, o ++ nb⟩ = v.den ⟨(σ.env e o).1 ++ l, (σ.env e o).2 ++ nb⟩ := by
  cases v with
  | sc c => exact Sub.sc_den he ho hx hp l nb c
  | agg cs =>
    simp only [Sub.s1, S1.den, List.map_map]
    rw [List.map_congr_left fun c _ => (show (SC.den ⟨e ++ l, o ++ nb⟩ ∘ σ.sc) c = _ from Sub.sc_den he ho hx hp l nb c)]

theorem Sub.sv_den (l : List Int) (nb : List (Nat × Nat)) (v : SV) : (σ.sv v).den ⟨e ++ l, o ++ nb⟩ = v.den ⟨(σ.env e o).1 ++ l, (σ.env e o).2 ++ nb⟩ := by
  cases v with
  | one v => exact Sub.s1_den he ho hx hp l nb v
  | tup vs =>
    simp only [Sub.sv, SV.den, List.map_map]
    rw [List.map_congr_left fun c _ => (show (S1.den ⟨e ++ l, o ++ nb⟩ ∘ σ.s1) c = _ from Sub.s1_den he ho hx hp l nb c)]

end

/-! ## 3. Equality of symbols, as a Bool -/

def kindEq (a b : IntKind) : Bool := decide (a = b)

def cvEq : Value → Value → Bool
  | .pointer none, .pointer none => true
  | .nilIface, .nilIface => true
  | .slice none 0 0, .slice none 0 0 => true
  | _, _ => false

theorem cvEq_eq {a b : Value} (h : cvEq a b = true) : a = b := by
  unfold cvEq at h
  split at h <;> first | rfl | cases h

def SC.beq : SC → SC → Bool
  | .int k x, .int k' x' => kindEq k k' && x.beq x'
  | .bool x, .bool x' => x.beq x'
  | .ptr o d, .ptr o' d' => Nat.beq o o' && Nat.beq d d'
  | .slice o d l c, .slice o' d' l' c' => Nat.beq o o' && Nat.beq d d' && Nat.beq l l' && Nat.beq c c'
  | .cv a, .cv b => cvEq a b
  | _, _ => false

theorem SI.beq_eq {x y : SI} (h : x.beq y = true) : x = y := by
  cases x <;> cases y <;> simp [SI.beq] at h <;> simp [h]

theorem SC.beq_eq {x y : SC} (h : x.beq y = true) : x = y := by
  cases x <;> cases y <;> simp only [SC.beq, Bool.and_eq_true, kindEq, decide_eq_true_eq, Bool.false_eq_true] at h
  · rw [h.1, SI.beq_eq h.2]
  · rw [SI.beq_eq h]
  · rw [Nat.eq_of_beq_eq_true h.1, Nat.eq_of_beq_eq_true h.2]
  · rw [Nat.eq_of_beq_eq_true h.1.1.1, Nat.eq_of_beq_eq_true h.1.1.2, Nat.eq_of_beq_eq_true h.1.2, Nat.eq_of_beq_eq_true h.2]
  · rw [cvEq_eq h]

def lbeq {α : Type} (f : α → α → Bool) : List α → List α → Bool
  | [], [] => true
  | a :: l, b :: m => f a b && lbeq f l m
  | _, _ => false

theorem lbeq_eq {α : Type} {f : α → α → Bool} (hf : ∀ a b, f a b = true → a = b) : ∀ (l m : List α), lbeq f l m = true → l = m
  | [], [], _ => rfl
  | a :: l, b :: m, h => by
    simp only [lbeq, Bool.and_eq_true] at h
    rw [hf a b h.1, lbeq_eq hf l m h.2]
  | [], _ :: _, h => by simp [lbeq] at h
  | _ :: _, [], h => by simp [lbeq] at h

def S1.beq : S1 → S1 → Bool
  | .sc a, .sc b => a.beq b
  | .agg a, .agg b => lbeq SC.beq a b
  | _, _ => false

theorem S1.beq_eq (x y : S1) (h : x.beq y = true) : x = y := by
  cases x <;> cases y <;> simp only [S1.beq, Bool.false_eq_true] at h
  · rw [SC.beq_eq h]
  · rw [lbeq_eq (fun _ _ => SC.beq_eq) _ _ h]

def SV.beq : SV → SV → Bool
  | .one a, .one b => a.beq b
  | .tup a, .tup b => lbeq S1.beq a b
  | _, _ => false

theorem SV.beq_eq (x y : SV) (h : x.beq y = true) : x = y := by
  cases x <;> cases y <;> simp only [SV.beq, Bool.false_eq_true] at h
  · rw [S1.beq_eq _ _ h]
  · rw [lbeq_eq S1.beq_eq _ _ h]

/-! ## 4. The call -/

def siOf : List SC → List SI
  | [] => []
  | .int _ x :: r => x :: siOf r
  | .bool x :: r => x :: siOf r
  | _ :: r => .lit 0 :: siOf r

def exArg (s : St) (a : ASh) (v : SV) : List SI × List (Nat × Nat) :=
  match a, v with
  | .int _, .one (.sc (.int _ x)) => ([x], [])
  | .bool, .one (.sc (.bool x)) => ([x], [])
  | .agg _, .one (.agg cs) => (siOf cs, [])
  | .ptr ks _, .one (.sc (.ptr o d)) =>
    match s.mem[o]? with
    | some so => (siOf ((so.cells.drop d).take ks.length), [(o, d)])
    | none => ([], [])
  | .slice ks _ _, .one (.sc (.slice o d _ _)) =>
    match s.mem[o]? with
    | some so => (siOf ((so.cells.drop d).take ks.length), [(o, d)])
    | none => ([], [])
  | _, _ => ([], [])

def exArgs (s : St) : List ASh → List SV → List SI × List (Nat × Nat)
  | a :: as, v :: vs => ((exArg s a v).1 ++ (exArgs s as vs).1, (exArg s a v).2 ++ (exArgs s as vs).2)
  | _, _ => ([], [])

/-- Object p of the contract is a part of the caller's object os[p]. -/
def chkMem (s : St) (σ : Sub) (mem : List SO) : Bool :=
  (List.range mem.length).all fun p =>
    match mem[p]?, σ.os[p]? with
    | some so, some q =>
      match s.mem[q.1]? with
      | some so' => !so.cells.isEmpty && lbeq SC.beq (so.cells.map σ.sc) ((so'.cells.drop q.2).take so.cells.length) && (!so.w || so'.w)
      | none => false
    | _, _ => false

def chkDis (σ : Sub) (mem : List SO) : Bool :=
  (List.range mem.length).all fun p => (List.range mem.length).all fun q =>
    match mem[p]?, mem[q]?, σ.os[p]?, σ.os[q]? with
    | some a, some b, some x, some y => Nat.beq p q || !a.w || !(Nat.beq x.1 y.1) || Nat.ble (x.2 + a.cells.length) y.2 || Nat.ble (y.2 + b.cells.length) x.2
    | _, _, _, _ => false

def wrOf (σ : Sub) (mem fmem : List SO) (p : Nat) : Option Wr :=
  match mem[p]?, fmem[p]?, σ.os[p]? with
  | some so, some fo, some q => if so.w then some ⟨q.1, q.2, fo.cells.map σ.sc⟩ else none
  | _, _, _ => none

def chkFin (mem fmem : List SO) : Bool :=
  Nat.ble mem.length fmem.length && ((List.range mem.length).all fun p =>
    match mem[p]?, fmem[p]? with
    | some so, some fo => Nat.beq so.cells.length fo.cells.length
    | _, _ => false) && (fmem.drop mem.length).all (·.w)

def stillB (mem fmem : List SO) : Bool := mem.all (fun so => !so.w) && Nat.beq fmem.length mem.length

def memOf (s : St) (σ : Sub) (mem fmem : List SO) : List SO :=
  if stillB mem fmem then s.mem else
    writes s.mem ((List.range mem.length).filterMap (wrOf σ mem fmem)) ++ (fmem.drop mem.length).map fun so => ⟨so.cells.map σ.sc, true⟩

def callE (quiet : Bool) (s : St) (e : Entry) (j : Nat) (vs : List SV) : Option (St × SV × List Need) :=
  let i := ini e.args
  let f := fin e
  let x := exArgs s e.args vs
  let σ : Sub := ⟨x.1, s.n, x.2, s.mem.length⟩
  let m := f.n - i.n
  if Nat.beq x.1.length i.n && Nat.beq x.2.length i.mem.length && x.1.all (SI.ok s.n) && x.2.all (fun p => Nat.blt p.1 s.mem.length)
      && lbeq SV.beq (i.args.map σ.sv) vs && chkMem s σ i.mem && chkDis σ i.mem && chkFin i.mem f.mem
      && (!quiet || stillB i.mem f.mem) then
    let mem' := memOf s σ i.mem f.mem
    if mem'.all (fun so => so.cells.all (SC.ok (s.n + m) mem'.length)) && (σ.sv (retOf f.res)).ok (s.n + m) mem'.length then
      some ({ s with mem := mem', n := s.n + m, defs := .app j x.1 m :: s.defs }, σ.sv (retOf f.res), if e.free then [] else [⟨s.defs, s.asm, j, x.1⟩])
    else none
  else none

end Go.Proofs.YtfeancgmmonebaaDoor.Sx
