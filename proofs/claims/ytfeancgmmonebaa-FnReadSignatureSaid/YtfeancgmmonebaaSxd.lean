/-
  Memory: what may have been written, what the symbolic objects say of it; a block laid, a variable stored into. Conditions: none; each theorem bears its own.
-/
import Derived.Test.YtfeancgmmonebaaSxc
namespace Go.Proofs.Ytfeancgmmonebaa.Sx
open Go

/-! ## 1. The frame: only the places of 'W' may have been written in blocks that were there -/

structure Fr (W : Nat → Nat → Prop) (w0 w : World) : Prop where
  os : w.os = w0.os
  tape : w.tape = w0.tape
  output : w.output = w0.output
  size : w0.heap.size ≤ w.heap.size
  block : ∀ k, k < w0.heap.size → w.heap[k]? = w0.heap[k]? ∨
    ∃ c c' e fz, w0.heap[k]? = some (.cells c e fz) ∧ w.heap[k]? = some (.cells c' e fz) ∧ c'.size = c.size ∧ ∀ j, ¬ W k j → c'[j]? = c[j]?

theorem Fr.refl (W : Nat → Nat → Prop) (w : World) : Fr W w w := ⟨rfl, rfl, rfl, Nat.le_refl _, fun _ _ => .inl rfl⟩

theorem Fr.trans {W W' : Nat → Nat → Prop} {a b c : World} (h : Fr W a b) (h' : Fr W' b c) (hw : ∀ k j, k < a.heap.size → W' k j → W k j) : Fr W a c := by
  refine ⟨h'.os.trans h.os, h'.tape.trans h.tape, h'.output.trans h.output, Nat.le_trans h.size h'.size, fun k hk => ?_⟩
  rcases h.block k hk with h1 | ⟨x, x', e, fz, h1, h2, h3, h4⟩ <;> rcases h'.block k (Nat.lt_of_lt_of_le hk h.size) with g1 | ⟨y, y', e', fz', g1, g2, g3, g4⟩
  · exact .inl (g1.trans h1)
  · exact .inr ⟨y, y', e', fz', h1 ▸ g1, g2, g3, fun j hj => g4 j fun hq => hj (hw k j hk hq)⟩
  · exact .inr ⟨x, x', e, fz, h1, g1.trans h2, h3, h4⟩
  · rw [h2] at g1
    cases g1
    exact .inr ⟨x, y', e, fz, h1, g2, g3.trans h3, fun j hj => (g4 j fun hq => hj (hw k j hk hq)).trans (h4 j hj)⟩

theorem Fr.mono {W W' : Nat → Nat → Prop} {a b : World} (h : Fr W a b) (hw : ∀ k j, k < a.heap.size → W k j → W' k j) : Fr W' a b :=
  ⟨h.os, h.tape, h.output, h.size, fun k hk => by
    rcases h.block k hk with h1 | ⟨x, x', e, fz, h1, h2, h3, h4⟩
    · exact .inl h1
    · exact .inr ⟨x, x', e, fz, h1, h2, h3, fun j hj => h4 j fun hq => hj (hw k j hk hq)⟩⟩

theorem Fr.drew {W : Nat → Nat → Prop} {a w : World} (h : Fr W a w) : Fr W a { w with drawn := w.drawn + 1 } := ⟨h.os, h.tape, h.output, h.size, h.block⟩

theorem Fr.cell {W : Nat → Nat → Prop} {w0 w : World} (h : Fr W w0 w) {k j : Nat} (hk : k < w0.heap.size) (hj : ¬ W k j) : w.cell? ⟨k, j, none⟩ = w0.cell? ⟨k, j, none⟩ := by
  rcases h.block k hk with h1 | ⟨x, x', e, fz, h1, h2, h3, h4⟩
  · simp [World.cell?, h1]
  · simp [World.cell?, h1, h2, h4 j hj]

theorem Fr.frozen {W : Nat → Nat → Prop} {w0 w : World} (h : Fr W w0 w) {k j : Nat} (hk : k < w0.heap.size) : w.frozen? ⟨k, j, none⟩ = w0.frozen? ⟨k, j, none⟩ := by
  rcases h.block k hk with h1 | ⟨x, x', e, fz, h1, h2, h3, h4⟩
  · simp [World.frozen?, h1]
  · simp [World.frozen?, h1, h2]

theorem Fr.below {W : Nat → Nat → Prop} {w0 w : World} (h : Fr W w0 w) {B : Nat} (hB : B ≤ w0.heap.size) (hw : ∀ k j, k < B → ¬ W k j) : Go.RowKit.Below B w0 w := by
  refine ⟨h.os, h.tape, h.output, h.size, fun k hk => ?_⟩
  rcases h.block k (by omega) with h1 | ⟨x, x', e, fz, h1, h2, h3, h4⟩
  · exact h1
  · rw [h1, h2]
    have : x' = x := by
      apply Array.ext_getElem?
      intro j
      exact h4 j (hw k j hk)
    rw [this]

theorem Fr.alloc {W : Nat → Nat → Prop} {w0 w : World} (h : Fr W w0 w) (o : Obj) : Fr W w0 (w.alloc o) := by
  refine Fr.trans (W' := fun _ _ => False) h ⟨rfl, rfl, rfl, by simp, fun k hk => .inl ?_⟩ (fun _ _ _ hf => hf.elim)
  exact Go.heap_alloc_old w o hk

theorem Fr.setCell {W : Nat → Nat → Prop} {w0 w : World} (h : Fr W w0 w) {k j : Nat} (v : Value) (hw : k < w0.heap.size → W k j) : Fr W w0 (w.setCell ⟨k, j, none⟩ v) := by
  refine Fr.trans (W' := fun k' j' => k' = k ∧ j' = j) h ⟨rfl, rfl, rfl, by simp [World.setCell], fun k' hk' => ?_⟩ (fun k' j' hk' hq => by obtain ⟨rfl, rfl⟩ := hq; exact hw hk')
  by_cases hkk : k' = k
  · subst hkk
    cases hc : w.heap[k']? with
    | none => exact .inl (by simp [World.setCell, Array.getElem?_modify, hc])
    | some o =>
      cases o with
      | cells c e fz =>
        refine .inr ⟨c, c.setIfInBounds j v, e, fz, rfl, by simp [World.setCell, Array.getElem?_modify, hc], by simp, fun j' hj' => ?_⟩
        simp only [Array.getElem?_setIfInBounds]
        have : ¬ j = j' := fun e => hj' ⟨rfl, e.symm⟩
        simp [this]
      | _ => exact .inl (by simp [World.setCell, Array.getElem?_modify, hc])
  · exact .inl (by simp only [World.setCell, Array.getElem?_modify]; rw [if_neg (fun e => hkk e.symm)])

/-! ## 2. Symbolic memory -/

def Dis (ρ : En) (mem : List SO) : Prop :=
  ∀ (o o' : Nat) (so so' : SO), o ≠ o' → mem[o]? = some so → mem[o']? = some so' → so.w = true →
    ρ.blk o ≠ ρ.blk o' ∨ ρ.off o + so.cells.length ≤ ρ.off o' ∨ ρ.off o' + so'.cells.length ≤ ρ.off o

structure RelM (W : Nat → Nat → Prop) (w0 : World) (O : List (Nat × Nat)) (ρ : En) (s : St) (w : World) : Prop where
  objs : ObjsOk w ρ s
  ok : ∀ (o : Nat) (so : SO), s.mem[o]? = some so → so.cells.all (SC.ok s.n s.mem.length) = true
  dis : Dis ρ s.mem
  own : ∀ (o : Nat) (so : SO), s.mem[o]? = some so → so.w = true → w0.heap.size ≤ ρ.blk o ∨ ∀ j, j < so.cells.length → W (ρ.blk o) (ρ.off o + j)
  fr : Fr W w0 w
  pre : ∃ p, ρ.o = O ++ p

theorem mem_lt {mem : List SO} {o : Nat} {so : SO} (h : mem[o]? = some so) : o < mem.length := by
  rcases Nat.lt_or_ge o mem.length with h' | h'
  · exact h'
  · rw [List.getElem?_eq_none h'] at h; cases h

/-- More numbers change nothing of memory. -/
theorem RelM.grow {W : Nat → Nat → Prop} {w0 : World} {O : List (Nat × Nat)} {ρ : En} {s s' : St} {w : World} (h : RelM W w0 O ρ s w) (l : List Int) (hm : s'.mem = s.mem) (hn : s.n ≤ s'.n)
    (len : ρ.e.length = s.n) (lenO : ρ.o.length = s.mem.length) : RelM W w0 O ⟨ρ.e ++ l, ρ.o⟩ s' w := by
  refine ⟨?_, ?_, ?_, ?_, h.fr, h.pre⟩
  · intro o so ho
    rw [hm] at ho
    have g := h.objs o so ho
    refine ⟨g.blk, fun j c hc => ?_, g.thaw⟩
    have := g.cell j c hc
    have ok := List.all_eq_true.1 (h.ok o so ho) c (List.mem_of_getElem? hc)
    have e := SC.den_ext (l := l) (p := []) (e := ρ.e) (o := ρ.o) (c := c) (by rw [len, lenO]; exact ok)
    rw [List.append_nil] at e
    rw [e]; exact this
  · intro o so ho
    rw [hm] at ho ⊢
    exact cells_mono (h.ok o so ho) hn (Nat.le_refl _)
  · rw [hm]; exact h.dis
  · intro o so ho
    rw [hm] at ho
    exact h.own o so ho

theorem RelM.drew {W : Nat → Nat → Prop} {w0 : World} {O : List (Nat × Nat)} {ρ : En} {s : St} {w : World} (h : RelM W w0 O ρ s w) : RelM W w0 O ρ s { w with drawn := w.drawn + 1 } :=
  ⟨fun o so ho => let g := h.objs o so ho; ⟨g.blk, g.cell, g.thaw⟩, h.ok, h.dis, h.own, h.fr.drew, h.pre⟩

/-! ## 3. A slot is written -/

def St.put (s : St) (dst : Option Tmp) (sv : SV) : Option St :=
  match dst with
  | none => some s
  | some d => if Nat.blt d s.nt then some { s with tm := Tr.set 20 s.tm d (some sv) } else none

theorem RelA.put {Γ : List Entry} {base : List Int} {ρ : En} {s s' : St} {a : Act} (hA : RelA Γ base ρ s a) {dst : Option Tmp} {sv : SV} (hok : sv.ok s.n s.mem.length = true)
    (h : s.put dst sv = some s') : RelA Γ base ρ s' (a.put dst (sv.den ρ)) ∧ s'.mem = s.mem ∧ s'.n = s.n ∧ s'.asm = s.asm ∧ s'.defs = s.defs := by
  cases dst with
  | none => cases h; exact ⟨hA, rfl, rfl, rfl, rfl⟩
  | some d =>
    simp only [St.put] at h
    split at h
    · rename_i hd
      cases h
      have hd : d < s.nt := by simpa using hd
      refine ⟨⟨hA.env, hA.len, hA.lenO, by simp [Act.put, hA.size], hA.dfr, ?_, hA.asm, hA.asmok⟩, rfl, rfl, rfl, rfl⟩
      intro t v ht
      rcases Tr.get_set _ _ _ _ _ _ ht with ⟨rfl, e⟩ | ⟨hne, ht⟩
      · cases e
        exact ⟨hok, by simp [Act.put, hA.size, hd]⟩
      · have := hA.tm t v ht
        refine ⟨this.1, ?_⟩
        simp only [Act.put, Array.getElem?_setIfInBounds]
        rw [if_neg (fun e => hne e.symm)]
        exact this.2
    · cases h

/-! ## 4. Writing cells -/

theorem over_length : ∀ (d : Nat) (l cs : List SC), (over d l cs).length = l.length
  | 0, l, [] => by cases l <;> simp [over]
  | d + 1, l, [] => by cases l <;> simp [over]
  | 0, [], c :: cs => by simp [over]
  | d + 1, [], c :: cs => by simp [over]
  | 0, x :: l, c :: cs => by simp [over, over_length 0 l cs]
  | d + 1, x :: l, c :: cs => by simp [over, over_length d l (c :: cs)]

theorem over_get : ∀ (d : Nat) (l cs : List SC) (j : Nat) (c : SC), (over d l cs)[j]? = some c → (d ≤ j ∧ cs[j - d]? = some c) ∨ (l[j]? = some c ∧ ¬ (d ≤ j ∧ j < d + cs.length))
  | 0, [], [], j, c, h => .inr ⟨h, by simp⟩
  | 0, _ :: _, [], j, c, h => .inr ⟨h, by simp⟩
  | d + 1, [], [], j, c, h => .inr ⟨h, by simp⟩
  | d + 1, _ :: _, [], j, c, h => .inr ⟨h, by simp⟩
  | 0, [], x :: cs, j, c, h => by simp [over] at h
  | d + 1, [], x :: cs, j, c, h => by simp [over] at h
  | 0, y :: l, x :: cs, 0, c, h => by
    simp [over] at h
    exact .inl ⟨Nat.le_refl _, by simpa using h⟩
  | 0, y :: l, x :: cs, j + 1, c, h => by
    simp only [over, List.getElem?_cons_succ] at h
    rcases over_get 0 l cs j c h with ⟨_, h1⟩ | ⟨h1, h2⟩
    · exact .inl ⟨by omega, by simpa using h1⟩
    · exact .inr ⟨by simpa using h1, by simp at h2 ⊢; omega⟩
  | d + 1, y :: l, x :: cs, 0, c, h => by
    simp only [over, List.getElem?_cons_zero] at h
    exact .inr ⟨by simpa using h, by omega⟩
  | d + 1, y :: l, x :: cs, j + 1, c, h => by
    simp only [over, List.getElem?_cons_succ] at h
    rcases over_get d l (x :: cs) j c h with ⟨h1, h2⟩ | ⟨h1, h2⟩
    · exact .inl ⟨by omega, by rw [show j + 1 - (d + 1) = j - d by omega]; exact h2⟩
    · exact .inr ⟨by simpa using h1, by omega⟩

structure Wr where
  o : Nat
  d : Nat
  cs : List SC

def writeOne (mem : List SO) (x : Wr) : List SO :=
  match mem[x.o]? with
  | some so => mem.set x.o { so with cells := over x.d so.cells x.cs }
  | none => mem

def writes (mem : List SO) (ws : List Wr) : List SO := ws.foldl writeOne mem

theorem writeOne_spec (mem : List SO) (x : Wr) :
    (writeOne mem x).length = mem.length ∧ ∀ (o : Nat) (so : SO), (writeOne mem x)[o]? = some so → ∃ so0, mem[o]? = some so0 ∧ so.w = so0.w ∧ so.cells.length = so0.cells.length ∧
      ∀ (j : Nat) (c : SC), so.cells[j]? = some c → (x.o = o ∧ x.d ≤ j ∧ x.cs[j - x.d]? = some c) ∨ (so0.cells[j]? = some c ∧ ¬ (x.o = o ∧ x.d ≤ j ∧ j < x.d + x.cs.length)) := by
  unfold writeOne
  split
  · rename_i so1 h1
    refine ⟨by simp, fun o so h => ?_⟩
    rw [List.getElem?_set] at h
    by_cases ho : x.o = o
    · subst ho
      have hl := mem_lt h1
      simp only [if_true, hl] at h
      cases h
      refine ⟨so1, h1, rfl, over_length _ _ _, fun j c hc => ?_⟩
      rcases over_get _ _ _ _ _ hc with ⟨a, b⟩ | ⟨a, b⟩
      · exact .inl ⟨rfl, a, b⟩
      · exact .inr ⟨a, fun q => b q.2⟩
    · rw [if_neg ho] at h
      exact ⟨so, h, rfl, rfl, fun j c hc => .inr ⟨hc, fun q => ho q.1⟩⟩
  · rename_i h1
    refine ⟨rfl, fun o so h => ⟨so, h, rfl, rfl, fun j c hc => .inr ⟨hc, ?_⟩⟩⟩
    rintro ⟨rfl, _⟩
    rw [h] at h1
    cases h1

theorem writes_spec : ∀ (ws : List Wr) (mem : List SO),
    (writes mem ws).length = mem.length ∧ ∀ (o : Nat) (so : SO), (writes mem ws)[o]? = some so → ∃ so0, mem[o]? = some so0 ∧ so.w = so0.w ∧ so.cells.length = so0.cells.length ∧
      ∀ (j : Nat) (c : SC), so.cells[j]? = some c → (∃ x ∈ ws, x.o = o ∧ x.d ≤ j ∧ x.cs[j - x.d]? = some c) ∨ (so0.cells[j]? = some c ∧ ∀ x ∈ ws, ¬ (x.o = o ∧ x.d ≤ j ∧ j < x.d + x.cs.length))
  | [], mem => ⟨rfl, fun o so h => ⟨so, h, rfl, rfl, fun j c hc => .inr ⟨hc, by simp⟩⟩⟩
  | x :: ws, mem => by
    obtain ⟨l1, h1⟩ := writeOne_spec mem x
    obtain ⟨l2, h2⟩ := writes_spec ws (writeOne mem x)
    refine ⟨l2.trans l1, fun o so h => ?_⟩
    obtain ⟨so1, g1, g2, g3, g4⟩ := h2 o so h
    obtain ⟨so0, k1, k2, k3, k4⟩ := h1 o so1 g1
    refine ⟨so0, k1, g2.trans k2, g3.trans k3, fun j c hc => ?_⟩
    rcases g4 j c hc with ⟨y, hy, q⟩ | ⟨q1, q2⟩
    · exact .inl ⟨y, by simp [hy], q⟩
    · rcases k4 j c q1 with q | ⟨r1, r2⟩
      · exact .inl ⟨x, by simp, q⟩
      · refine .inr ⟨r1, fun y hy => ?_⟩
        rcases List.mem_cons.1 hy with rfl | hy
        · exact r2
        · exact q2 y hy

theorem writes_get {ws : List Wr} {mem : List SO} {o : Nat} {so0 : SO} (h : mem[o]? = some so0) : ∃ so, (writes mem ws)[o]? = some so := by
  have hl := mem_lt h
  have : o < (writes mem ws).length := by rw [(writes_spec ws mem).1]; exact hl
  exact ⟨_, List.getElem?_eq_getElem this⟩

end Go.Proofs.Ytfeancgmmonebaa.Sx
