/-
  The symbolic step on one plain operation is what the model's operation does. Conditions: none; each theorem bears its own.
-/
import Derived.Test.YtfeancgmmonebaaDoorMga
namespace Go.Proofs.YtfeancgmmonebaaDoor.Sx
open Go

/-! ## 1. Growing environments -/

theorem SI.val_lit (e : List Int) (n : Int) : (SI.lit n).val e = n := rfl
theorem SI.val_var (e : List Int) (i : Nat) : (SI.var i).val e = e.getD i 0 := rfl

theorem SI.val_ext {e l : List Int} {x : SI} (h : x.ok e.length = true) : x.val (e ++ l) = x.val e := by
  cases x with
  | lit n => rfl
  | var i =>
    have hi : i < e.length := by simpa [SI.ok] using h
    simp [SI.val, List.getD, List.getElem?_append_left hi]

theorem SI.ok_mono {x : SI} {n n' : Nat} (h : x.ok n = true) (hn : n ≤ n') : x.ok n' = true := by
  cases x with
  | lit n => rfl
  | var i => simp [SI.ok] at h ⊢; omega

theorem En.blk_ext (e e' : List Int) (o p : List (Nat × Nat)) (i : Nat) (h : i < o.length) : En.blk ⟨e', o ++ p⟩ i = En.blk ⟨e, o⟩ i := by
  simp [En.blk, List.getD, List.getElem?_append_left h]

theorem En.off_ext (e e' : List Int) (o p : List (Nat × Nat)) (i : Nat) (h : i < o.length) : En.off ⟨e', o ++ p⟩ i = En.off ⟨e, o⟩ i := by
  simp [En.off, List.getD, List.getElem?_append_left h]

theorem SC.den_ext {e l : List Int} {o p : List (Nat × Nat)} {c : SC} (h : c.ok e.length o.length = true) : c.den ⟨e ++ l, o ++ p⟩ = c.den ⟨e, o⟩ := by
  cases c with
  | int k x => simp only [SC.den]; rw [SI.val_ext (by simpa [SC.ok] using h)]
  | bool x => simp only [SC.den]; rw [SI.val_ext (by simpa [SC.ok] using h)]
  | ptr i d =>
    have hi : i < o.length := by simpa [SC.ok] using h
    simp only [SC.den]; rw [En.blk_ext e _ o p i hi, En.off_ext e _ o p i hi]
  | slice i d l c =>
    have hi : i < o.length := by simpa [SC.ok] using h
    simp only [SC.den]; rw [En.blk_ext e _ o p i hi, En.off_ext e _ o p i hi]
  | cv v => rfl

theorem SC.ok_mono {c : SC} {n n' m m' : Nat} (h : c.ok n m = true) (hn : n ≤ n') (hm : m ≤ m') : c.ok n' m' = true := by
  cases c with
  | int k x => exact SI.ok_mono (x := x) h hn
  | bool x => exact SI.ok_mono (x := x) h hn
  | ptr i d => simp [SC.ok] at h ⊢; omega
  | slice i d l c => simp [SC.ok] at h ⊢; omega
  | cv v => exact h

theorem cells_ext {e l : List Int} {o p : List (Nat × Nat)} {cs : List SC} (h : cs.all (SC.ok e.length o.length) = true) : cs.map (SC.den ⟨e ++ l, o ++ p⟩) = cs.map (SC.den ⟨e, o⟩) :=
  List.map_congr_left fun c hc => SC.den_ext (List.all_eq_true.1 h c hc)

theorem cells_mono {cs : List SC} {n n' m m' : Nat} (h : cs.all (SC.ok n m) = true) (hn : n ≤ n') (hm : m ≤ m') : cs.all (SC.ok n' m') = true :=
  List.all_eq_true.2 fun c hc => SC.ok_mono (List.all_eq_true.1 h c hc) hn hm

theorem S1.den_ext {e l : List Int} {o p : List (Nat × Nat)} {v : S1} (h : v.ok e.length o.length = true) : v.den ⟨e ++ l, o ++ p⟩ = v.den ⟨e, o⟩ := by
  cases v with
  | sc c => exact SC.den_ext (c := c) h
  | agg cs => simp only [S1.den]; rw [cells_ext h]

theorem S1.ok_mono {v : S1} {n n' m m' : Nat} (h : v.ok n m = true) (hn : n ≤ n') (hm : m ≤ m') : v.ok n' m' = true := by
  cases v with
  | sc c => exact SC.ok_mono (c := c) h hn hm
  | agg cs => exact cells_mono (cs := cs) h hn hm

theorem SV.den_ext {e l : List Int} {o p : List (Nat × Nat)} {v : SV} (h : v.ok e.length o.length = true) : v.den ⟨e ++ l, o ++ p⟩ = v.den ⟨e, o⟩ := by
  cases v with
  | one v => exact S1.den_ext (v := v) h
  | tup vs =>
    simp only [SV.den]
    rw [List.map_congr_left fun v hv => S1.den_ext (v := v) (List.all_eq_true.1 h v hv)]

theorem SV.ok_mono {v : SV} {n n' m m' : Nat} (h : v.ok n m = true) (hn : n ≤ n') (hm : m ≤ m') : v.ok n' m' = true := by
  cases v with
  | one v => exact S1.ok_mono (v := v) h hn hm
  | tup vs => exact List.all_eq_true.2 fun v hv => S1.ok_mono (List.all_eq_true.1 h v hv) hn hm

/-! ## 2. What the state says of the frame and of memory -/

structure RelA (Γ : List Entry) (base : List Int) (ρ : En) (s : St) (a : Act) : Prop where
  env : ρ.e = runR Γ s.defs base
  len : ρ.e.length = s.n
  lenO : ρ.o.length = s.mem.length
  size : a.tmps.size = s.nt
  dfr : a.defers = []
  tm : ∀ t sv, s.tm.get t = some sv → sv.ok s.n s.mem.length = true ∧ a.tmps[t]? = some (sv.den ρ)
  asm : asmHolds ρ.e s.asm
  asmok : ∀ c ∈ s.asm, c.1.ok s.n = true

structure ObjOk (w : World) (ρ : En) (o : Nat) (so : SO) : Prop where
  blk : ρ.blk o < w.heap.size
  cell : ∀ j c, so.cells[j]? = some c → w.cell? ⟨ρ.blk o, ρ.off o + j, none⟩ = some (c.den ρ)
  thaw : so.w = true → ∀ j, j < so.cells.length → w.frozen? ⟨ρ.blk o, ρ.off o + j, none⟩ = false

def ObjsOk (w : World) (ρ : En) (s : St) : Prop := ∀ o so, s.mem[o]? = some so → ObjOk w ρ o so

/-- Cells alone. -/
def CellsOk (w : World) (ρ : En) (s : St) : Prop := ∀ (o : Nat) (so : SO), s.mem[o]? = some so → ∀ j c, so.cells[j]? = some c → w.cell? ⟨ρ.blk o, ρ.off o + j, none⟩ = some (c.den ρ)

theorem ObjsOk.cells {w : World} {ρ : En} {s : St} (h : ObjsOk w ρ s) : CellsOk w ρ s := fun o so ho => (h o so ho).cell

theorem ofCell_den {v : Value} {c : SC} (h : ofCell v = some c) (ρ : En) (n m : Nat) : c.den ρ = v ∧ c.ok n m = true := by
  cases v <;> simp [ofCell] at h <;> subst h <;> simp [SC.den, SC.ok, SI.val, SI.ok, Value.oneCell']
  case bool b => cases b <;> simp

theorem ofCells_den (ρ : En) (n m : Nat) : ∀ (l : List Value) (cs : List SC), ofCells l = some cs → cs.map (SC.den ρ) = l ∧ cs.all (SC.ok n m) = true
  | [], cs, h => by simp [ofCells] at h; subst h; simp
  | v :: l, cs, h => by
    unfold ofCells at h
    split at h
    · rename_i c cs' h1 h2
      cases h
      have a1 := ofCell_den h1 ρ n m
      have a2 := ofCells_den ρ n m l cs' h2
      simp [a1.1, a1.2, a2.1]
      simpa using a2.2
    · cases h

theorem ofValue_den {v : Value} {sv : SV} (h : ofValue v = some sv) (ρ : En) (n m : Nat) : sv.den ρ = v ∧ sv.ok n m = true := by
  have one : ∀ {v : Value} {sv : SV}, (ofCell v).map (fun c => SV.one (.sc c)) = some sv → sv.den ρ = v ∧ sv.ok n m = true := by
    intro v sv h
    obtain ⟨c, hc, rfl⟩ := Option.map_eq_some_iff.1 h
    exact ofCell_den hc ρ n m
  cases v with
  | agg cs =>
    obtain ⟨l, hl, rfl⟩ := Option.map_eq_some_iff.1 (show (ofCells cs.toList).map (fun l => SV.one (.agg l)) = some sv from h)
    have := ofCells_den ρ n m _ _ hl
    exact ⟨by simp [SV.den, S1.den, this.1], this.2⟩
  | tuple vs =>
    simp only [ofValue] at h
    split at h
    · rename_i hv
      cases h
      obtain ⟨l⟩ := vs
      simp at hv
      subst hv
      exact ⟨rfl, rfl⟩
    · cases h
  | bool b => exact one h
  | int k n => exact one h
  | float k n => exact one h
  | complex k n m => exact one h
  | string s => exact one h
  | pointer p => exact one h
  | slice p l c => exact one h
  | map r => exact one h
  | chan r => exact one h
  | func f x y => exact one h
  | nilFunc => exact one h
  | iface t v => exact one h
  | nilIface => exact one h

theorem get_sound {Γ : List Entry} {base : List Int} {ρ : En} {s : St} {a : Act} (hA : RelA Γ base ρ s a) {x : Operand} {sv : SV} (h : s.get x = some sv) :
    a.eval x = sv.den ρ ∧ sv.ok s.n s.mem.length = true := by
  cases x with
  | tmp t =>
    have := hA.tm t sv h
    exact ⟨by simp [Act.eval, this.2], this.1⟩
  | const v =>
    have := ofValue_den (show ofValue v = some sv from h) ρ s.n s.mem.length
    exact ⟨this.1.symm, this.2⟩
  | func f =>
    simp only [St.get, Option.some.injEq] at h
    subst h
    exact ⟨rfl, rfl⟩
  | global g => simp [St.get] at h

def VRes.den (ρ : En) : VRes → Value
  | .val v => v.den ρ
  | .prim p xs (some k) => .int k (p.ev (xs.map (·.val ρ.e)))
  | .prim p xs none => .bool (p.ev (xs.map (·.val ρ.e)) != 0)

theorem lits_val (e : List Int) : ∀ (xs : List SI) (ns : List Int), lits xs = some ns → xs.map (·.val e) = ns
  | [], ns, h => by simp [lits] at h; subst h; rfl
  | .lit n :: r, ns, h => by
    simp only [lits] at h
    obtain ⟨l, hl, rfl⟩ := Option.map_eq_some_iff.1 h
    simp [SI.val_lit, lits_val e r l hl]
  | .var i :: r, ns, h => by simp [lits] at h

theorem mkSC_den (ρ : En) (k : CK) (x : SI) : (mkSC k x).den ρ = match k with | some k => .int k (x.val ρ.e) | none => .bool (x.val ρ.e != 0) := by
  cases k <;> rfl

theorem mkSC_ok (n m : Nat) (k : CK) (x : SI) : (mkSC k x).ok n m = x.ok n := by cases k <;> rfl

theorem asmHolds_ext {e l : List Int} {asm : List (SI × Bool)} (h : asmHolds e asm) (ok : ∀ c ∈ asm, c.1.ok e.length = true) : asmHolds (e ++ l) asm :=
  fun c hc => by rw [SI.val_ext (ok c hc)]; exact h c hc

/-- A new definition keeps what is known of the frame. -/
theorem RelA.define {Γ : List Entry} {base : List Int} {ρ : En} {s : St} {a : Act} (hA : RelA Γ base ρ s a) (d : Def) :
    RelA Γ base ⟨ρ.e ++ d.ev Γ ρ.e, ρ.o⟩ { s with n := s.n + (d.ev Γ ρ.e).length, defs := d :: s.defs } a := by
  refine ⟨?_, ?_, hA.lenO, hA.size, hA.dfr, ?_, ?_, ?_⟩
  · show ρ.e ++ d.ev Γ ρ.e = runR Γ s.defs base ++ d.ev Γ (runR Γ s.defs base)
    rw [← hA.env]
  · simp [hA.len]
  · intro t sv h
    have := hA.tm t sv h
    refine ⟨SV.ok_mono this.1 (by simp) (Nat.le_refl _), ?_⟩
    have e := SV.den_ext (l := d.ev Γ ρ.e) (p := []) (e := ρ.e) (o := ρ.o) (v := sv) (by rw [hA.len, hA.lenO]; exact this.1)
    rw [List.append_nil] at e
    rw [e]; exact this.2
  · exact asmHolds_ext hA.asm (by rw [hA.len]; exact hA.asmok)
  · exact fun c hc => SI.ok_mono (hA.asmok c hc) (by simp)

/-- Of a value that an operation gives: the new environment, and that the value reads in it as it should. -/
theorem give_sound {Γ : List Entry} {base : List Int} {ρ : En} {s : St} {a : Act} (hA : RelA Γ base ρ s a) {r : VRes} {s' : St} {sv : SV} (h : s.give r = some (s', sv)) :
    ∃ l, RelA Γ base ⟨ρ.e ++ l, ρ.o⟩ s' a ∧ sv.ok s'.n s'.mem.length = true ∧ sv.den ⟨ρ.e ++ l, ρ.o⟩ = r.den ρ ∧ s'.mem = s.mem ∧ s'.tm = s.tm ∧ s'.nt = s.nt ∧ s'.asm = s.asm ∧ s.n ≤ s'.n := by
  cases r with
  | val v =>
    simp only [St.give] at h
    split at h
    · rename_i hv
      cases h
      exact ⟨[], by simpa using hA, hv, by simp [VRes.den], rfl, rfl, rfl, rfl, Nat.le_refl _⟩
    · cases h
  | prim p xs k =>
    simp only [St.give] at h
    split at h
    · rename_i ns hns
      cases h
      refine ⟨[], by simpa using hA, by simp only [SV.ok, S1.ok, mkSC_ok]; rfl, ?_, rfl, rfl, rfl, rfl, Nat.le_refl _⟩
      simp only [SV.den, S1.den, mkSC_den, List.append_nil, SI.val]
      cases k <;> simp [VRes.den, lits_val ρ.e xs ns hns]
    · split at h
      · rename_i hok
        cases h
        have hd := hA.define (.pr p xs)
        refine ⟨[p.ev (xs.map (·.val ρ.e))], by simpa [Def.ev] using hd, ?_, ?_, rfl, rfl, rfl, rfl, by simp⟩
        · simp only [SV.ok, S1.ok, mkSC_ok, SI.ok]; simp
        · simp only [SV.den, S1.den, mkSC_den, SI.val_var, List.getD]
          have hlen : s.n = ρ.e.length := hA.len.symm
          rw [hlen, List.getElem?_append_right (Nat.le_refl _)]
          cases k <;> simp [VRes.den]
      · cases h

/-! ## 3. The model's runs -/
section
variable {P : Program} {w : World}

theorem run_szOf {t : TypeId} {n : Nat} (h : szOf P t = some n) (w : World) : (sizeOf t).run P w = .ok n w := by
  obtain ⟨i, hi, rfl⟩ := Option.map_eq_some_iff.1 h
  simp [sizeOf, typeInfo, hi]

theorem run_isAggB {t : TypeId} {b : Bool} (h : isAggB P t = some b) (w : World) : (isAgg t).run P w = .ok b w := by
  unfold isAggB at h
  split at h <;> simp only [Option.some.injEq, reduceCtorEq] at h
  · rename_i fs hu; subst h; simp [isAgg, run_underlying hu]
  · rename_i n e hu; subst h; simp [isAgg, run_underlying hu]
  · rename_i d h1 h2 hu
    subst h
    simp only [isAgg, Sem.run_bind, run_underlying hu, Result.andThen_ok]
    cases d with
    | struct fs => exact (h1 fs rfl).elim
    | array n e => exact (h2 n e rfl).elim
    | _ => rfl

theorem addr_add (b o n : Nat) : (⟨b, o, none⟩ : Addr).add n = ⟨b, o + n, none⟩ := by
  unfold Addr.add; split
  · rename_i h; subst h; rfl
  · rfl

theorem run_partOf {t : TypeId} {cs : List SC} {off : Nat} {sv : SV} (h : partOf P t cs off = some sv) (ρ : En) (w : World) :
    (part t (cs.map (SC.den ρ)).toArray off).run P w = .ok (sv.den ρ) w := by
  unfold partOf at h
  split at h
  · rename_i n ha hs
    split at h
    · rename_i hn
      cases h
      have hn' : off + n ≤ cs.length := by simpa using hn
      simp only [part, Sem.run_bind, run_isAggB ha, Result.andThen_ok, if_true, run_szOf hs, Sem.run_pure]
      congr 1
      simp only [SV.den, S1.den, Value.agg.injEq]
      apply Array.ext'
      simp [List.map_drop, List.map_take]
    · cases h
  · rename_i ha
    obtain ⟨c, hc, rfl⟩ := Option.map_eq_some_iff.1 h
    simp [part, run_isAggB ha, hc, SV.den, S1.den]
  · cases h

theorem run_loadAt {t : TypeId} {b o : Nat} {cs : List SC} {ρ : En} {d n : Nat} (ha : isAggB P t = some true) (hs : szOf P t = some n) (hn : d + n ≤ cs.length)
    (hc : ∀ j c, cs[j]? = some c → w.cell? ⟨b, o + j, none⟩ = some (c.den ρ)) :
    (Instr.loadAt t (.pointer (some ⟨b, o + d, none⟩))).run P w = .ok (.agg (((cs.drop d).take n).map (SC.den ρ)).toArray) w := by
  have hl : ((((cs.drop d).take n).map (SC.den ρ)).length) = n := by simp; omega
  have := run_loadCells_list (P := P) w ⟨b, o + d, none⟩ (((cs.drop d).take n).map (SC.den ρ)) (fun j v hj => by
    rw [addr_add]
    simp only [List.getElem?_map, List.getElem?_take, List.getElem?_drop, Option.map_eq_some_iff] at hj
    obtain ⟨c, hj, rfl⟩ := hj
    split at hj
    · have := hc (d + j) c hj
      rwa [show o + d + j = o + (d + j) by omega]
    · cases hj)
  rw [hl] at this
  simp [Instr.loadAt, Instr.sureAddr, loadVar, run_isAggB ha, run_szOf hs, this]

end

/-! ### equality of values made of numbers and bools -/

theorem allEq_append (bs : List Bool) (ys : List Int) (cs : List Bool) (zs : List Int) (h : ys.length = 2 * bs.length) : allEq (bs ++ cs) (ys ++ zs) = (allEq bs ys && allEq cs zs) := by
  induction bs generalizing ys with
  | nil =>
    have : ys = [] := List.length_eq_zero_iff.1 (by simpa using h)
    subst this
    simp [allEq]
  | cons b bs ih =>
    match ys, h with
    | x :: y :: r, h =>
      have := ih r (by simp at h; omega)
      simp only [List.cons_append, allEq, this, Bool.and_assoc]
    | [x], h => simp at h; omega
    | [], h => simp at h

theorem flat_length : ∀ l : List (Bool × SI × SI), (flat l).length = 2 * l.length
  | [] => rfl
  | t :: r => by simp [flat, flat_length r]; omega

theorem flat_append : ∀ l r : List (Bool × SI × SI), flat (l ++ r) = flat l ++ flat r
  | [], _ => rfl
  | t :: l, r => by simp [flat, flat_append l r]

/-- Do these pairs read alike? -/
def alike (e : List Int) (l : List (Bool × SI × SI)) : Bool := allEq (l.map (·.1)) ((flat l).map (·.val e))

theorem alike_append (e : List Int) (l r : List (Bool × SI × SI)) : alike e (l ++ r) = (alike e l && alike e r) := by
  unfold alike
  rw [List.map_append, flat_append, List.map_append, allEq_append _ _ _ _ (by simp [flat_length])]

section
variable {P : Program}

theorem run_eqArr {ρ : En} {D : Nat} {f : S1 → S1 → Option (List (Bool × SI × SI))} {el : TypeId} {n : Nat} {xs ys : List SC} (hz : szOf P el = some n)
    (hf : ∀ u v l, f u v = some l → ∀ w, (Op.equalIn D el (u.den ρ) (v.den ρ)).run P w = .ok (alike ρ.e l) w) : ∀ (m i : Nat) (l : List (Bool × SI × SI)), eqArr P f el n xs ys m i = some l → ∀ w,
    (forIn (m := Sem) (List.range' i m) ((none, ()) : Option Bool × Unit) fun j _ =>
      (do
        let x ← part el (xs.map (SC.den ρ)).toArray (j * n)
        let y ← part el (ys.map (SC.den ρ)).toArray (j * n)
        let b ← Op.equalIn D el x y
        if (!b) = true then pure (ForInStep.done (some false, ())) else pure (ForInStep.yield (none, ())) : Sem (ForInStep (Option Bool × Unit)))).run P w =
      .ok (if alike ρ.e l then (none, ()) else (some false, ())) w
  | 0, i, l, h, w => by cases h; rfl
  | m + 1, i, l, h, w => by
    unfold eqArr at h
    split at h
    · rename_i u v h1 h2
      split at h
      · rename_i l1 l2 h3 h4
        cases h
        have ih := run_eqArr hz hf m (i + 1) l2 h4 w
        rw [List.range'_succ, List.forIn_cons]
        have p1 := run_partOf h1 ρ w
        have p2 := run_partOf h2 ρ w
        have p3 := hf u v l1 h3 w
        simp only [SV.den] at p1 p2
        simp only [Sem.run_bind, p1, p2, p3, Result.andThen_ok]
        cases hb : alike ρ.e l1 with
        | true =>
          simp only [Bool.not_true, Bool.false_eq_true, if_false, Sem.run_pure, Result.andThen_ok]
          rw [ih, alike_append, hb, Bool.true_and]
        | false =>
          simp only [Bool.not_false, if_true, Sem.run_pure, Result.andThen_ok]
          rw [alike_append, hb, Bool.false_and]
          rfl
      · cases h
    · cases h

theorem run_eqFld {ρ : En} {D : Nat} {f : TypeId → S1 → S1 → Option (List (Bool × SI × SI))} {xs ys : List SC}
    (hf : ∀ t u v l, f t u v = some l → ∀ w, (Op.equalIn D t (u.den ρ) (v.den ρ)).run P w = .ok (alike ρ.e l) w) : ∀ (fs : List Field) (l : List (Bool × SI × SI)), eqFld P f xs ys fs = some l → ∀ w,
    (Op.eqFields D (xs.map (SC.den ρ)).toArray (ys.map (SC.den ρ)).toArray fs).run P w = .ok (alike ρ.e l) w
  | [], l, h, w => by cases h; rfl
  | g :: r, l, h, w => by
    unfold eqFld at h
    split at h
    · cases h
    · rename_i hne
      split at h
      · rename_i u v h1 h2
        split at h
        · rename_i l1 l2 h3 h4
          cases h
          have ih := run_eqFld hf r l2 h4 w
          have p1 := run_partOf h1 ρ w
          have p2 := run_partOf h2 ρ w
          have p3 := hf g.type u v l1 h3 w
          simp only [SV.den] at p1 p2
          simp only [Op.eqFields]
          rw [if_pos hne]
          simp only [Sem.run_bind, p1, p2, p3, Result.andThen_ok]
          cases hb : alike ρ.e l1 with
          | true =>
            simp only [Bool.not_true, Bool.false_eq_true, if_false]
            rw [ih, alike_append, hb, Bool.true_and]
          | false =>
            simp only [Bool.not_false, if_true, Sem.run_pure]
            rw [alike_append, hb, Bool.false_and]
        · cases h
      · cases h

theorem run_eqV {ρ : En} : ∀ (d : Nat) (D : Nat) (t : TypeId) (x y : S1) (l : List (Bool × SI × SI)), eqV P d t x y = some l → d ≤ D → ∀ w, (Op.equalIn D t (x.den ρ) (y.den ρ)).run P w = .ok (alike ρ.e l) w
  | 0, _, _, _, _, _, h, _, _ => by cases h
  | d + 1, D, t, x, y, l, h, hD, w => by
    obtain ⟨D, rfl⟩ : ∃ E, D = E + 1 := ⟨D - 1, by omega⟩
    unfold eqV at h
    split at h
    · rename_i k' k a k2 b hu
      split at h
      · rename_i hk
        cases h
        have hk : k = k2 := by simpa using hk
        subst hk
        simp only [S1.den, SC.den]
        rw [run_equalIn_int w D t k k' _ _ hu]
        simp only [alike, flat, List.map, allEq, Bool.false_eq_true, if_false, Bool.and_true]
        rfl
      · cases h
    · rename_i a b hu
      cases h
      simp only [S1.den, SC.den]
      rw [run_equalIn_bool' w D t _ _ hu]
      simp only [alike, flat, List.map, allEq, if_true, Bool.and_true]
    · rename_i len el xs ys hu
      split at h
      · rename_i n hz
        have hr := run_eqArr (ρ := ρ) (D := D) hz (fun u v l' hl w' => run_eqV d D el u v l' hl (by omega) w') len 0 l h w
        simp only [S1.den, Op.equalIn, Sem.run_bind, run_underlying hu, Result.andThen_ok, run_szOf hz]
        simp only [Std.Legacy.Range.forIn_eq_forIn_range', Std.Legacy.Range.size]
        simp only [Nat.sub_zero, Nat.add_sub_cancel, Nat.div_one]
        rw [hr]
        cases alike ρ.e l <;> simp
      · cases h
    · rename_i fs xs ys hu
      split at h
      · cases h
      · rename_i hst
        have hfs : P.fieldsOf t = fs := by simp [Program.fieldsOf, hu]
        have := run_eqFld (P := P) (ρ := ρ) (D := D) (fun t' u v l' hl w' => run_eqV d D t' u v l' hl (by omega) w') fs.toList l h w
        simp only [S1.den]
        rw [run_equalIn_struct w D t _ _ (by rw [hfs]; exact hu) (by simpa using hst), hfs]
        exact this
    · cases h
end

theorem eqGuard_cmp {op : BinOp} {t : TypeId} {x y : Operand} {k : IntKind} {n : Int} {v : Value} : eqGuard op t x y (.int k n) v = pure () := by
  cases op <;> rfl

theorem bne_ite (p : Prop) [Decidable p] : ((if p then (1 : Int) else 0) != 0) = decide p := by
  split <;> simp [*]

theorem bne_ite' (p : Prop) [Decidable p] : ((if p then (0 : Int) else 1) != 0) = !decide p := by
  split <;> simp [*]

theorem run_binV {P : Program} {Γ : List Entry} {base : List Int} {ρ : En} {s : St} {a : Act} (hA : RelA Γ base ρ s a) {op : BinOp} {T : TypeId} {x y : Operand} {r : VRes}
    (h : binV P s op T x y = some r) (w : World) :
    (do eqGuard op T x y (a.eval x) (a.eval y); binOp op T (a.eval x) (a.eval y) : Sem Value).run P w = .ok (r.den ρ) w := by
  unfold binV at h
  split at h
  · rename_i k p k' q hx hy
    rw [(get_sound hA hx).1, (get_sound hA hy).1]
    simp only [SV.den, S1.den, SC.den, eqGuard_cmp]
    have fin : ∀ {o : Option IntKind} {r : VRes}, (if (decide (k = k')) = true then some (VRes.prim (.bin op k) [p, q] o) else none) = some r →
        (k = k' → (binOp op T (.int k (p.val ρ.e)) (.int k (q.val ρ.e))).run P w = .ok ((VRes.prim (.bin op k) [p, q] o).den ρ) w) →
        (do pure (); binOp op T (.int k (p.val ρ.e)) (.int k' (q.val ρ.e)) : Sem Value).run P w = .ok (r.den ρ) w := by
      intro o r h1 h2
      split at h1
      · rename_i hk
        cases h1
        have hk : k = k' := by simpa using hk
        subst hk
        simpa using h2 rfl
      · cases h1
    cases op
    case shl =>
      cases q with
      | var i => simp at h
      | lit n =>
        simp only at h
        split at h
        · rename_i hn
          cases h
          have hn : 0 ≤ n := by simpa using hn
          simp [binOp, Op.shift, SI.val, VRes.den, Pr.ev, binEv, Int.not_lt.2 hn]
        · cases h
    case shr =>
      cases q with
      | var i => simp at h
      | lit n =>
        simp only at h
        split at h
        · rename_i hn
          cases h
          have hn : 0 ≤ n := by simpa using hn
          simp [binOp, Op.shift, SI.val, VRes.den, Pr.ev, binEv, Int.not_lt.2 hn]
        · cases h
    case quo =>
      cases q with
      | var i => simp at h
      | lit n =>
        simp only at h
        split at h
        · rename_i hn
          cases h
          simp only [Bool.and_eq_true, decide_eq_true_eq, Bool.not_eq_true', decide_eq_false_iff_not] at hn
          obtain ⟨rfl, hn⟩ := hn
          simp [binOp, Op.intDiv, SI.val, VRes.den, Pr.ev, binEv, hn]
        · cases h
    case rem =>
      cases q with
      | var i => simp at h
      | lit n =>
        simp only at h
        split at h
        · rename_i hn
          cases h
          simp only [Bool.and_eq_true, decide_eq_true_eq, Bool.not_eq_true', decide_eq_false_iff_not] at hn
          obtain ⟨rfl, hn⟩ := hn
          simp [binOp, Op.intDiv, SI.val, VRes.den, Pr.ev, binEv, hn]
        · cases h
    case add => exact fin h fun _ => by simp [binOp, Op.intArith, VRes.den, Pr.ev, binEv, isCmp]
    case sub => exact fin h fun _ => by simp [binOp, Op.intArith, VRes.den, Pr.ev, binEv, isCmp]
    case mul => exact fin h fun _ => by simp [binOp, Op.intArith, VRes.den, Pr.ev, binEv, isCmp]
    case and => exact fin h fun _ => by simp [binOp, intBits_and, VRes.den, Pr.ev, binEv, isCmp]
    case or => exact fin h fun _ => by simp [binOp, intBits_or, VRes.den, Pr.ev, binEv, isCmp]
    case xor => exact fin h fun _ => by simp [binOp, intBits_xor, VRes.den, Pr.ev, binEv, isCmp]
    case andNot => exact fin h fun _ => by simp [binOp, intBits_andNot, VRes.den, Pr.ev, binEv, isCmp]
    case eql => exact fin h fun _ => by simp only [binOp_eql, Sem.run_pure, VRes.den, Pr.ev, binEv, isCmp, if_true, bne_ite, List.map, List.getD_cons_zero, List.getD_cons_succ]; rfl
    case neq => exact fin h fun _ => by simp only [binOp_neq, Sem.run_pure, VRes.den, Pr.ev, binEv, isCmp, if_true, bne_ite', List.map, List.getD_cons_zero, List.getD_cons_succ]; rfl
    case lss => exact fin h fun _ => by simp only [binOp_lss, Sem.run_pure, VRes.den, Pr.ev, binEv, isCmp, if_true, bne_ite, List.map, List.getD_cons_zero, List.getD_cons_succ]
    case leq => exact fin h fun _ => by simp only [binOp_leq, Sem.run_pure, VRes.den, Pr.ev, binEv, isCmp, if_true, bne_ite, List.map, List.getD_cons_zero, List.getD_cons_succ]
    case gtr => exact fin h fun _ => by simp only [binOp_gtr, Sem.run_pure, VRes.den, Pr.ev, binEv, isCmp, if_true, bne_ite, List.map, List.getD_cons_zero, List.getD_cons_succ]
    case geq => exact fin h fun _ => by simp only [binOp_geq, Sem.run_pure, VRes.den, Pr.ev, binEv, isCmp, if_true, bne_ite, List.map, List.getD_cons_zero, List.getD_cons_succ]
  · rename_i p q hx hy
    rw [(get_sound hA hx).1, (get_sound hA hy).1]
    split at h
    · rename_i hu
      cases h
      simp only [SV.den, S1.den, SC.den, eqGuard_at_bool, Sem.run_bind, Sem.run_pure, Result.andThen_ok, run_eql_bool w T _ _ hu, VRes.den, Pr.ev, List.map, List.getD_cons_zero, List.getD_cons_succ, bne_ite]
      cases (SI.val ρ.e p != 0) <;> cases (SI.val ρ.e q != 0) <;> rfl
    · cases h
  · rename_i xs ys hx hy
    rw [(get_sound hA hx).1, (get_sound hA hy).1]
    split at h
    · cases h
    · rename_i hg
      have hg : P.eqGuardType P.depth T = false := by simpa using hg
      have hgr := run_eqGuard_agg (P := P) w op T x y (xs.map (SC.den ρ)).toArray (ys.map (SC.den ρ)).toArray hg
      split at h
      · rename_i l hl
        cases h
        have := run_eqV (P := P) (ρ := ρ) 9 10000 T (.agg xs) (.agg ys) l hl (by decide) w
        simp only [S1.den] at this
        simp only [SV.den, S1.den, Sem.run_bind, hgr, Result.andThen_ok, run_eql_struct, this, VRes.den, Pr.ev]
        congr 2
        unfold alike
        generalize allEq (l.map (·.1)) ((flat l).map (·.val ρ.e)) = b
        cases b <;> rfl
      · rename_i l hl
        cases h
        have := run_eqV (P := P) (ρ := ρ) 9 10000 T (.agg xs) (.agg ys) l hl (by decide) w
        simp only [S1.den] at this
        simp only [SV.den, S1.den, Sem.run_bind, hgr, Result.andThen_ok, run_neq_struct, this, VRes.den, Pr.ev]
        congr 2
        unfold alike
        generalize allEq (l.map (·.1)) ((flat l).map (·.val ρ.e)) = b
        cases b <;> rfl
      · cases h
  · cases h

end Go.Proofs.YtfeancgmmonebaaDoor.Sx

/-
  The symbolic step on one plain operation (all kinds) is what the model's operation does. Conditions: none; each theorem bears its own.
-/
namespace Go.Proofs.YtfeancgmmonebaaDoor.Sx
open Go

theorem litOpt_spec {Γ : List Entry} {base : List Int} {ρ : En} {s : St} {a : Act} (hA : RelA Γ base ρ s a) {x : Option Operand} {r : Option Int} (h : litOpt s x = some r) :
    (x.map a.eval = none ∧ r = none) ∨ ∃ k n, x.map a.eval = some (.int k n) ∧ r = some n := by
  cases x with
  | none => cases h; exact .inl ⟨rfl, rfl⟩
  | some y =>
    simp only [litOpt] at h
    split at h
    · rename_i k n hy
      cases h
      exact .inr ⟨k, n, by simp [(get_sound hA hy).1, SV.den, S1.den, SC.den, SI.val], rfl⟩
    · cases h

theorem run_bounds {P : Program} {b : Bool} {len cap : Nat} {low high : Option Value} {l h : Option Int} (hl : (low = none ∧ l = none) ∨ ∃ k n, low = some (.int k n) ∧ l = some n) (hh : (high = none ∧ h = none) ∨ ∃ k n, high = some (.int k n) ∧ h = some n)
    (h0 : 0 ≤ l.getD 0) (h1 : l.getD 0 ≤ h.getD len) (h2 : h.getD len ≤ cap) (w : World) :
    (Instr.sliceBounds b len cap low high none).run P w = .ok ((l.getD 0).toNat, (h.getD len).toNat, cap) w := by
  rcases hl with ⟨rfl, rfl⟩ | ⟨k, n, rfl, rfl⟩ <;> rcases hh with ⟨rfl, rfl⟩ | ⟨k', n', rfl, rfl⟩ <;> simp only [Option.getD_some, Option.getD_none] at h0 h1 h2
  · simp [Instr.sliceBounds]
  · simp [Instr.sliceBounds, Instr.sliceBound, asIntOf, h1, h2]
  · simp [Instr.sliceBounds, Instr.sliceBound, asIntOf, h0, h1]
  · have h3 : 0 ≤ n' := by omega
    have h4 : ((n'.toNat : Nat) : Int) = n' := Int.toNat_of_nonneg h3
    have h5 : n ≤ ((n'.toNat : Nat) : Int) := by rw [h4]; exact h1
    simp only [Instr.sliceBounds, Instr.sliceBound, asIntOf, Sem.run_bind, Sem.run_pure, Result.andThen_ok, h0, h2, h3, h5, and_self, if_true]
    rfl

theorem over_map {α β : Type} (f : α → β) : ∀ (d : Nat) (l cs : List α), (over d l cs).map f = over d (l.map f) (cs.map f)
  | 0, l, [] => by cases l <;> simp [over]
  | d + 1, l, [] => by cases l <;> simp [over]
  | 0, [], c :: cs => by simp [over]
  | d + 1, [], c :: cs => by simp [over]
  | 0, x :: l, c :: cs => by simp [over, over_map f 0 l cs]
  | d + 1, x :: l, c :: cs => by simp [over, over_map f d l (c :: cs)]

theorem over_cons_set {α : Type} : ∀ (d : Nat) (l : List α) (c : α) (cs : List α), d < l.length → over d l (c :: cs) = over (d + 1) (l.set d c) cs
  | 0, [], c, cs, h => by simp at h
  | 0, x :: l, c, cs, _ => by cases cs <;> cases l <;> simp [over]
  | d + 1, [], c, cs, h => by simp at h
  | d + 1, x :: l, c, cs, h => by
    have := over_cons_set d l c cs (by simpa using h)
    cases cs <;> simp [over, this]

theorem foldl_over : ∀ (vs : List Value) (k off : Nat) (arr : List Value), off + k + vs.length ≤ arr.length →
    (vs.zipIdx k).foldl (fun (cs : Array Value) (x : Value × Nat) => cs.setIfInBounds (off + x.2) x.1) arr.toArray = (over (off + k) arr vs).toArray
  | [], k, off, arr, _ => by cases arr <;> cases (off + k) <;> simp [over]
  | v :: vs, k, off, arr, h => by
    simp only [List.length_cons] at h
    rw [List.zipIdx_cons, List.foldl_cons, over_cons_set _ _ _ _ (by omega)]
    have := foldl_over vs (k + 1) off (arr.set (off + k) v) (by simp; omega)
    simp only [List.setIfInBounds_toArray] at this ⊢
    rw [this, Nat.add_assoc]

theorem S1_cells {v : S1} {n m : Nat} (h : v.ok n m = true) (ρ : En) : (v.den ρ).cells = (v.cells.map (SC.den ρ)).toArray := by
  cases v with
  | sc c =>
    have : ∀ cs, c.den ρ ≠ .agg cs := by
      intro cs hc
      cases c with
      | cv v => simp only [SC.den] at hc; subst hc; simp [S1.ok, SC.ok, Value.oneCell'] at h
      | int k x => cases hc
      | bool x => cases hc
      | ptr i d => cases hc
      | slice i d l c => cases hc
    simp only [S1.den, S1.cells]
    cases hc : c.den ρ with
    | agg cs => exact (this cs hc).elim
    | _ => simp [Value.cells, hc]
  | agg cs => rfl

theorem fill_sound {Γ : List Entry} {base : List Int} {ρ : En} {s : St} {a : Act} (hA : RelA Γ base ρ s a) {place place' : Nat → Option (Nat × Nat)} (hp : ∀ i q, place i = some q → place' i = some q) :
    ∀ (parts : List (Nat × Operand)) (cells l : List SC), fillV place cells parts s.get = some l →
      Instr.fill place' (cells.map (SC.den ρ)).toArray (parts.map fun p => (p.1, a.eval p.2)) = some (l.map (SC.den ρ)).toArray
  | [], cells, l, h => by cases h; rfl
  | (i, x) :: r, cells, l, h => by
    unfold fillV at h
    split at h
    · rename_i q v hq hx
      split at h
      · rename_i hc
        simp only [Bool.and_eq_true, decide_eq_true_eq] at hc
        have hg := get_sound hA hx
        have hcells : (a.eval x).cells = (v.cells.map (SC.den ρ)).toArray := by rw [hg.1]; exact S1_cells (v := v) hg.2 ρ
        have ih := fill_sound hA hp r _ l h
        have hf := foldl_over (v.cells.map (SC.den ρ)) 0 q.1 (cells.map (SC.den ρ)) (by simp; omega)
        simp only [List.map_cons, Instr.fill, hp i q hq, hcells]
        rw [if_neg (by simp; omega)]
        rw [over_map, ← Nat.add_zero q.1, ← hf] at ih
        rw [← ih]
        congr 1
        simp
      · cases h
    · cases h

theorem run_mapM_places {P : Program} : ∀ (fs : List Field), (fs.all fun f => (szOf P f.type).isSome) = true → ∀ w,
    (fs.mapM fun f => (do pure (f.offset, ← sizeOf f.type) : Sem (Nat × Nat))).run P w = .ok (fs.map fun f => (f.offset, (szOf P f.type).getD 0)) w
  | [], _, w => rfl
  | f :: fs, h, w => by
    simp only [List.all_cons, Bool.and_eq_true] at h
    obtain ⟨n, hn⟩ := Option.isSome_iff_exists.1 h.1
    have ih := run_mapM_places fs h.2 w
    rw [List.mapM_cons]
    simp only [Sem.run_bind, run_szOf hn, Sem.run_pure, Result.andThen_ok, ih, List.map_cons, hn, Option.getD_some]

theorem opV_run {P : Program} {Γ : List Entry} {base : List Int} {ρ : En} {s : St} {a : Act} (hA : RelA Γ base ρ s a) {w : World} (hM : CellsOk w ρ s) (o : Oper) {r : VRes}
    (h : opV P s o.op = some r) : (execOp a.eval o).run P w = .ok (.value (r.den ρ)) w := by
  obtain ⟨dst, op, ty, pos, after, guard⟩ := o
  simp only at h
  cases op
  case move x =>
    obtain ⟨sv, hx, rfl⟩ := Option.map_eq_some_iff.1 (show (s.get x).map VRes.val = some r from h)
    simp [execOp, (get_sound hA hx).1, VRes.den]
  case assign x =>
    obtain ⟨sv, hx, rfl⟩ := Option.map_eq_some_iff.1 (show (s.get x).map VRes.val = some r from h)
    simp [execOp, (get_sound hA hx).1, VRes.den]
  case nilCheck x =>
    simp only [opV] at h
    split at h
    · rename_i o d hx
      cases h
      simp [execOp, (get_sound hA hx).1, VRes.den, SV.den, S1.den, SC.den]
    · cases h
  case fieldAddr T x f =>
    simp only [opV] at h
    split at h
    · rename_i fs o d hu hx
      split at h
      · rename_i fl hf
        split at h
        · rename_i n hz
          split at h
          · cases h
          · rename_i hn
            cases h
            simp [execOp, (get_sound hA hx).1, VRes.den, SV.den, S1.den, SC.den, Instr.fieldAt, run_underlying hu, hf, Instr.sureAddr, fieldPlace, run_szOf hz, hn, addr_add, Nat.add_assoc]
        · cases h
      · cases h
    · cases h
  case indexAddr T x i =>
    simp only [opV] at h
    split at h
    · rename_i k n hi
      split at h
      · rename_i len el o d hu hx
        split at h
        · rename_i z hz
          split at h
          · rename_i hb
            cases h
            simp only [Bool.and_eq_true, decide_eq_true_eq] at hb
            simp [execOp, (get_sound hA hx).1, (get_sound hA hi).1, VRes.den, SV.den, S1.den, SC.den, SI.val, Instr.indexAt, run_underlying hu, asIntOf, Instr.sureAddr, hb.1, hb.2, run_szOf hz, addr_add, Nat.add_assoc]
          · cases h
        · cases h
      · rename_i el o d len cap hu hx
        split at h
        · rename_i z hz
          split at h
          · rename_i hb
            cases h
            simp only [Bool.and_eq_true, decide_eq_true_eq] at hb
            simp [execOp, (get_sound hA hx).1, (get_sound hA hi).1, VRes.den, SV.den, S1.den, SC.den, SI.val, Instr.indexAt, run_underlying hu, asIntOf, hb.1, hb.2, run_szOf hz, addr_add, Nat.add_assoc]
          · cases h
        · cases h
      · cases h
    · cases h
  case load T x =>
    simp only [opV] at h
    split at h
    · rename_i o d hx
      split at h
      · rename_i so hso
        have ho := hM o so hso
        split at h
        · rename_i n ha hz
          split at h
          · rename_i hn
            cases h
            have := run_loadAt (P := P) (w := w) (ρ := ρ) ha hz (by simpa using hn) ho
            simp [execOp, (get_sound hA hx).1, VRes.den, SV.den, S1.den, SC.den, this]
          · cases h
        · rename_i ha
          obtain ⟨c, hc, rfl⟩ := Option.map_eq_some_iff.1 h
          have := ho d c hc
          simp [execOp, (get_sound hA hx).1, VRes.den, SV.den, S1.den, SC.den, Instr.loadAt, Instr.sureAddr, loadVar, run_isAggB ha, this]
        · cases h
      · cases h
    · cases h
  case binOp op T x y yT =>
    have := run_binV hA (show binV P s op T x y = some r from h) w
    simp only [execOp, Sem.run_bind] at this ⊢
    rw [this]
    rfl
  case unOp op T x =>
    cases op
    case not =>
      simp only [opV] at h
      split at h
      · rename_i p hx
        cases h
        simp only [execOp, (get_sound hA hx).1, SV.den, S1.den, SC.den, Op.unary, Sem.run_bind, Sem.run_pure, Result.andThen_ok, VRes.den, Pr.ev, List.map, List.getD_cons_zero, bne_ite]
        simp only [bne, Bool.not_not]
        rfl
      · cases h
    case neg =>
      simp only [opV] at h
      split at h
      · rename_i k p hx
        cases h
        simp [execOp, (get_sound hA hx).1, SV.den, S1.den, SC.den, Op.unary, Op.intArith, VRes.den, Pr.ev, binEv, SI.val]
      · cases h
    case xor =>
      simp only [opV] at h
      split at h
      · rename_i k p hx
        cases h
        simp [execOp, (get_sound hA hx).1, SV.den, S1.den, SC.den, Op.unary, intBits_xor, VRes.den, Pr.ev, binEv, SI.val]
      · cases h
    all_goals simp [opV] at h
  case convert src dst x =>
    simp only [opV] at h
    split at h
    · rename_i k p hx
      split at h
      · rename_i d k' h1 h2
        cases h
        have hi : (P.underlying src).isSome = true := by rw [h1]; rfl
        have hk : P.intKind dst = k' := by simp [Program.intKind, h2]
        have := run_convert_int w src dst k (p.val ρ.e) hi (by rw [hk]; exact h2)
        rw [hk] at this
        simp [execOp, (get_sound hA hx).1, SV.den, S1.den, SC.den, this, VRes.den, Pr.ev]
      · cases h
    · cases h
  case field T x f =>
    simp only [opV] at h
    split at h
    · rename_i fs cs hu hx
      split at h
      · rename_i fl hf
        obtain ⟨sv, hp, rfl⟩ := Option.map_eq_some_iff.1 h
        simp [execOp, (get_sound hA hx).1, SV.den, S1.den, Instr.field, run_underlying hu, hf, asAgg, run_partOf hp ρ w, VRes.den]
      · cases h
    · cases h
  case index T x i =>
    simp only [opV] at h
    split at h
    · rename_i k n hi
      split at h
      · rename_i len el cs hu hx
        split at h
        · rename_i z hz
          split at h
          · rename_i hb
            obtain ⟨sv, hp, rfl⟩ := Option.map_eq_some_iff.1 h
            simp only [Bool.and_eq_true, decide_eq_true_eq] at hb
            simp [execOp, (get_sound hA hx).1, (get_sound hA hi).1, SV.den, S1.den, SC.den, SI.val, Instr.index, asIntOf, run_underlying hu, hb.1, hb.2, run_szOf hz, run_partOf hp ρ w, VRes.den]
          · cases h
        · cases h
      · cases h
    · cases h
  case extract t i =>
    simp only [opV] at h
    split at h
    · rename_i vs hx
      obtain ⟨v, hv, rfl⟩ := Option.map_eq_some_iff.1 h
      simp [execOp, (get_sound hA hx).1, SV.den, Instr.extract, hv, VRes.den]
    · cases h
  case pick c x y =>
    simp only [opV] at h
    split at h
    · rename_i p hc
      have key : ∀ b, known s.asm p = some b → (p.val ρ.e != 0) = b := by
        intro b hb
        cases p with
        | lit n => simpa [known, SI.val] using hb
        | var i =>
          simp only [known] at hb
          obtain ⟨q, hq, rfl⟩ := Option.map_eq_some_iff.1 hb
          have h1 := List.mem_of_find?_eq_some hq
          have h2 := List.find?_some hq
          have h3 := hA.asm q h1
          rw [← h3]
          obtain ⟨qx, qb⟩ := q
          cases qx with
          | lit n => simp [SI.beq] at h2
          | var j =>
            have : j = i := by simpa [SI.beq] using h2
            subst this
            rfl
      split at h
      · rename_i hk
        obtain ⟨sv, hx, rfl⟩ := Option.map_eq_some_iff.1 h
        simp [execOp, (get_sound hA hc).1, SV.den, S1.den, SC.den, asBool, key true hk, (get_sound hA hx).1, VRes.den]
      · rename_i hk
        obtain ⟨sv, hx, rfl⟩ := Option.map_eq_some_iff.1 h
        simp [execOp, (get_sound hA hc).1, SV.den, S1.den, SC.den, asBool, key false hk, (get_sound hA hx).1, VRes.den]
      · cases h
    · cases h
  case slice T x lo hi mx =>
    cases mx with
    | some m => simp [opV] at h
    | none =>
      simp only [opV] at h
      split at h
      · rename_i n el o d l hh hu hx hl hhi
        split at h
        · rename_i z hz
          split at h
          · rename_i hc
            cases h
            simp only [Bool.and_eq_true, decide_eq_true_eq] at hc
            have hb := run_bounds (P := P) (b := false) (len := n) (cap := n) (litOpt_spec hA hl) (litOpt_spec hA hhi) hc.1.1 hc.1.2 hc.2 w
            have hp : a.eval x = .pointer (some ⟨ρ.blk o, ρ.off o + d, none⟩) := (get_sound hA hx).1
            simp only [execOp, hp, Instr.sliceAt, run_underlying hu, Instr.sureAddr, Sem.run_bind, Sem.run_pure, Result.andThen_ok, Option.map_none, hb, run_szOf hz, VRes.den, SV.den, S1.den, SC.den]
            congr 4
            split
            · rfl
            · rw [addr_add, Nat.add_assoc]
          · cases h
        · cases h
      · rename_i el o d len cap l hh hu hx hl hhi
        split at h
        · rename_i z hz
          split at h
          · rename_i hc
            cases h
            simp only [Bool.and_eq_true, decide_eq_true_eq] at hc
            have hb := run_bounds (P := P) (b := true) (len := len) (cap := cap) (litOpt_spec hA hl) (litOpt_spec hA hhi) hc.1.1 hc.1.2 hc.2 w
            have hp : a.eval x = .slice (some ⟨ρ.blk o, ρ.off o + d, none⟩) len cap := (get_sound hA hx).1
            simp only [execOp, hp, Instr.sliceAt, Instr.slice, run_underlying hu, Sem.run_bind, Sem.run_pure, Result.andThen_ok, Option.map_none, hb, run_szOf hz, VRes.den, SV.den, S1.den, SC.den]
            congr 3
            split
            · rfl
            · simp only [Option.map_some]; rw [addr_add, Nat.add_assoc]
          · cases h
        · cases h
      · cases h
  case sliceToArrayPointer T x =>
    simp only [opV] at h
    split at h
    · rename_i n el o d len cap hu hx
      split at h
      · rename_i hn
        cases h
        have hn : n ≤ len := by simpa using hn
        have hp : a.eval x = .slice (some ⟨ρ.blk o, ρ.off o + d, none⟩) len cap := (get_sound hA hx).1
        simp [execOp, hp, Instr.arrayAt, run_underlying hu, Nat.not_lt.2 hn, VRes.den, SV.den, S1.den, SC.den]
      · cases h
    · cases h
  case build T parts =>
    simp only [opV] at h
    split at h
    · rename_i v hv
      split at h
      · rename_i cs hcs
        obtain ⟨inf, hi, hz⟩ := Option.bind_eq_some_iff.1 hv
        have hd := (ofCells_den ρ s.n s.mem.length _ _ hcs).1
        have hcells : v.cells = (cs.map (SC.den ρ)).toArray := by rw [hd]
        have hparts : (parts.map fun (p : Nat × Operand) => (p.1, a.eval p.2)).toList = parts.toList.map fun p => (p.1, a.eval p.2) := by simp
        split at h
        · rename_i fs hu
          split at h
          · rename_i hall
            obtain ⟨l, hl, rfl⟩ := Option.map_eq_some_iff.1 h
            have hf := fill_sound hA (place' := ((fs.toList.map fun f => (f.offset, (szOf P f.type).getD 0)).toArray[·]?)) (fun i q hq => by simpa using hq) _ _ _ hl
            have hm := run_mapM_places (P := P) fs.toList hall w
            have hm' : (fs.mapM fun f => (do pure (f.offset, ← sizeOf f.type) : Sem (Nat × Nat))).run P w = .ok (fs.toList.map fun f => (f.offset, (szOf P f.type).getD 0)).toArray w := by
              rw [Array.mapM_eq_mapM_toList]
              simp only [Sem.run_map, hm, Result.andThen_ok]
            simp only [execOp, Instr.build, zeroValue, typeInfo, hi, hz, Sem.run_bind, run_program, Result.andThen_ok, Sem.run_pure, run_underlying hu, hm', hcells, hparts, hf, VRes.den, SV.den, S1.den]
          · cases h
        · rename_i n el hu
          split at h
          · rename_i z hzz
            obtain ⟨l, hl, rfl⟩ := Option.map_eq_some_iff.1 h
            have hf := fill_sound hA (place' := fun i => some (i * z, z)) (fun i q hq => hq) _ _ _ hl
            simp only [execOp, Instr.build, zeroValue, typeInfo, hi, hz, Sem.run_bind, run_program, Result.andThen_ok, Sem.run_pure, run_underlying hu, run_szOf hzz, hcells, hparts, hf, VRes.den, SV.den, S1.den]
          · cases h
        · cases h
      · cases h
    · cases h
  case call c =>
    obtain ⟨callee, args, ats⟩ := c
    simp only [opV] at h
    split at h
    · rename_i x T h2 h3
      split at h
      · rename_i o d l cap el hx hu
        cases h
        obtain ⟨args⟩ := args
        obtain ⟨ats⟩ := ats
        simp only at h2 h3
        subst h2 h3
        have := run_len_slice (P := P) w T ty (some ⟨ρ.blk o, ρ.off o + d, none⟩) l cap (by simp [Program.elem, hu])
        simp only [execOp, resolve, invoke, builtin, Sem.run_bind, Sem.run_pure, Result.andThen_ok, List.map_toArray, List.map, (get_sound hA hx).1, SV.den, S1.den, SC.den, this, VRes.den, SI.val, goInt]
      · cases h
    · cases h
  all_goals (simp [opV] at h)

end Go.Proofs.YtfeancgmmonebaaDoor.Sx
