/-
  Calls by contract: what a contract says, how a call is matched with one, and that the symbolic call is right. Conditions: none; each theorem bears its own.
-/
import Derived.Test.YtfeancgmmonebaaMgb
namespace Go.Proofs.Ytfeancgmmonebaa.Sx
open Go
set_option linter.unusedSectionVars false

/-! ## 1. What a contract says -/

def kcells : Nat → List CK → List SC
  | _, [] => []
  | n, k :: ks => mkSC k (.var n) :: kcells (n + 1) ks

structure Ini where
  args : List SV
  mem : List SO
  n : Nat

def iniArg (i : Ini) (a : ASh) : Ini :=
  match a with
  | .int k => ⟨i.args ++ [.one (.sc (.int k (.var i.n)))], i.mem, i.n + 1⟩
  | .bool => ⟨i.args ++ [.one (.sc (.bool (.var i.n)))], i.mem, i.n + 1⟩
  | .agg ks => ⟨i.args ++ [.one (.agg (kcells i.n ks))], i.mem, i.n + ks.length⟩
  | .ptr ks w => ⟨i.args ++ [.one (.sc (.ptr i.mem.length 0))], i.mem ++ [⟨kcells i.n ks, w⟩], i.n + ks.length⟩
  | .slice ks cap w => ⟨i.args ++ [.one (.sc (.slice i.mem.length 0 ks.length cap))], i.mem ++ [⟨kcells i.n ks, w⟩], i.n + ks.length⟩
  | .same j => ⟨i.args ++ [i.args.getD j (.tup [])], i.mem, i.n⟩
  | .cst v => ⟨i.args ++ [(ofValue v).getD (.tup [])], i.mem, i.n⟩

def ini (shs : List ASh) : Ini := shs.foldl iniArg ⟨[], [], 0⟩

def rekey : Nat → List SC → List SC
  | _, [] => []
  | n, .int k _ :: r => .int k (.var n) :: rekey (n + 1) r
  | n, .bool _ :: r => .bool (.var n) :: rekey (n + 1) r
  | n, c :: r => c :: rekey (n + 1) r

def finMem : Nat → List SO → List SO × Nat
  | n, [] => ([], n)
  | n, so :: r =>
    if so.w then (⟨rekey n so.cells, true⟩ :: (finMem (n + so.cells.length) r).1, (finMem (n + so.cells.length) r).2)
    else (so :: (finMem n r).1, (finMem n r).2)

structure Fin where
  res : List S1
  mem : List SO
  n : Nat

def finRes (i : Ini) (f : Fin) (r : RSh) : Fin :=
  match r with
  | .int k => ⟨f.res ++ [.sc (.int k (.var f.n))], f.mem, f.n + 1⟩
  | .bool => ⟨f.res ++ [.sc (.bool (.var f.n))], f.mem, f.n + 1⟩
  | .agg ks => ⟨f.res ++ [.agg (kcells f.n ks)], f.mem, f.n + ks.length⟩
  | .arg j => match i.args[j]? with
    | some (.one v) => ⟨f.res ++ [v], f.mem, f.n⟩
    | _ => f
  | .new ks => ⟨f.res ++ [.sc (.ptr f.mem.length 0)], f.mem ++ [⟨kcells f.n ks, true⟩], f.n + ks.length⟩
  | .cst v => match ofValue v with
    | some (.one x) => ⟨f.res ++ [x], f.mem, f.n⟩
    | _ => f

def fin (e : Entry) : Fin := e.res.foldl (finRes (ini e.args)) ⟨[], (finMem (ini e.args).n (ini e.args).mem).1, (finMem (ini e.args).n (ini e.args).mem).2⟩

def retOf (l : List S1) : SV :=
  match l with
  | [v] => .one v
  | vs => .tup vs

def WOf (ρ : En) (mem : List SO) (k j : Nat) : Prop := ∃ (o : Nat) (so : SO), mem[o]? = some so ∧ so.w = true ∧ ρ.blk o = k ∧ ρ.off o ≤ j ∧ j < ρ.off o + so.cells.length

def MemOk (w : World) (ρ : En) (mem : List SO) : Prop := ∀ (o : Nat) (so : SO), mem[o]? = some so → ObjOk w ρ o so

/-- The environment behind a call: the numbers that it gives, the blocks that it makes. -/
def Entry.env (e : Entry) (base : List Int) (bs nb : List (Nat × Nat)) : En :=
  ⟨base ++ fit ((fin e).n - (ini e.args).n) (e.F base), bs ++ nb⟩

/-- What a call comes to: of a function with a body; of one that the model answers for itself. -/
def CallOk (P : Program) (f : FuncId) (args : Array Value) (w : World) (R : Ending → World → Prop) : Prop :=
  ((callFunc f args).run P w = .ok (.enter f args) w ∧ Calls P f args w R) ∨ ∃ v, (callFunc f args).run P w = .ok (.value v) w ∧ R (.returned v) w

theorem CallOk.mono {P : Program} {f : FuncId} {args : Array Value} {w : World} {R R' : Ending → World → Prop} (h : CallOk P f args w R) (hr : ∀ e w', R e w' → R' e w') : CallOk P f args w R' := by
  rcases h with ⟨h1, h2⟩ | ⟨v, h1, h2⟩
  · exact .inl ⟨h1, h2.mono hr⟩
  · exact .inr ⟨v, h1, hr _ _ h2⟩

def Meets (P : Program) (e : Entry) : Prop :=
  ∀ (base : List Int) (bs : List (Nat × Nat)) (w : World), base.length = (ini e.args).n → bs.length = (ini e.args).mem.length → (e.free = false → e.Pre base) →
    MemOk w ⟨base, bs⟩ (ini e.args).mem → Dis ⟨base, bs⟩ (ini e.args).mem →
    CallOk P e.f ((ini e.args).args.map (SV.den ⟨base, bs⟩)).toArray w fun en w' =>
      ∃ nb : List (Nat × Nat), (ini e.args).mem.length + nb.length = (fin e).mem.length ∧ (∀ q ∈ nb, w.heap.size ≤ q.1) ∧ Dis (e.env base bs nb) (fin e).mem ∧
        en = .returned ((retOf (fin e).res).den (e.env base bs nb)) ∧ MemOk w' (e.env base bs nb) (fin e).mem ∧ Fr (WOf ⟨base, bs⟩ (ini e.args).mem) w w'

/-! ## 2. A contract's symbols, at a call -/

structure Sub where
  xs : List SI
  n0 : Nat
  os : List (Nat × Nat)
  m0 : Nat

def Sub.si (σ : Sub) : SI → SI
  | .lit n => .lit n
  | .var i => if Nat.blt i σ.xs.length then σ.xs.getD i (.lit 0) else .var (σ.n0 + (i - σ.xs.length))

def Sub.sc (σ : Sub) : SC → SC
  | .int k x => .int k (σ.si x)
  | .bool x => .bool (σ.si x)
  | .ptr o d => if Nat.blt o σ.os.length then .ptr (σ.os.getD o (0, 0)).1 ((σ.os.getD o (0, 0)).2 + d) else .ptr (σ.m0 + (o - σ.os.length)) d
  | .slice o d l c => if Nat.blt o σ.os.length then .slice (σ.os.getD o (0, 0)).1 ((σ.os.getD o (0, 0)).2 + d) l c else .slice (σ.m0 + (o - σ.os.length)) d l c
  | .cv v => .cv v

def Sub.s1 (σ : Sub) : S1 → S1
  | .sc c => .sc (σ.sc c)
  | .agg cs => .agg (cs.map σ.sc)

def Sub.sv (σ : Sub) : SV → SV
  | .one v => .one (σ.s1 v)
  | .tup vs => .tup (vs.map σ.s1)

/-- The contract's environment behind a call that is made in the environment (e, o). -/
def Sub.env (σ : Sub) (e : List Int) (o : List (Nat × Nat)) : List Int × List (Nat × Nat) :=
  (σ.xs.map (·.val e), σ.os.map fun p => (En.blk ⟨e, o⟩ p.1, En.off ⟨e, o⟩ p.1 + p.2))

section
variable {σ : Sub} {e : List Int} {o : List (Nat × Nat)} (he : e.length = σ.n0) (ho : o.length = σ.m0) (hx : σ.xs.all (SI.ok σ.n0) = true) (hp : σ.os.all (fun p => Nat.blt p.1 σ.m0) = true)
include he ho hx hp

theorem Sub.si_val (l : List Int) (x : SI) : (σ.si x).val (e ++ l) = x.val ((σ.env e o).1 ++ l) := by
  cases x with
  | lit n => rfl
  | var i =>
    simp only [Sub.si]
    split
    · rename_i hi
      have hi : i < σ.xs.length := by simpa using hi
      have hok : (σ.xs[i]).ok e.length = true := by rw [he]; exact List.all_eq_true.1 hx _ (List.getElem_mem hi)
      have e1 : σ.xs.getD i (.lit 0) = σ.xs[i] := by simp [List.getD, List.getElem?_eq_getElem hi]
      rw [e1, SI.val_ext hok, SI.val_var]
      simp [Sub.env, List.getD, List.getElem?_append_left, hi]
    · rename_i hi
      have hi : σ.xs.length ≤ i := by simpa using hi
      simp only [SI.val_var, List.getD, Sub.env]
      rw [List.getElem?_append_right (by simp [he]), List.getElem?_append_right (by simpa using hi)]
      simp [he]

theorem Sub.blk_env (l : List Int) (nb : List (Nat × Nat)) (i : Nat) (hi : i < σ.os.length) :
    En.blk ⟨(σ.env e o).1 ++ l, (σ.env e o).2 ++ nb⟩ i = En.blk ⟨e ++ l, o ++ nb⟩ (σ.os.getD i (0, 0)).1 ∧
    En.off ⟨(σ.env e o).1 ++ l, (σ.env e o).2 ++ nb⟩ i = En.off ⟨e ++ l, o ++ nb⟩ (σ.os.getD i (0, 0)).1 + (σ.os.getD i (0, 0)).2 := by
  have e1 : σ.os.getD i (0, 0) = σ.os[i] := by simp [List.getD, List.getElem?_eq_getElem hi]
  have h1 : (σ.os[i]).1 < o.length := by
    have := List.all_eq_true.1 hp _ (List.getElem_mem hi)
    rw [ho]; simpa using this
  rw [e1, En.blk_ext e (e ++ l) o nb _ h1, En.off_ext e (e ++ l) o nb _ h1]
  constructor <;> simp [En.blk, En.off, Sub.env, List.getD, List.getElem?_append_left, hi]

theorem Sub.blk_new (l : List Int) (nb : List (Nat × Nat)) (i : Nat) (hi : σ.os.length ≤ i) :
    En.blk ⟨(σ.env e o).1 ++ l, (σ.env e o).2 ++ nb⟩ i = En.blk ⟨e ++ l, o ++ nb⟩ (σ.m0 + (i - σ.os.length)) ∧
    En.off ⟨(σ.env e o).1 ++ l, (σ.env e o).2 ++ nb⟩ i = En.off ⟨e ++ l, o ++ nb⟩ (σ.m0 + (i - σ.os.length)) := by
  constructor <;>
  · simp only [En.blk, En.off, Sub.env, List.getD]
    rw [List.getElem?_append_right (by simpa using hi), List.getElem?_append_right (by simp [ho])]
    simp [ho]

theorem Sub.sc_den (l : List Int) (nb : List (Nat × Nat)) (c : SC) : (σ.sc c).den ⟨e ++ l, o ++ nb⟩ = c.den ⟨(σ.env e o).1 ++ l, (σ.env e o).2 ++ nb⟩ := by
  cases c with
  | int k x => simp only [Sub.sc, SC.den, Sub.si_val he ho hx hp]
  | bool x => simp only [Sub.sc, SC.den, Sub.si_val he ho hx hp]
  | ptr i d =>
    simp only [Sub.sc]
    split
    · rename_i hi
      have := Sub.blk_env he ho hx hp l nb i (by simpa using hi)
      simp only [SC.den, this.1, this.2, Nat.add_assoc]
    · rename_i hi
      have := Sub.blk_new he ho hx hp l nb i (by simpa using hi)
      simp only [SC.den, this.1, this.2]
  | slice i d n c =>
    simp only [Sub.sc]
    split
    · rename_i hi
      have := Sub.blk_env he ho hx hp l nb i (by simpa using hi)
      simp only [SC.den, this.1, this.2, Nat.add_assoc]
    · rename_i hi
      have := Sub.blk_new he ho hx hp l nb i (by simpa using hi)
      simp only [SC.den, this.1, this.2]
  | cv v => rfl

theorem Sub.s1_den (l : List Int) (nb : List (Nat × Nat)) (v : S1) : (σ.s1 v).den ⟨e ++ l, o ++ nb⟩ = v.den ⟨(σ.env e o).1 ++ l, (σ.env e o).2 ++ nb⟩ := by
  cases v with
  | sc c => exact Sub.sc_den he ho hx hp l nb c
  | agg cs =>
    simp only [Sub.s1, S1.den, List.map_map]
    rw [List.map_congr_left fun c _ => (show (SC.den ⟨e ++ l, o ++ nb⟩ ∘ σ.sc) c = _ from Sub.sc_den he ho hx hp l nb c)]

theorem Sub.sv_den (l : List Int) (nb : List (Nat × Nat)) (v : SV) : (σ.sv v).den ⟨e ++ l, o ++ nb⟩ = v.den ⟨(σ.env e o).1 ++ l, (σ.env e o).2 ++ nb⟩ := by
  cases v with
  | one v => exact Sub.s1_den he ho hx hp l nb v
  | tup vs =>
    simp only [Sub.sv, SV.den, List.map_map]
    rw [List.map_congr_left fun c _ => (show (S1.den ⟨e ++ l, o ++ nb⟩ ∘ σ.s1) c = _ from Sub.s1_den he ho hx hp l nb c)]

end

/-! ## 3. Equality of symbols, as a Bool -/

def kindEq (a b : IntKind) : Bool := decide (a = b)

def cvEq : Value → Value → Bool
  | .pointer none, .pointer none => true
  | .nilIface, .nilIface => true
  | .slice none 0 0, .slice none 0 0 => true
  | _, _ => false

theorem cvEq_eq {a b : Value} (h : cvEq a b = true) : a = b := by
  unfold cvEq at h
  split at h <;> first | rfl | cases h

def SC.beq : SC → SC → Bool
  | .int k x, .int k' x' => kindEq k k' && x.beq x'
  | .bool x, .bool x' => x.beq x'
  | .ptr o d, .ptr o' d' => Nat.beq o o' && Nat.beq d d'
  | .slice o d l c, .slice o' d' l' c' => Nat.beq o o' && Nat.beq d d' && Nat.beq l l' && Nat.beq c c'
  | .cv a, .cv b => cvEq a b
  | _, _ => false

theorem SI.beq_eq {x y : SI} (h : x.beq y = true) : x = y := by
  cases x <;> cases y <;> simp [SI.beq] at h <;> simp [h]

theorem SC.beq_eq {x y : SC} (h : x.beq y = true) : x = y := by
  cases x <;> cases y <;> simp only [SC.beq, Bool.and_eq_true, kindEq, decide_eq_true_eq, Bool.false_eq_true] at h
  · rw [h.1, SI.beq_eq h.2]
  · rw [SI.beq_eq h]
  · rw [Nat.eq_of_beq_eq_true h.1, Nat.eq_of_beq_eq_true h.2]
  · rw [Nat.eq_of_beq_eq_true h.1.1.1, Nat.eq_of_beq_eq_true h.1.1.2, Nat.eq_of_beq_eq_true h.1.2, Nat.eq_of_beq_eq_true h.2]
  · rw [cvEq_eq h]

def lbeq {α : Type} (f : α → α → Bool) : List α → List α → Bool
  | [], [] => true
  | a :: l, b :: m => f a b && lbeq f l m
  | _, _ => false

theorem lbeq_eq {α : Type} {f : α → α → Bool} (hf : ∀ a b, f a b = true → a = b) : ∀ (l m : List α), lbeq f l m = true → l = m
  | [], [], _ => rfl
  | a :: l, b :: m, h => by
    simp only [lbeq, Bool.and_eq_true] at h
    rw [hf a b h.1, lbeq_eq hf l m h.2]
  | [], _ :: _, h => by simp [lbeq] at h
  | _ :: _, [], h => by simp [lbeq] at h

def S1.beq : S1 → S1 → Bool
  | .sc a, .sc b => a.beq b
  | .agg a, .agg b => lbeq SC.beq a b
  | _, _ => false

theorem S1.beq_eq (x y : S1) (h : x.beq y = true) : x = y := by
  cases x <;> cases y <;> simp only [S1.beq, Bool.false_eq_true] at h
  · rw [SC.beq_eq h]
  · rw [lbeq_eq (fun _ _ => SC.beq_eq) _ _ h]

def SV.beq : SV → SV → Bool
  | .one a, .one b => a.beq b
  | .tup a, .tup b => lbeq S1.beq a b
  | _, _ => false

theorem SV.beq_eq (x y : SV) (h : x.beq y = true) : x = y := by
  cases x <;> cases y <;> simp only [SV.beq, Bool.false_eq_true] at h
  · rw [S1.beq_eq _ _ h]
  · rw [lbeq_eq S1.beq_eq _ _ h]

/-! ## 4. The call -/

def siOf : List SC → List SI
  | [] => []
  | .int _ x :: r => x :: siOf r
  | .bool x :: r => x :: siOf r
  | _ :: r => .lit 0 :: siOf r

def exArg (s : St) (a : ASh) (v : SV) : List SI × List (Nat × Nat) :=
  match a, v with
  | .int _, .one (.sc (.int _ x)) => ([x], [])
  | .bool, .one (.sc (.bool x)) => ([x], [])
  | .agg _, .one (.agg cs) => (siOf cs, [])
  | .ptr ks _, .one (.sc (.ptr o d)) =>
    match s.mem[o]? with
    | some so => (siOf ((so.cells.drop d).take ks.length), [(o, d)])
    | none => ([], [])
  | .slice ks _ _, .one (.sc (.slice o d _ _)) =>
    match s.mem[o]? with
    | some so => (siOf ((so.cells.drop d).take ks.length), [(o, d)])
    | none => ([], [])
  | _, _ => ([], [])

def exArgs (s : St) : List ASh → List SV → List SI × List (Nat × Nat)
  | a :: as, v :: vs => ((exArg s a v).1 ++ (exArgs s as vs).1, (exArg s a v).2 ++ (exArgs s as vs).2)
  | _, _ => ([], [])

/-- Object p of the contract is a part of the caller's object os[p]. -/
def chkMem (s : St) (σ : Sub) (mem : List SO) : Bool :=
  (List.range mem.length).all fun p =>
    match mem[p]?, σ.os[p]? with
    | some so, some q =>
      match s.mem[q.1]? with
      | some so' => !so.cells.isEmpty && lbeq SC.beq (so.cells.map σ.sc) ((so'.cells.drop q.2).take so.cells.length) && (!so.w || so'.w)
      | none => false
    | _, _ => false

def chkDis (σ : Sub) (mem : List SO) : Bool :=
  (List.range mem.length).all fun p => (List.range mem.length).all fun q =>
    match mem[p]?, mem[q]?, σ.os[p]?, σ.os[q]? with
    | some a, some b, some x, some y => Nat.beq p q || !a.w || !(Nat.beq x.1 y.1) || Nat.ble (x.2 + a.cells.length) y.2 || Nat.ble (y.2 + b.cells.length) x.2
    | _, _, _, _ => false

def wrOf (σ : Sub) (mem fmem : List SO) (p : Nat) : Option Wr :=
  match mem[p]?, fmem[p]?, σ.os[p]? with
  | some so, some fo, some q => if so.w then some ⟨q.1, q.2, fo.cells.map σ.sc⟩ else none
  | _, _, _ => none

def chkFin (mem fmem : List SO) : Bool :=
  Nat.ble mem.length fmem.length && ((List.range mem.length).all fun p =>
    match mem[p]?, fmem[p]? with
    | some so, some fo => Nat.beq so.cells.length fo.cells.length
    | _, _ => false) && (fmem.drop mem.length).all (·.w)

def stillB (mem fmem : List SO) : Bool := mem.all (fun so => !so.w) && Nat.beq fmem.length mem.length

def memOf (s : St) (σ : Sub) (mem fmem : List SO) : List SO :=
  if stillB mem fmem then s.mem else
    writes s.mem ((List.range mem.length).filterMap (wrOf σ mem fmem)) ++ (fmem.drop mem.length).map fun so => ⟨so.cells.map σ.sc, true⟩

def callE (quiet : Bool) (s : St) (e : Entry) (j : Nat) (vs : List SV) : Option (St × SV × List Need) :=
  let i := ini e.args
  let f := fin e
  let x := exArgs s e.args vs
  let σ : Sub := ⟨x.1, s.n, x.2, s.mem.length⟩
  let m := f.n - i.n
  if Nat.beq x.1.length i.n && Nat.beq x.2.length i.mem.length && x.1.all (SI.ok s.n) && x.2.all (fun p => Nat.blt p.1 s.mem.length)
      && lbeq SV.beq (i.args.map σ.sv) vs && chkMem s σ i.mem && chkDis σ i.mem && chkFin i.mem f.mem
      && (!quiet || stillB i.mem f.mem) then
    let mem' := memOf s σ i.mem f.mem
    if mem'.all (fun so => so.cells.all (SC.ok (s.n + m) mem'.length)) && (σ.sv (retOf f.res)).ok (s.n + m) mem'.length then
      some ({ s with mem := mem', n := s.n + m, defs := .app j x.1 m :: s.defs }, σ.sv (retOf f.res), if e.free then [] else [⟨s.defs, s.asm, j, x.1⟩])
    else none
  else none

end Go.Proofs.Ytfeancgmmonebaa.Sx

/-
  The symbolic call is right: if the contract holds, and what is owed holds, the call leaves the state that was reckoned. Conditions: none; each theorem bears its own.
-/
namespace Go.Proofs.Ytfeancgmmonebaa.Sx
open Go

theorem range_all {n : Nat} {f : Nat → Bool} (h : (List.range n).all f = true) {p : Nat} (hp : p < n) : f p = true := List.all_eq_true.1 h p (List.mem_range.2 hp)

theorem chkMem_len {cs cs' : List SC} {f : SC → SC} {d : Nat} (h : cs.map f = (cs'.drop d).take cs.length) (hne : cs ≠ []) : d + cs.length ≤ cs'.length := by
  have := congrArg List.length h
  simp only [List.length_map, List.length_take, List.length_drop] at this
  have : 0 < cs.length := List.length_pos_iff.2 hne
  omega

theorem chkMem_spec {s : St} {σ : Sub} {mem : List SO} (h : chkMem s σ mem = true) {p : Nat} {so : SO} (hp : mem[p]? = some so) :
    ∃ q so', σ.os[p]? = some q ∧ s.mem[q.1]? = some so' ∧ so.cells.map σ.sc = (so'.cells.drop q.2).take so.cells.length ∧ (so.w = true → so'.w = true) ∧ 0 < so.cells.length ∧ q.2 + so.cells.length ≤ so'.cells.length := by
  have := range_all h (mem_lt hp)
  rw [hp] at this
  split at this
  · rename_i so1 q h1 h2
    cases h1
    split at this
    · rename_i so' h3
      simp only [Bool.and_eq_true, Bool.or_eq_true, Bool.not_eq_true'] at this
      have heq := lbeq_eq (fun _ _ => SC.beq_eq) _ _ this.1.2
      have hne : so.cells ≠ [] := fun e => by have := this.1.1; rw [e] at this; cases this
      refine ⟨q, so', h2, h3, heq, fun hw => ?_, List.length_pos_iff.2 hne, chkMem_len heq hne⟩
      rcases this.2 with h4 | h4
      · rw [hw] at h4; cases h4
      · exact h4
    · cases this
  · cases this

theorem chkMem_cells {cs cs' : List SC} {f : SC → SC} {d : Nat} (h : cs.map f = (cs'.drop d).take cs.length) {j : Nat} {c : SC} (hj : cs[j]? = some c) : cs'[d + j]? = some (f c) := by
  have h1 : (cs.map f)[j]? = some (f c) := by simp [hj]
  rw [h, List.getElem?_take] at h1
  split at h1
  · rwa [List.getElem?_drop] at h1
  · cases h1

theorem chkDis_spec {σ : Sub} {mem : List SO} (h : chkDis σ mem = true) {p q : Nat} {a b : SO} {x y : Nat × Nat} (hp : mem[p]? = some a) (hq : mem[q]? = some b) (hx : σ.os[p]? = some x) (hy : σ.os[q]? = some y)
    (hne : p ≠ q) (hw : a.w = true) : x.1 ≠ y.1 ∨ x.2 + a.cells.length ≤ y.2 ∨ y.2 + b.cells.length ≤ x.2 := by
  have := range_all (range_all h (mem_lt hp)) (mem_lt hq)
  rw [hp, hq, hx, hy] at this
  simp only [Bool.or_eq_true, hw, Bool.not_true, Bool.not_eq_true', Nat.ble_eq] at this
  rcases this with (((h1 | h1) | h1) | h1) | h1
  · exact (hne (Nat.eq_of_beq_eq_true h1)).elim
  · cases h1
  · refine .inl fun e => ?_
    rw [e] at h1
    simp at h1
  · exact .inr (.inl h1)
  · exact .inr (.inr h1)

theorem wrOf_mem {σ : Sub} {mem fmem : List SO} {x : Wr} (h : x ∈ (List.range mem.length).filterMap (wrOf σ mem fmem)) :
    ∃ (p : Nat) (so fo : SO) (q : Nat × Nat), mem[p]? = some so ∧ fmem[p]? = some fo ∧ σ.os[p]? = some q ∧ so.w = true ∧ x = ⟨q.1, q.2, fo.cells.map σ.sc⟩ := by
  obtain ⟨p, _, hp⟩ := List.mem_filterMap.1 h
  unfold wrOf at hp
  split at hp
  · rename_i so fo q h1 h2 h3
    split at hp
    · rename_i hw
      cases hp
      exact ⟨p, so, fo, q, h1, h2, h3, hw, rfl⟩
    · cases hp
  · cases hp

theorem mem_wrOf {σ : Sub} {mem fmem : List SO} {p : Nat} {so fo : SO} {q : Nat × Nat} (h1 : mem[p]? = some so) (h2 : fmem[p]? = some fo) (h3 : σ.os[p]? = some q) (hw : so.w = true) :
    (⟨q.1, q.2, fo.cells.map σ.sc⟩ : Wr) ∈ (List.range mem.length).filterMap (wrOf σ mem fmem) :=
  List.mem_filterMap.2 ⟨p, List.mem_range.2 (mem_lt h1), by simp [wrOf, h1, h2, h3, hw]⟩

theorem chkFin_spec {mem fmem : List SO} (h : chkFin mem fmem = true) :
    mem.length ≤ fmem.length ∧ (∀ (p : Nat) (so fo : SO), mem[p]? = some so → fmem[p]? = some fo → so.cells.length = fo.cells.length) ∧ ∀ (p : Nat) (fo : SO), mem.length ≤ p → fmem[p]? = some fo → fo.w = true := by
  simp only [chkFin, Bool.and_eq_true, Nat.ble_eq] at h
  obtain ⟨⟨h1, h2⟩, h3⟩ := h
  refine ⟨h1, fun p so fo hp hf => ?_, fun p fo hp hf => ?_⟩
  · have := range_all h2 (mem_lt hp)
    rw [hp, hf] at this
    exact Nat.eq_of_beq_eq_true this
  · refine List.all_eq_true.1 h3 fo (List.mem_of_getElem? (i := p - mem.length) ?_)
    rw [List.getElem?_drop, show mem.length + (p - mem.length) = p by omega]
    exact hf

theorem fin_get {fmem : List SO} {p : Nat} (h : p < fmem.length) : ∃ fo, fmem[p]? = some fo := ⟨_, List.getElem?_eq_getElem h⟩

theorem memOf_spec {s : St} {σ : Sub} {mem fmem : List SO} (hf : mem.length ≤ fmem.length) :
    (memOf s σ mem fmem).length + mem.length = s.mem.length + fmem.length ∧
    ∀ (o : Nat) (so : SO), (memOf s σ mem fmem)[o]? = some so →
      (∃ so0, s.mem[o]? = some so0 ∧ so.w = so0.w ∧ so.cells.length = so0.cells.length ∧ ∀ (j : Nat) (c : SC), so.cells[j]? = some c →
        (∃ (p : Nat) (sp fo : SO) (q : Nat × Nat), mem[p]? = some sp ∧ fmem[p]? = some fo ∧ σ.os[p]? = some q ∧ sp.w = true ∧ q.1 = o ∧ q.2 ≤ j ∧ (fo.cells.map σ.sc)[j - q.2]? = some c) ∨
        (so0.cells[j]? = some c ∧ ∀ (p : Nat) (sp fo : SO) (q : Nat × Nat), mem[p]? = some sp → fmem[p]? = some fo → σ.os[p]? = some q → sp.w = true → ¬ (q.1 = o ∧ q.2 ≤ j ∧ j < q.2 + fo.cells.length))) ∨
      (s.mem.length ≤ o ∧ ∃ fo, fmem[mem.length + (o - s.mem.length)]? = some fo ∧ so = ⟨fo.cells.map σ.sc, true⟩) := by
  unfold memOf
  split
  · rename_i hs
    simp only [stillB, Bool.and_eq_true] at hs
    refine ⟨by rw [Nat.eq_of_beq_eq_true hs.2], fun o so ho => .inl ⟨so, ho, rfl, rfl, fun j c hc => .inr ⟨hc, fun p sp fo q hp _ _ hw => ?_⟩⟩⟩
    have := List.all_eq_true.1 hs.1 sp (List.mem_of_getElem? hp)
    rw [hw] at this
    cases this
  · obtain ⟨l1, sp1⟩ := writes_spec ((List.range mem.length).filterMap (wrOf σ mem fmem)) s.mem
    refine ⟨by simp [l1]; omega, fun o so ho => ?_⟩
    rcases Nat.lt_or_ge o s.mem.length with hl | hl
    · rw [List.getElem?_append_left (by rw [l1]; exact hl)] at ho
      obtain ⟨so0, h0, e1, e2, e3⟩ := sp1 o so ho
      refine .inl ⟨so0, h0, e1, e2, fun j c hc => ?_⟩
      rcases e3 j c hc with ⟨x, hx, x1, x2, x3⟩ | ⟨x1, x2⟩
      · obtain ⟨p, sp, fo, q, a1, a2, a3, a4, rfl⟩ := wrOf_mem hx
        exact .inl ⟨p, sp, fo, q, a1, a2, a3, a4, x1, x2, x3⟩
      · refine .inr ⟨x1, fun p sp fo q a1 a2 a3 a4 hh => x2 _ (mem_wrOf a1 a2 a3 a4) ?_⟩
        simpa using hh
    · rw [List.getElem?_append_right (by rw [l1]; exact hl), l1, List.getElem?_map, List.getElem?_drop] at ho
      obtain ⟨fo, hfo, rfl⟩ := Option.map_eq_some_iff.1 ho
      exact .inr ⟨hl, fo, hfo, rfl⟩

theorem callE_sound {P : Program} {Γ : List Entry} {base : List Int} {W : Nat → Nat → Prop} {w0 : World} {O : List (Nat × Nat)} {ρ : En} {s s' : St} {a : Act} {sv : SV} {quiet : Bool} {e : Entry} {j : Nat} {vs : List SV} {nds : List Need}
    (hA : RelA Γ base ρ s a) (hj : Γ.getD j noEntry = e) (hm : Meets P e) (h : callE quiet s e j vs = some (s', sv, nds)) (hn : ∀ nd ∈ nds, nd.holds Γ base) :
    ∃ l : List Int, (quiet = true → RelA Γ base ⟨ρ.e ++ l, ρ.o⟩ s' a ∧ s'.mem = s.mem) ∧ sv.ok s'.n s'.mem.length = true ∧ s'.asm = s.asm ∧ s'.nt = s.nt ∧ s'.tm = s.tm ∧ s.n ≤ s'.n ∧
      ∀ w, RelM W w0 O ρ s w → CallOk P e.f (vs.map (SV.den ρ)).toArray w fun en w' => ∃ p, (quiet = true → p = []) ∧ RelA Γ base ⟨ρ.e ++ l, ρ.o ++ p⟩ s' a ∧ RelM W w0 O ⟨ρ.e ++ l, ρ.o ++ p⟩ s' w' ∧
        en = .returned (sv.den ⟨ρ.e ++ l, ρ.o ++ p⟩) := by
  unfold callE at h
  simp only at h
  generalize hx : (exArgs s e.args vs).1 = xs at h
  generalize ho : (exArgs s e.args vs).2 = os at h
  split at h
  case isFalse => cases h
  rename_i hc
  simp only [Bool.and_eq_true] at hc
  obtain ⟨⟨⟨⟨⟨⟨⟨⟨c1, c2⟩, c3⟩, c4⟩, c5⟩, c6⟩, c7⟩, c8⟩, c9⟩ := hc
  have c1 := Nat.eq_of_beq_eq_true c1
  have c2 := Nat.eq_of_beq_eq_true c2
  have c5 := lbeq_eq SV.beq_eq _ _ c5
  generalize hσ : (⟨xs, s.n, os, s.mem.length⟩ : Sub) = σ at h c5 c6 c7
  have σx : σ.xs = xs := by rw [← hσ]
  have σn : σ.n0 = s.n := by rw [← hσ]
  have σo : σ.os = os := by rw [← hσ]
  have σm : σ.m0 = s.mem.length := by rw [← hσ]
  have he : ρ.e.length = σ.n0 := by rw [σn]; exact hA.len
  have hoo : ρ.o.length = σ.m0 := by rw [σm]; exact hA.lenO
  have hxx : σ.xs.all (SI.ok σ.n0) = true := by rw [σx, σn]; exact c3
  have hpp : σ.os.all (fun p => Nat.blt p.1 σ.m0) = true := by rw [σo, σm]; exact c4
  obtain ⟨f1, f2, f3⟩ := chkFin_spec c8
  split at h
  case isFalse => cases h
  rename_i hok
  simp only [Bool.and_eq_true] at hok
  obtain ⟨hok1, hok2⟩ := hok
  simp only [Option.some.injEq, Prod.mk.injEq] at h
  obtain ⟨hs', hsv, hnd⟩ := h
  generalize hmm : memOf s σ (ini e.args).mem (fin e).mem = mm at hs' hok1 hok2
  -- the contract's environment
  generalize hb : (σ.env ρ.e ρ.o).1 = cb
  generalize hbs : (σ.env ρ.e ρ.o).2 = cbs
  have hcb : cb = xs.map (·.val ρ.e) := by rw [← hb]; simp [Sub.env, σx]
  have hcbl : cb.length = (ini e.args).n := by rw [hcb]; simpa using c1
  have hcbsl : cbs.length = (ini e.args).mem.length := by rw [← hbs]; simp [Sub.env, σo]; exact c2
  have hpre : e.free = false → e.Pre cb := by
    intro hf
    rw [hf] at hnd
    have := hn ⟨s.defs, s.asm, j, xs⟩ (by rw [← hnd]; simp)
    unfold Need.holds at this
    simp only [← hA.env, hj] at this
    rw [hcb]
    exact this hA.asm
  have objEq : ∀ (p : Nat), p < σ.os.length → En.blk ⟨cb, cbs⟩ p = ρ.blk (σ.os.getD p (0, 0)).1 ∧ En.off ⟨cb, cbs⟩ p = ρ.off (σ.os.getD p (0, 0)).1 + (σ.os.getD p (0, 0)).2 := by
    intro p hp
    have := Sub.blk_env he hoo hxx hpp [] [] p hp
    simpa [hb, hbs] using this
  have getQ : ∀ {p : Nat} {q : Nat × Nat}, σ.os[p]? = some q → p < σ.os.length ∧ σ.os.getD p (0, 0) = q := by
    intro p q hq
    obtain ⟨h1, h2⟩ := List.getElem?_eq_some_iff.1 hq
    exact ⟨h1, by simp [List.getD, hq]⟩
  have hlen : σ.os.length = (ini e.args).mem.length := by rw [σo]; exact c2
  have denEq0 : ∀ c : SC, (σ.sc c).den ρ = c.den ⟨cb, cbs⟩ := by
    intro c
    have := Sub.sc_den he hoo hxx hpp [] [] c
    simpa [hb, hbs] using this
  have hargs : (ini e.args).args.map (SV.den ⟨cb, cbs⟩) = vs.map (SV.den ρ) := by
    rw [← c5, List.map_map]
    refine List.map_congr_left fun v _ => ?_
    have := Sub.sv_den he hoo hxx hpp [] [] v
    simp only [List.append_nil, hb, hbs] at this
    exact this.symm
  have hdef := hA.define (.app j xs ((fin e).n - (ini e.args).n))
  have hev : Def.ev Γ ρ.e (.app j xs ((fin e).n - (ini e.args).n)) = fit ((fin e).n - (ini e.args).n) (e.F cb) := by
    simp only [Def.ev, hj, hcb]
  rw [hev] at hdef
  simp only [fit_length] at hdef
  refine ⟨fit ((fin e).n - (ini e.args).n) (e.F cb), ?_, ?_, by rw [← hs'], by rw [← hs'], by rw [← hs'], by rw [← hs']; simp, ?_⟩
  · intro hq
    rw [hq] at c9
    simp only [Bool.not_true, Bool.false_or] at c9
    have hmo : memOf s σ (ini e.args).mem (fin e).mem = s.mem := by unfold memOf; rw [if_pos c9]
    rw [hmm] at hmo
    subst hmo
    subst hs'
    exact ⟨hdef, rfl⟩
  · rw [← hs', ← hsv]; exact hok2
  intro w hM
  have hmem : MemOk w ⟨cb, cbs⟩ (ini e.args).mem := by
    intro p so hp
    obtain ⟨q, so', h1, h2, h3, h4, h5, h6⟩ := chkMem_spec c6 hp
    obtain ⟨hpl, hq⟩ := getQ h1
    obtain ⟨b1, b2⟩ := objEq p hpl
    rw [hq] at b1 b2
    have g := hM.objs q.1 so' h2
    refine ⟨by rw [b1]; exact g.blk, fun i c hc => ?_, fun hw i hi => ?_⟩
    · rw [b1, b2, ← denEq0, Nat.add_assoc]
      exact g.cell _ _ (chkMem_cells h3 hc)
    · rw [b1, b2, Nat.add_assoc]
      exact g.thaw (h4 hw) _ (by omega)
  have hdis : Dis ⟨cb, cbs⟩ (ini e.args).mem := by
    intro p q a b hne hp hq hw
    obtain ⟨x, a', h1, h2, h3, h4, h5, h6⟩ := chkMem_spec c6 hp
    obtain ⟨y, b', g1, g2, g3, g4, g5, g6⟩ := chkMem_spec c6 hq
    obtain ⟨hpl, hx'⟩ := getQ h1
    obtain ⟨hql, hy'⟩ := getQ g1
    obtain ⟨b1, b2⟩ := objEq p hpl
    obtain ⟨b3, b4⟩ := objEq q hql
    rw [hx'] at b1 b2
    rw [hy'] at b3 b4
    rw [b1, b2, b3, b4]
    by_cases hbe : x.1 = y.1
    · rcases chkDis_spec c7 hp hq h1 g1 hne hw with d | d
      · exact (d hbe).elim
      · right; rw [hbe]; omega
    · rcases hM.dis x.1 y.1 a' b' hbe h2 g2 (h4 hw) with d | d | d
      · exact .inl d
      · right; left; omega
      · right; right; omega
  rw [← hargs]
  refine (hm cb cbs w hcbl hcbsl hpre hmem hdis).mono fun en w' ⟨nb, n1, n2, n3, n4, n5, n6⟩ => ?_
  generalize hl : fit ((fin e).n - (ini e.args).n) (e.F cb) = l at *
  have henv : e.env cb cbs nb = ⟨cb ++ l, cbs ++ nb⟩ := by simp only [Entry.env, hl]
  rw [henv] at n3 n4 n5
  obtain ⟨m1, m2⟩ := memOf_spec (s := s) (σ := σ) f1
  rw [hmm] at m1 m2
  have hml : mm.length = s.mem.length + nb.length := by omega
  have denEq : ∀ c : SC, (σ.sc c).den ⟨ρ.e ++ l, ρ.o ++ nb⟩ = c.den ⟨cb ++ l, cbs ++ nb⟩ := by
    intro c
    have := Sub.sc_den he hoo hxx hpp l nb c
    simpa [hb, hbs] using this
  have objNew : ∀ (p : Nat), p < σ.os.length → En.blk ⟨cb ++ l, cbs ++ nb⟩ p = ρ.blk (σ.os.getD p (0, 0)).1 ∧
      En.off ⟨cb ++ l, cbs ++ nb⟩ p = ρ.off (σ.os.getD p (0, 0)).1 + (σ.os.getD p (0, 0)).2 := by
    intro p hp
    rw [En.blk_ext cb (cb ++ l) cbs _ p (by rw [hcbsl, ← hlen]; exact hp), En.off_ext cb (cb ++ l) cbs _ p (by rw [hcbsl, ← hlen]; exact hp)]
    exact objEq p hp
  have objOld : ∀ (o : Nat), o < s.mem.length → En.blk ⟨ρ.e ++ l, ρ.o ++ nb⟩ o = ρ.blk o ∧ En.off ⟨ρ.e ++ l, ρ.o ++ nb⟩ o = ρ.off o := fun o ho' =>
    ⟨En.blk_ext ρ.e _ ρ.o _ o (by rw [hA.lenO]; exact ho'), En.off_ext ρ.e _ ρ.o _ o (by rw [hA.lenO]; exact ho')⟩
  have objFresh : ∀ (o : Nat), s.mem.length ≤ o → o < s.mem.length + nb.length → ∃ b, nb[o - s.mem.length]? = some b ∧ En.blk ⟨ρ.e ++ l, ρ.o ++ nb⟩ o = b.1 := fun o h1 h2 => by
    have hlt : o - s.mem.length < nb.length := by omega
    refine ⟨nb[o - s.mem.length], List.getElem?_eq_getElem hlt, ?_⟩
    simp only [En.blk, List.getD]
    rw [List.getElem?_append_right (by rw [hA.lenO]; exact h1), hA.lenO]
    simp [hlt]
  have hA' : RelA Γ base ⟨ρ.e ++ l, ρ.o ++ nb⟩ s' a := by
    have := hdef.objs mm nb (by simp [hml])
    rw [← hs']
    exact this
  refine ⟨nb, ?_, hA', ⟨?_, ?_, ?_, ?_, ?_, ?_⟩, ?_⟩
  · intro hq
    rw [hq] at c9
    simp only [Bool.not_true, Bool.false_or, stillB, Bool.and_eq_true] at c9
    have := Nat.eq_of_beq_eq_true c9.2
    have : nb.length = 0 := by omega
    rw [List.length_eq_zero_iff.1 this]
  · intro o so hso
    rw [← hs'] at hso
    rcases m2 o so hso with ⟨so0, h0, e1, e2, e3⟩ | ⟨hge, fo, hfo, rfl⟩
    · have hol := mem_lt h0
      have g := hM.objs o so0 h0
      obtain ⟨b1, b2⟩ := objOld o hol
      refine ⟨by rw [b1]; exact Nat.lt_of_lt_of_le g.blk n6.size, fun i c hc => ?_, fun hw i hi => ?_⟩
      · rcases e3 i c hc with ⟨p, sp, fo, q, a1, a2, a3, a4, a5, a6, a7⟩ | ⟨x1, x2⟩
        · obtain ⟨hpl, hq⟩ := getQ a3
          obtain ⟨b3, b4⟩ := objNew p hpl
          rw [hq] at b3 b4
          rw [List.getElem?_map] at a7
          obtain ⟨cc, hcc, rfl⟩ := Option.map_eq_some_iff.1 a7
          have := (n5 p fo a2).cell _ _ hcc
          rw [b3, b4, a5] at this
          rw [b1, b2, denEq, ← this]
          congr 2
          omega
        · have hden : c.den ⟨ρ.e ++ l, ρ.o ++ nb⟩ = c.den ρ :=
            SC.den_ext (by rw [hA.len, hA.lenO]; exact List.all_eq_true.1 (hM.ok o so0 h0) c (List.mem_of_getElem? x1))
          rw [b1, b2, hden, n6.cell g.blk]
          · exact g.cell i c x1
          · rintro ⟨p, sp, a1, a4, k1, k2, k3⟩
            obtain ⟨q, so', h1, h2, h3, h4, h5, h6⟩ := chkMem_spec c6 a1
            obtain ⟨hpl, hq⟩ := getQ h1
            obtain ⟨b3, b4⟩ := objEq p hpl
            rw [hq] at b3 b4
            obtain ⟨fo, hfo⟩ := fin_get (fmem := (fin e).mem) (p := p) (by have := mem_lt a1; omega)
            have hfl := f2 p sp fo a1 hfo
            have hi0 : i < so0.cells.length := (List.getElem?_eq_some_iff.1 x1).1
            by_cases hqo : q.1 = o
            · exact x2 p sp fo q a1 hfo h1 a4 ⟨hqo, by rw [b4, hqo] at k2; omega, by rw [b4, hqo] at k3; omega⟩
            · rcases hM.dis q.1 o so' so0 hqo h2 h0 (h4 a4) with d | d | d
              · exact d (b3.symm.trans k1)
              · omega
              · omega
      · rw [b1, b2, n6.frozen g.blk]
        exact g.thaw (by rw [← e1]; exact hw) i (by omega)
    · have hol : o < s.mem.length + nb.length := by rw [← hml]; exact mem_lt hso
      obtain ⟨b, hb1, hb2⟩ := objFresh o hge hol
      have hp := Sub.blk_new he hoo hxx hpp l nb ((ini e.args).mem.length + (o - s.mem.length)) (by rw [hlen]; omega)
      rw [hb, hbs, σm, hlen, show s.mem.length + ((ini e.args).mem.length + (o - s.mem.length) - (ini e.args).mem.length) = o by omega] at hp
      have g := n5 _ fo hfo
      refine ⟨by rw [← hp.1]; exact g.blk, fun i c hc => ?_, fun hw i hi => ?_⟩
      · simp only [List.getElem?_map] at hc
        obtain ⟨cc, hcc, rfl⟩ := Option.map_eq_some_iff.1 hc
        rw [← hp.1, ← hp.2, denEq]
        exact g.cell i cc hcc
      · rw [← hp.1, ← hp.2]
        exact g.thaw (f3 _ fo (by omega) hfo) i (by simpa using hi)
  · intro o so hso
    rw [← hs'] at hso ⊢
    exact List.all_eq_true.1 hok1 so (List.mem_of_getElem? hso)
  · intro o o' so so' hne hso hso' hw
    rw [← hs'] at hso hso'
    have hlt := mem_lt hso
    have hlt' := mem_lt hso'
    rcases m2 o so hso with ⟨so0, h0, e1, e2, _⟩ | ⟨hge, fo, hfo, rfl⟩ <;> rcases m2 o' so' hso' with ⟨so0', h0', e1', e2', _⟩ | ⟨hge', fo', hfo', rfl⟩
    · rw [(objOld o (mem_lt h0)).1, (objOld o (mem_lt h0)).2, (objOld o' (mem_lt h0')).1, (objOld o' (mem_lt h0')).2, e2, e2']
      exact hM.dis o o' so0 so0' hne h0 h0' (by rw [← e1]; exact hw)
    · obtain ⟨b, hb1, hb2⟩ := objFresh o' hge' (by rw [← hml]; exact hlt')
      left
      rw [(objOld o (mem_lt h0)).1, hb2]
      have := (hM.objs o so0 h0).blk
      have := n2 b (List.mem_of_getElem? hb1)
      omega
    · obtain ⟨b, hb1, hb2⟩ := objFresh o hge (by rw [← hml]; exact hlt)
      left
      rw [(objOld o' (mem_lt h0')).1, hb2]
      have := (hM.objs o' so0' h0').blk
      have := n2 b (List.mem_of_getElem? hb1)
      omega
    · have hp := Sub.blk_new he hoo hxx hpp l nb ((ini e.args).mem.length + (o - s.mem.length)) (by rw [hlen]; omega)
      have hp' := Sub.blk_new he hoo hxx hpp l nb ((ini e.args).mem.length + (o' - s.mem.length)) (by rw [hlen]; omega)
      rw [hb, hbs, σm, hlen, show s.mem.length + ((ini e.args).mem.length + (o - s.mem.length) - (ini e.args).mem.length) = o by omega] at hp
      rw [hb, hbs, σm, hlen, show s.mem.length + ((ini e.args).mem.length + (o' - s.mem.length) - (ini e.args).mem.length) = o' by omega] at hp'
      have := n3 _ _ fo fo' (by omega) hfo hfo' (f3 _ fo (by omega) hfo)
      rw [hp.1, hp.2, hp'.1, hp'.2] at this
      simpa using this
  · intro o so hso hw
    rw [← hs'] at hso
    rcases m2 o so hso with ⟨so0, h0, e1, e2, _⟩ | ⟨hge, fo, hfo, rfl⟩
    · rw [(objOld o (mem_lt h0)).1, (objOld o (mem_lt h0)).2, e2]
      exact hM.own o so0 h0 (by rw [← e1]; exact hw)
    · obtain ⟨b, hb1, hb2⟩ := objFresh o hge (by rw [← hml]; exact mem_lt hso)
      left
      rw [hb2]
      have := n2 b (List.mem_of_getElem? hb1)
      have := hM.fr.size
      omega
  · refine hM.fr.trans n6 fun k i hk hW => ?_
    obtain ⟨p, sp, a1, a4, k1, k2, k3⟩ := hW
    obtain ⟨q, so', h1, h2, h3, h4, h5, h6⟩ := chkMem_spec c6 a1
    obtain ⟨hpl, hq⟩ := getQ h1
    obtain ⟨b3, b4⟩ := objEq p hpl
    rw [hq] at b3 b4
    rcases hM.own q.1 so' h2 (h4 a4) with d | d
    · omega
    · have := d (i - ρ.off q.1) (by omega)
      rw [← b3, k1, show ρ.off q.1 + (i - ρ.off q.1) = i by omega] at this
      exact this
  · obtain ⟨p, hp⟩ := hM.pre
    exact ⟨p ++ nb, by simp [hp]⟩
  · rw [n4, ← hsv]
    have := Sub.sv_den he hoo hxx hpp l nb (retOf (fin e).res)
    rw [hb, hbs] at this
    rw [this]

end Go.Proofs.Ytfeancgmmonebaa.Sx
