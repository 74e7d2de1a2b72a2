/-
  Calls by contract: what a contract says, how a call is matched with one, and that the symbolic call is right. Conditions: none; each theorem bears its own.
-/
import Derived.Test.YtfeancgmmonebaaSxe
namespace Go.Proofs.Ytfeancgmmonebaa.Sx
open Go
set_option linter.unusedSectionVars false

/-! ## 1. What a contract says -/

def kcells : Nat → List CK → List SC
  | _, [] => []
  | n, k :: ks => mkSC k (.var n) :: kcells (n + 1) ks

structure Ini where
  args : List SV
  mem : List SO
  n : Nat

def iniArg (i : Ini) (a : ASh) : Ini :=
  match a with
  | .int k => ⟨i.args ++ [.one (.sc (.int k (.var i.n)))], i.mem, i.n + 1⟩
  | .bool => ⟨i.args ++ [.one (.sc (.bool (.var i.n)))], i.mem, i.n + 1⟩
  | .agg ks => ⟨i.args ++ [.one (.agg (kcells i.n ks))], i.mem, i.n + ks.length⟩
  | .ptr ks w => ⟨i.args ++ [.one (.sc (.ptr i.mem.length 0))], i.mem ++ [⟨kcells i.n ks, w⟩], i.n + ks.length⟩
  | .slice ks cap w => ⟨i.args ++ [.one (.sc (.slice i.mem.length 0 ks.length cap))], i.mem ++ [⟨kcells i.n ks, w⟩], i.n + ks.length⟩
  | .same j => ⟨i.args ++ [i.args.getD j (.tup [])], i.mem, i.n⟩
  | .cst v => ⟨i.args ++ [(ofValue v).getD (.tup [])], i.mem, i.n⟩

def ini (shs : List ASh) : Ini := shs.foldl iniArg ⟨[], [], 0⟩

def rekey : Nat → List SC → List SC
  | _, [] => []
  | n, .int k _ :: r => .int k (.var n) :: rekey (n + 1) r
  | n, .bool _ :: r => .bool (.var n) :: rekey (n + 1) r
  | n, c :: r => c :: rekey (n + 1) r

def finMem : Nat → List SO → List SO × Nat
  | n, [] => ([], n)
  | n, so :: r =>
    if so.w then (⟨rekey n so.cells, true⟩ :: (finMem (n + so.cells.length) r).1, (finMem (n + so.cells.length) r).2)
    else (so :: (finMem n r).1, (finMem n r).2)

structure Fin where
  res : List S1
  mem : List SO
  n : Nat

def finRes (i : Ini) (f : Fin) (r : RSh) : Fin :=
  match r with
  | .int k => ⟨f.res ++ [.sc (.int k (.var f.n))], f.mem, f.n + 1⟩
  | .bool => ⟨f.res ++ [.sc (.bool (.var f.n))], f.mem, f.n + 1⟩
  | .agg ks => ⟨f.res ++ [.agg (kcells f.n ks)], f.mem, f.n + ks.length⟩
  | .arg j => match i.args[j]? with
    | some (.one v) => ⟨f.res ++ [v], f.mem, f.n⟩
    | _ => f
  | .new ks => ⟨f.res ++ [.sc (.ptr f.mem.length 0)], f.mem ++ [⟨kcells f.n ks, true⟩], f.n + ks.length⟩
  | .cst v => match ofValue v with
    | some (.one x) => ⟨f.res ++ [x], f.mem, f.n⟩
    | _ => f

def fin (e : Entry) : Fin := e.res.foldl (finRes (ini e.args)) ⟨[], (finMem (ini e.args).n (ini e.args).mem).1, (finMem (ini e.args).n (ini e.args).mem).2⟩

def retOf (l : List S1) : SV :=
  match l with
  | [v] => .one v
  | vs => .tup vs

def WOf (ρ : En) (mem : List SO) (k j : Nat) : Prop := ∃ (o : Nat) (so : SO), mem[o]? = some so ∧ so.w = true ∧ ρ.blk o = k ∧ ρ.off o ≤ j ∧ j < ρ.off o + so.cells.length

def MemOk (w : World) (ρ : En) (mem : List SO) : Prop := ∀ (o : Nat) (so : SO), mem[o]? = some so → ObjOk w ρ o so

/-- The environment behind a call: the numbers that it gives, the blocks that it makes. -/
def Entry.env (e : Entry) (base : List Int) (bs nb : List (Nat × Nat)) : En :=
  ⟨base ++ fit ((fin e).n - (ini e.args).n) (e.F base), bs ++ nb⟩

/-- What a call comes to: of a function with a body; of one that the model answers for itself. -/
def CallOk (P : Program) (f : FuncId) (args : Array Value) (w : World) (R : Ending → World → Prop) : Prop :=
  ((callFunc f args).run P w = .ok (.enter f args) w ∧ Calls P f args w R) ∨ ∃ v, (callFunc f args).run P w = .ok (.value v) w ∧ R (.returned v) w

theorem CallOk.mono {P : Program} {f : FuncId} {args : Array Value} {w : World} {R R' : Ending → World → Prop} (h : CallOk P f args w R) (hr : ∀ e w', R e w' → R' e w') : CallOk P f args w R' := by
  rcases h with ⟨h1, h2⟩ | ⟨v, h1, h2⟩
  · exact .inl ⟨h1, h2.mono hr⟩
  · exact .inr ⟨v, h1, hr _ _ h2⟩

def Meets (P : Program) (e : Entry) : Prop :=
  ∀ (base : List Int) (bs : List (Nat × Nat)) (w : World), base.length = (ini e.args).n → bs.length = (ini e.args).mem.length → (e.free = false → e.Pre base) →
    MemOk w ⟨base, bs⟩ (ini e.args).mem → Dis ⟨base, bs⟩ (ini e.args).mem →
    CallOk P e.f ((ini e.args).args.map (SV.den ⟨base, bs⟩)).toArray w fun en w' =>
      ∃ nb : List (Nat × Nat), (ini e.args).mem.length + nb.length = (fin e).mem.length ∧ (∀ q ∈ nb, w.heap.size ≤ q.1) ∧ Dis (e.env base bs nb) (fin e).mem ∧
        en = .returned ((retOf (fin e).res).den (e.env base bs nb)) ∧ MemOk w' (e.env base bs nb) (fin e).mem ∧ Fr (WOf ⟨base, bs⟩ (ini e.args).mem) w w'

/-! ## 2. A contract's symbols, at a call -/

structure Sub where
  xs : List SI
  n0 : Nat
  os : List (Nat × Nat)
  m0 : Nat

def Sub.si (σ : Sub) : SI → SI
  | .lit n => .lit n
  | .var i => if Nat.blt i σ.xs.length then σ.xs.getD i (.lit 0) else .var (σ.n0 + (i - σ.xs.length))

def Sub.sc (σ : Sub) : SC → SC
  | .int k x => .int k (σ.si x)
  | .bool x => .bool (σ.si x)
  | .ptr o d => if Nat.blt o σ.os.length then .ptr (σ.os.getD o (0, 0)).1 ((σ.os.getD o (0, 0)).2 + d) else .ptr (σ.m0 + (o - σ.os.length)) d
  | .slice o d l c => if Nat.blt o σ.os.length then .slice (σ.os.getD o (0, 0)).1 ((σ.os.getD o (0, 0)).2 + d) l c else .slice (σ.m0 + (o - σ.os.length)) d l c
  | .cv v => .cv v

def Sub.s1 (σ : Sub) : S1 → S1
  | .sc c => .sc (σ.sc c)
  | .agg cs => .agg (cs.map σ.sc)

def Sub.sv (σ : Sub) : SV → SV
  | .one v => .one (σ.s1 v)
  | .tup vs => .tup (vs.map σ.s1)

/-- The contract's environment behind a call that is made in the environment (e, o). -/
def Sub.env (σ : Sub) (e : List Int) (o : List (Nat × Nat)) : List Int × List (Nat × Nat) :=
  (σ.xs.map (·.val e), σ.os.map fun p => (En.blk ⟨e, o⟩ p.1, En.off ⟨e, o⟩ p.1 + p.2))

section
variable {σ : Sub} {e : List Int} {o : List (Nat × Nat)} (he : e.length = σ.n0) (ho : o.length = σ.m0) (hx : σ.xs.all (SI.ok σ.n0) = true) (hp : σ.os.all (fun p => Nat.blt p.1 σ.m0) = true)
include he ho hx hp

theorem Sub.si_val (l : List Int) (x : SI) : (σ.si x).val (e ++ l) = x.val ((σ.env e o).1 ++ l) := by
  cases x with
  | lit n => rfl
  | var i =>
    simp only [Sub.si]
    split
    · rename_i hi
      have hi : i < σ.xs.length := by simpa using hi
      have hok : (σ.xs[i]).ok e.length = true := by rw [he]; exact List.all_eq_true.1 hx _ (List.getElem_mem hi)
      have e1 : σ.xs.getD i (.lit 0) = σ.xs[i] := by simp [List.getD, List.getElem?_eq_getElem hi]
      rw [e1, SI.val_ext hok, SI.val_var]
      simp [Sub.env, List.getD, List.getElem?_append_left, hi]
    · rename_i hi
      have hi : σ.xs.length ≤ i := by simpa using hi
      simp only [SI.val_var, List.getD, Sub.env]
      rw [List.getElem?_append_right (by simp [he]), List.getElem?_append_right (by simpa using hi)]
      simp [he]

theorem Sub.blk_env (l : List Int) (nb : List (Nat × Nat)) (i : Nat) (hi : i < σ.os.length) :
    En.blk ⟨(σ.env e o).1 ++ l, (σ.env e o).2 ++ nb⟩ i = En.blk ⟨e ++ l, o ++ nb⟩ (σ.os.getD i (0, 0)).1 ∧
    En.off ⟨(σ.env e o).1 ++ l, (σ.env e o).2 ++ nb⟩ i = En.off ⟨e ++ l, o ++ nb⟩ (σ.os.getD i (0, 0)).1 + (σ.os.getD i (0, 0)).2 := by
  have e1 : σ.os.getD i (0, 0) = σ.os[i] := by simp [List.getD, List.getElem?_eq_getElem hi]
  have h1 : (σ.os[i]).1 < o.length := by
    have := List.all_eq_true.1 hp _ (List.getElem_mem hi)
    rw [ho]; simpa using this
  rw [e1, En.blk_ext e (e ++ l) o nb _ h1, En.off_ext e (e ++ l) o nb _ h1]
  constructor <;> simp [En.blk, En.off, Sub.env, List.getD, List.getElem?_append_left, hi]

theorem Sub.blk_new (l : List Int) (nb : List (Nat × Nat)) (i : Nat) (hi : σ.os.length ≤ i) :
    En.blk ⟨(σ.env e o).1 ++ l, (σ.env e o).2 ++ nb⟩ i = En.blk ⟨e ++ l, o ++ nb⟩ (σ.m0 + (i - σ.os.length)) ∧
    En.off ⟨(σ.env e o).1 ++ l, (σ.env e o).2 ++ nb⟩ i = En.off ⟨e ++ l, o ++ nb⟩ (σ.m0 + (i - σ.os.length)) := by
  constructor <;>
  · simp only [En.blk, En.off, Sub.env, List.getD]
    rw [List.getElem?_append_right (by simpa using hi), List.getElem?_append_right (by simp [ho])]
    simp [ho]

theorem Sub.sc_den (l : List Int) (nb : List (Nat × Nat)) (c : SC) : (σ.sc c).den ⟨e ++ l, o ++ nb⟩ = c.den ⟨(σ.env e o).1 ++ l, (σ.env e o).2 ++ nb⟩ := by
  cases c with
  | int k x => simp only [Sub.sc, SC.den, Sub.si_val he ho hx hp]
  | bool x => simp only [Sub.sc, SC.den, Sub.si_val he ho hx hp]
  | ptr i d =>
    simp only [Sub.sc]
    split
    · rename_i hi
      have := Sub.blk_env he ho hx hp l nb i (by simpa using hi)
      simp only [SC.den, this.1, this.2, Nat.add_assoc]
    · rename_i hi
      have := Sub.blk_new he ho hx hp l nb i (by simpa using hi)
      simp only [SC.den, this.1, this.2]
  | slice i d n c =>
    simp only [Sub.sc]
    split
    · rename_i hi
      have := Sub.blk_env he ho hx hp l nb i (by simpa using hi)
      simp only [SC.den, this.1, this.2, Nat.add_assoc]
    · rename_i hi
      have := Sub.blk_new he ho hx hp l nb i (by simpa using hi)
      simp only [SC.den, this.1, this.2]
  | cv v => rfl

theorem Sub.s1_den (l : List Int) (nb : List (Nat × Nat)) (v : S1) : (σ.s1 v).den ⟨e ++ l, o ++ nb⟩ = v.den ⟨(σ.env e o).1 ++ l, (σ.env e o).2 ++ nb⟩ := by
  cases v with
  | sc c => exact Sub.sc_den he ho hx hp l nb c
  | agg cs =>
    simp only [Sub.s1, S1.den, List.map_map]
    rw [List.map_congr_left fun c _ => (show (SC.den ⟨e ++ l, o ++ nb⟩ ∘ σ.sc) c = _ from Sub.sc_den he ho hx hp l nb c)]

theorem Sub.sv_den (l : List Int) (nb : List (Nat × Nat)) (v : SV) : (σ.sv v).den ⟨e ++ l, o ++ nb⟩ = v.den ⟨(σ.env e o).1 ++ l, (σ.env e o).2 ++ nb⟩ := by
  cases v with
  | one v => exact Sub.s1_den he ho hx hp l nb v
  | tup vs =>
    simp only [Sub.sv, SV.den, List.map_map]
    rw [List.map_congr_left fun c _ => (show (S1.den ⟨e ++ l, o ++ nb⟩ ∘ σ.s1) c = _ from Sub.s1_den he ho hx hp l nb c)]

end

/-! ## 3. Equality of symbols, as a Bool -/

def kindEq (a b : IntKind) : Bool := decide (a = b)

def cvEq : Value → Value → Bool
  | .pointer none, .pointer none => true
  | .nilIface, .nilIface => true
  | .slice none 0 0, .slice none 0 0 => true
  | _, _ => false

theorem cvEq_eq {a b : Value} (h : cvEq a b = true) : a = b := by
  unfold cvEq at h
  split at h <;> first | rfl | cases h

def SC.beq : SC → SC → Bool
  | .int k x, .int k' x' => kindEq k k' && x.beq x'
  | .bool x, .bool x' => x.beq x'
  | .ptr o d, .ptr o' d' => Nat.beq o o' && Nat.beq d d'
  | .slice o d l c, .slice o' d' l' c' => Nat.beq o o' && Nat.beq d d' && Nat.beq l l' && Nat.beq c c'
  | .cv a, .cv b => cvEq a b
  | _, _ => false

theorem SI.beq_eq {x y : SI} (h : x.beq y = true) : x = y := by
  cases x <;> cases y <;> simp [SI.beq] at h <;> simp [h]

theorem SC.beq_eq {x y : SC} (h : x.beq y = true) : x = y := by
  cases x <;> cases y <;> simp only [SC.beq, Bool.and_eq_true, kindEq, decide_eq_true_eq, Bool.false_eq_true] at h
  · rw [h.1, SI.beq_eq h.2]
  · rw [SI.beq_eq h]
  · rw [Nat.eq_of_beq_eq_true h.1, Nat.eq_of_beq_eq_true h.2]
  · rw [Nat.eq_of_beq_eq_true h.1.1.1, Nat.eq_of_beq_eq_true h.1.1.2, Nat.eq_of_beq_eq_true h.1.2, Nat.eq_of_beq_eq_true h.2]
  · rw [cvEq_eq h]

def lbeq {α : Type} (f : α → α → Bool) : List α → List α → Bool
  | [], [] => true
  | a :: l, b :: m => f a b && lbeq f l m
  | _, _ => false

theorem lbeq_eq {α : Type} {f : α → α → Bool} (hf : ∀ a b, f a b = true → a = b) : ∀ (l m : List α), lbeq f l m = true → l = m
  | [], [], _ => rfl
  | a :: l, b :: m, h => by
    simp only [lbeq, Bool.and_eq_true] at h
    rw [hf a b h.1, lbeq_eq hf l m h.2]
  | [], _ :: _, h => by simp [lbeq] at h
  | _ :: _, [], h => by simp [lbeq] at h

def S1.beq : S1 → S1 → Bool
  | .sc a, .sc b => a.beq b
  | .agg a, .agg b => lbeq SC.beq a b
  | _, _ => false

theorem S1.beq_eq (x y : S1) (h : x.beq y = true) : x = y := by
  cases x <;> cases y <;> simp only [S1.beq, Bool.false_eq_true] at h
  · rw [SC.beq_eq h]
  · rw [lbeq_eq (fun _ _ => SC.beq_eq) _ _ h]

def SV.beq : SV → SV → Bool
  | .one a, .one b => a.beq b
  | .tup a, .tup b => lbeq S1.beq a b
  | _, _ => false

theorem SV.beq_eq (x y : SV) (h : x.beq y = true) : x = y := by
  cases x <;> cases y <;> simp only [SV.beq, Bool.false_eq_true] at h
  · rw [S1.beq_eq _ _ h]
  · rw [lbeq_eq S1.beq_eq _ _ h]

/-! ## 4. The call -/

def siOf : List SC → List SI
  | [] => []
  | .int _ x :: r => x :: siOf r
  | .bool x :: r => x :: siOf r
  | _ :: r => .lit 0 :: siOf r

def exArg (s : St) (a : ASh) (v : SV) : List SI × List (Nat × Nat) :=
  match a, v with
  | .int _, .one (.sc (.int _ x)) => ([x], [])
  | .bool, .one (.sc (.bool x)) => ([x], [])
  | .agg _, .one (.agg cs) => (siOf cs, [])
  | .ptr ks _, .one (.sc (.ptr o d)) =>
    match s.mem[o]? with
    | some so => (siOf ((so.cells.drop d).take ks.length), [(o, d)])
    | none => ([], [])
  | .slice ks _ _, .one (.sc (.slice o d _ _)) =>
    match s.mem[o]? with
    | some so => (siOf ((so.cells.drop d).take ks.length), [(o, d)])
    | none => ([], [])
  | _, _ => ([], [])

def exArgs (s : St) : List ASh → List SV → List SI × List (Nat × Nat)
  | a :: as, v :: vs => ((exArg s a v).1 ++ (exArgs s as vs).1, (exArg s a v).2 ++ (exArgs s as vs).2)
  | _, _ => ([], [])

/-- Object p of the contract is a part of the caller's object os[p]. -/
def chkMem (s : St) (σ : Sub) (mem : List SO) : Bool :=
  (List.range mem.length).all fun p =>
    match mem[p]?, σ.os[p]? with
    | some so, some q =>
      match s.mem[q.1]? with
      | some so' => !so.cells.isEmpty && lbeq SC.beq (so.cells.map σ.sc) ((so'.cells.drop q.2).take so.cells.length) && (!so.w || so'.w)
      | none => false
    | _, _ => false

def chkDis (σ : Sub) (mem : List SO) : Bool :=
  (List.range mem.length).all fun p => (List.range mem.length).all fun q =>
    match mem[p]?, mem[q]?, σ.os[p]?, σ.os[q]? with
    | some a, some b, some x, some y => Nat.beq p q || !a.w || !(Nat.beq x.1 y.1) || Nat.ble (x.2 + a.cells.length) y.2 || Nat.ble (y.2 + b.cells.length) x.2
    | _, _, _, _ => false

def wrOf (σ : Sub) (mem fmem : List SO) (p : Nat) : Option Wr :=
  match mem[p]?, fmem[p]?, σ.os[p]? with
  | some so, some fo, some q => if so.w then some ⟨q.1, q.2, fo.cells.map σ.sc⟩ else none
  | _, _, _ => none

def chkFin (mem fmem : List SO) : Bool :=
  Nat.ble mem.length fmem.length && ((List.range mem.length).all fun p =>
    match mem[p]?, fmem[p]? with
    | some so, some fo => Nat.beq so.cells.length fo.cells.length
    | _, _ => false) && (fmem.drop mem.length).all (·.w)

def stillB (mem fmem : List SO) : Bool := mem.all (fun so => !so.w) && Nat.beq fmem.length mem.length

def memOf (s : St) (σ : Sub) (mem fmem : List SO) : List SO :=
  if stillB mem fmem then s.mem else
    writes s.mem ((List.range mem.length).filterMap (wrOf σ mem fmem)) ++ (fmem.drop mem.length).map fun so => ⟨so.cells.map σ.sc, true⟩

def callE (quiet : Bool) (s : St) (e : Entry) (j : Nat) (vs : List SV) : Option (St × SV × List Need) :=
  let i := ini e.args
  let f := fin e
  let x := exArgs s e.args vs
  let σ : Sub := ⟨x.1, s.n, x.2, s.mem.length⟩
  let m := f.n - i.n
  if Nat.beq x.1.length i.n && Nat.beq x.2.length i.mem.length && x.1.all (SI.ok s.n) && x.2.all (fun p => Nat.blt p.1 s.mem.length)
      && lbeq SV.beq (i.args.map σ.sv) vs && chkMem s σ i.mem && chkDis σ i.mem && chkFin i.mem f.mem
      && (!quiet || stillB i.mem f.mem) then
    let mem' := memOf s σ i.mem f.mem
    if mem'.all (fun so => so.cells.all (SC.ok (s.n + m) mem'.length)) && (σ.sv (retOf f.res)).ok (s.n + m) mem'.length then
      some ({ s with mem := mem', n := s.n + m, defs := .app j x.1 m :: s.defs }, σ.sv (retOf f.res), if e.free then [] else [⟨s.defs, s.asm, j, x.1⟩])
    else none
  else none

end Go.Proofs.Ytfeancgmmonebaa.Sx
