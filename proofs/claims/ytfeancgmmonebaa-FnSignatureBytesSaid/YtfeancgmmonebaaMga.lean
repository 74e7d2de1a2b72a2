/-
  A symbolic executor for straight-line Go code in the model: its data and its step on one operation. Conditions: none; definitions alone.
-/
import Derived.WalkKit
namespace Go.Proofs.Ytfeancgmmonebaa.Sx
open Go

/-! ## 1. Symbolic data -/

/-- A symbolic number: known, or the i-th number of the environment. -/
inductive SI where
  | lit (n : Int)
  | var (i : Nat)

def SI.val (e : List Int) : SI → Int
  | .lit n => n
  | .var i => e.getD i 0

def SI.ok (n : Nat) : SI → Bool
  | .lit _ => true
  | .var i => Nat.blt i n

def SI.beq : SI → SI → Bool
  | .lit a, .lit b => decide (a = b)
  | .var i, .var j => Nat.beq i j
  | _, _ => false

def SI.lit? : SI → Option Int
  | .lit n => some n
  | .var _ => none

/-- The environment: numbers, and where objects begin (block, offset). -/
structure En where
  e : List Int
  o : List (Nat × Nat)

def En.blk (ρ : En) (i : Nat) : Nat := (ρ.o.getD i (0, 0)).1
def En.off (ρ : En) (i : Nat) : Nat := (ρ.o.getD i (0, 0)).2

/-- A symbolic cell. -/
inductive SC where
  | int (k : IntKind) (x : SI)
  | bool (x : SI)
  | ptr (o d : Nat)
  | slice (o d len cap : Nat)
  | cv (v : Value)

def SC.den (ρ : En) : SC → Value
  | .int k x => .int k (x.val ρ.e)
  | .bool x => .bool (x.val ρ.e != 0)
  | .ptr o d => .pointer (some ⟨ρ.blk o, ρ.off o + d, none⟩)
  | .slice o d l c => .slice (some ⟨ρ.blk o, ρ.off o + d, none⟩) l c
  | .cv v => v

def SC.ok (n m : Nat) : SC → Bool
  | .int _ x => x.ok n
  | .bool x => x.ok n
  | .ptr o _ => Nat.blt o m
  | .slice o _ _ _ => Nat.blt o m
  | .cv v => v.oneCell'

inductive S1 where
  | sc (c : SC)
  | agg (cs : List SC)

def S1.den (ρ : En) : S1 → Value
  | .sc c => c.den ρ
  | .agg cs => .agg (cs.map (SC.den ρ)).toArray

def S1.ok (n m : Nat) : S1 → Bool
  | .sc c => c.ok n m
  | .agg cs => cs.all (SC.ok n m)

def S1.cells : S1 → List SC
  | .sc c => [c]
  | .agg cs => cs

inductive SV where
  | one (v : S1)
  | tup (vs : List S1)

def SV.den (ρ : En) : SV → Value
  | .one v => v.den ρ
  | .tup vs => .tuple (vs.map (S1.den ρ)).toArray

def SV.ok (n m : Nat) : SV → Bool
  | .one v => v.ok n m
  | .tup vs => vs.all (S1.ok n m)

def ofCell (v : Value) : Option SC :=
  match v with
  | .int k n => some (.int k (.lit n))
  | .bool b => some (.bool (.lit (if b then 1 else 0)))
  | .agg _ => none
  | .tuple _ => none
  | v => some (.cv v)

def ofCells : List Value → Option (List SC)
  | [] => some []
  | v :: vs => match ofCell v, ofCells vs with
    | some c, some cs => some (c :: cs)
    | _, _ => none

def ofValue (v : Value) : Option SV :=
  match v with
  | .agg cs => (ofCells cs.toList).map fun l => .one (.agg l)
  | .tuple vs => if vs.toList.isEmpty then some (.tup []) else none
  | v => (ofCell v).map fun c => .one (.sc c)

/-! ## 2. A trie for the frame -/

inductive Tr (α : Type) where
  | nil
  | node (l : Tr α) (v : Option α) (r : Tr α)

def Tr.get {α : Type} : Tr α → Nat → Option α
  | .nil, _ => none
  | .node l v r, n => if n = 0 then v else if n % 2 = 1 then l.get (n / 2) else r.get (n / 2 - 1)

def Tr.set {α : Type} : Nat → Tr α → Nat → Option α → Tr α
  | 0, _, _, _ => .nil
  | f + 1, .nil, n, x => if n = 0 then .node .nil x .nil else if n % 2 = 1 then .node (Tr.set f .nil (n / 2) x) none .nil else .node .nil none (Tr.set f .nil (n / 2 - 1) x)
  | f + 1, .node l v r, n, x => if n = 0 then .node l x r else if n % 2 = 1 then .node (Tr.set f l (n / 2) x) v r else .node l v (Tr.set f r (n / 2 - 1) x)

theorem Tr.get_set {α : Type} : ∀ (f : Nat) (t : Tr α) (n : Nat) (x : Option α) (m : Nat) (y : α), (Tr.set f t n x).get m = some y → (m = n ∧ x = some y) ∨ (m ≠ n ∧ t.get m = some y)
  | 0, _, _, _, _, _, h => by simp [Tr.set, Tr.get] at h
  | f + 1, .nil, n, x, m, y, h => by
    unfold Tr.set at h
    by_cases hn : n = 0
    · simp only [hn, if_true, Tr.get] at h
      by_cases hm : m = 0
      · simp only [hm, if_true] at h
        exact .inl ⟨by omega, h⟩
      · simp only [hm, if_false] at h
        split at h <;> simp at h
    · simp only [hn, if_false] at h
      by_cases hp : n % 2 = 1
      · simp only [hp, if_true, Tr.get] at h
        by_cases hm : m = 0
        · simp [hm] at h
        · simp only [hm, if_false] at h
          by_cases hq : m % 2 = 1
          · simp only [hq, if_true] at h
            rcases Tr.get_set f _ _ _ _ _ h with ⟨h1, h2⟩ | ⟨_, h2⟩
            · exact .inl ⟨by omega, h2⟩
            · simp [Tr.get] at h2
          · simp [hq] at h
      · simp only [hp, if_false, Tr.get] at h
        by_cases hm : m = 0
        · simp [hm] at h
        · simp only [hm, if_false] at h
          by_cases hq : m % 2 = 1
          · simp [hq] at h
          · simp only [hq, if_false] at h
            rcases Tr.get_set f _ _ _ _ _ h with ⟨h1, h2⟩ | ⟨_, h2⟩
            · exact .inl ⟨by omega, h2⟩
            · simp [Tr.get] at h2
  | f + 1, .node l v r, n, x, m, y, h => by
    unfold Tr.set at h
    by_cases hn : n = 0
    · simp only [hn, if_true, Tr.get] at h
      by_cases hm : m = 0
      · simp only [hm, if_true] at h
        exact .inl ⟨by omega, h⟩
      · exact .inr ⟨by omega, by simpa [Tr.get, hm] using h⟩
    · simp only [hn, if_false] at h
      by_cases hp : n % 2 = 1
      · simp only [hp, if_true, Tr.get] at h
        by_cases hm : m = 0
        · exact .inr ⟨by omega, by simpa [Tr.get, hm] using h⟩
        · simp only [hm, if_false] at h
          by_cases hq : m % 2 = 1
          · simp only [hq, if_true] at h
            rcases Tr.get_set f _ _ _ _ _ h with ⟨h1, h2⟩ | ⟨h1, h2⟩
            · exact .inl ⟨by omega, h2⟩
            · exact .inr ⟨by omega, by simpa [Tr.get, hm, hq] using h2⟩
          · exact .inr ⟨by omega, by simpa [Tr.get, hm, hq] using h⟩
      · simp only [hp, if_false, Tr.get] at h
        by_cases hm : m = 0
        · exact .inr ⟨by omega, by simpa [Tr.get, hm] using h⟩
        · simp only [hm, if_false] at h
          by_cases hq : m % 2 = 1
          · exact .inr ⟨by omega, by simpa [Tr.get, hm, hq] using h⟩
          · simp only [hq, if_false] at h
            rcases Tr.get_set f _ _ _ _ _ h with ⟨h1, h2⟩ | ⟨h1, h2⟩
            · exact .inl ⟨by omega, h2⟩
            · exact .inr ⟨by omega, by simpa [Tr.get, hm, hq] using h2⟩

/-! ## 3. Definitions of numbers, entries (contracts), states -/

def binEv (op : BinOp) (k : IntKind) (x y : Int) : Int :=
  match op with
  | .add => k.wrap (x + y)
  | .sub => k.wrap (x - y)
  | .mul => k.wrap (x * y)
  | .and => bits .and k x y
  | .or => bits .or k x y
  | .xor => bits .xor k x y
  | .andNot => bits .andNot k x y
  | .quo => k.wrap (x.tdiv y)
  | .rem => x.tmod y
  | .shl => k.wrap (x * 2 ^ (min y.toNat k.bits))
  | .shr => x.fdiv (2 ^ (min y.toNat k.bits))
  | .eql => if x = y then 1 else 0
  | .neq => if x = y then 0 else 1
  | .lss => if x < y then 1 else 0
  | .leq => if x ≤ y then 1 else 0
  | .gtr => if y < x then 1 else 0
  | .geq => if y ≤ x then 1 else 0

/-- Pairs that are alike: of numbers; of bools where 'b' says so. -/
def allEq : List Bool → List Int → Bool
  | b :: bs, x :: y :: r => (if b then (x != 0) == (y != 0) else decide (x = y)) && allEq bs r
  | _, _ => true

inductive Pr where
  | bin (op : BinOp) (k : IntKind)
  | conv (k : IntKind)
  | neg
  | beq
  | eqs (bs : List Bool)
  | nes (bs : List Bool)

def Pr.ev (p : Pr) (xs : List Int) : Int :=
  match p with
  | .bin op k => binEv op k (xs.getD 0 0) (xs.getD 1 0)
  | .conv k => k.wrap (xs.getD 0 0)
  | .neg => if xs.getD 0 0 = 0 then 1 else 0
  | .beq => if ((xs.getD 0 0 != 0) == (xs.getD 1 0 != 0)) = true then 1 else 0
  | .eqs bs => if allEq bs xs then 1 else 0
  | .nes bs => if allEq bs xs then 0 else 1

inductive Def where
  | pr (p : Pr) (xs : List SI)
  | app (j : Nat) (xs : List SI) (m : Nat)

def fit : Nat → List Int → List Int
  | 0, _ => []
  | m + 1, l => l.headD 0 :: fit m l.tail

theorem fit_length : ∀ (m : Nat) (l : List Int), (fit m l).length = m
  | 0, _ => rfl
  | m + 1, l => by simp [fit, fit_length m]

/-- The kind of a cell: an integer's kind, or (none) a bool. -/
abbrev CK := Option IntKind

inductive ASh where
  | int (k : IntKind)
  | bool
  | agg (ks : List CK)
  | ptr (ks : List CK) (w : Bool)
  | slice (ks : List CK) (cap : Nat) (w : Bool)
  | same (j : Nat)
  | cst (v : Value)

inductive RSh where
  | int (k : IntKind)
  | bool
  | agg (ks : List CK)
  | arg (j : Nat)
  | new (ks : List CK)
  | cst (v : Value)

/-- A contract: the function's number, the shapes of its arguments and results, what it computes, its condition, and whether it asks nothing. -/
structure Entry where
  f : FuncId
  args : List ASh
  res : List RSh
  F : List Int → List Int
  Pre : List Int → Prop := fun _ => True
  free : Bool := true

def noEntry : Entry := { f := 0, args := [], res := [], F := fun _ => [] }

def Def.ev (Γ : List Entry) (e : List Int) : Def → List Int
  | .pr p xs => [p.ev (xs.map (·.val e))]
  | .app j xs m => fit m ((Γ.getD j noEntry).F (xs.map (·.val e)))

/-- The environment behind some definitions, the newest first. -/
def runR (Γ : List Entry) : List Def → List Int → List Int
  | [], e => e
  | d :: ds, e => runR Γ ds e ++ d.ev Γ (runR Γ ds e)

structure SO where
  cells : List SC
  w : Bool

structure St where
  nt : Nat
  tm : Tr SV
  mem : List SO
  n : Nat
  defs : List Def
  asm : List (SI × Bool)

/-- What is owed: under these tests, at these definitions, that the entry's condition holds at these numbers. -/
structure Need where
  defs : List Def
  asm : List (SI × Bool)
  j : Nat
  xs : List SI

def asmHolds (e : List Int) (l : List (SI × Bool)) : Prop := ∀ c ∈ l, (c.1.val e != 0) = c.2

def Need.holds (Γ : List Entry) (base : List Int) (nd : Need) : Prop :=
  asmHolds (runR Γ nd.defs base) nd.asm → (Γ.getD nd.j noEntry).Pre (nd.xs.map (·.val (runR Γ nd.defs base)))

def St.get (s : St) : Operand → Option SV
  | .tmp t => s.tm.get t
  | .const v => ofValue v
  | .func f => some (.one (.sc (.cv (.func (.func f) #[] #[]))))
  | .global _ => none

def St.sc (s : St) (x : Operand) : Option SC :=
  match s.get x with
  | some (.one (.sc c)) => some c
  | _ => none

def mkSC (k : CK) (x : SI) : SC :=
  match k with
  | some k => .int k x
  | none => .bool x

inductive VRes where
  | val (v : SV)
  | prim (p : Pr) (xs : List SI) (k : CK)

def lits : List SI → Option (List Int)
  | [] => some []
  | .lit n :: r => (lits r).map (n :: ·)
  | .var _ :: _ => none

def St.give (s : St) : VRes → Option (St × SV)
  | .val v => if v.ok s.n s.mem.length then some (s, v) else none
  | .prim p xs k =>
    match lits xs with
    | some ns => some (s, .one (.sc (mkSC k (.lit (p.ev ns)))))
    | none => if xs.all (SI.ok s.n) then some ({ s with n := s.n + 1, defs := .pr p xs :: s.defs }, .one (.sc (mkSC k (.var s.n)))) else none

/-- A test, if it is known: a literal, or one that was taken. -/
def known (asm : List (SI × Bool)) (x : SI) : Option Bool :=
  match x with
  | .lit n => some (n != 0)
  | .var _ => (asm.find? fun c => c.1.beq x).map (·.2)

def isAggB (P : Program) (t : TypeId) : Option Bool :=
  match P.underlying t with
  | some (.struct _) => some true
  | some (.array _ _) => some true
  | some _ => some false
  | none => none

def szOf (P : Program) (t : TypeId) : Option Nat := (P.info? t).map (·.size)

def isCmp : BinOp → Bool
  | .eql | .neq | .lss | .leq | .gtr | .geq => true
  | _ => false

/-- The kinds of a type's cells, if it is made of integers, bools, arrays and structs of them. -/
def partOf (P : Program) (t : TypeId) (cs : List SC) (off : Nat) : Option SV :=
  match isAggB P t, szOf P t with
  | some true, some n => if decide (off + n ≤ cs.length) then some (.one (.agg ((cs.drop off).take n))) else none
  | some false, _ => (cs[off]?).map fun c => .one (.sc c)
  | _, _ => none

/-- The pairs that an equality of two arrays asks, 'f' at each element. -/
def eqArr (P : Program) (f : S1 → S1 → Option (List (Bool × SI × SI))) (el : TypeId) (n : Nat) (xs ys : List SC) : Nat → Nat → Option (List (Bool × SI × SI))
  | 0, _ => some []
  | m + 1, i => match partOf P el xs (i * n), partOf P el ys (i * n) with
    | some (.one u), some (.one v) => match f u v, eqArr P f el n xs ys m (i + 1) with
      | some l, some r => some (l ++ r)
      | _, _ => none
    | _, _ => none

def eqFld (P : Program) (f : TypeId → S1 → S1 → Option (List (Bool × SI × SI))) (xs ys : List SC) : List Field → Option (List (Bool × SI × SI))
  | [] => some []
  | g :: r => if g.name = "_" then none else
    match partOf P g.type xs g.offset, partOf P g.type ys g.offset with
    | some (.one u), some (.one v) => match f g.type u v, eqFld P f xs ys r with
      | some l, some r => some (l ++ r)
      | _, _ => none
    | _, _ => none

/-- The pairs that an equality of two values asks. -/
def eqV (P : Program) : Nat → TypeId → S1 → S1 → Option (List (Bool × SI × SI))
  | 0, _, _, _ => none
  | d + 1, t, x, y =>
    match P.underlying t, x, y with
    | some (.int _), .sc (.int k a), .sc (.int k' b) => if decide (k = k') then some [(false, a, b)] else none
    | some .bool, .sc (.bool a), .sc (.bool b) => some [(true, a, b)]
    | some (.array len el), .agg xs, .agg ys =>
      match szOf P el with
      | some n => eqArr P (eqV P d el) el n xs ys len 0
      | none => none
    | some (.struct fs), .agg xs, .agg ys => if P.stoodInHeld t then none else eqFld P (eqV P d) xs ys fs.toList
    | _, _, _ => none

def flat : List (Bool × SI × SI) → List SI
  | [] => []
  | t :: r => t.2.1 :: t.2.2 :: flat r

/-- 'cs' over the list from place 'd' on. -/
def over {α : Type} : Nat → List α → List α → List α
  | _, l, [] => l
  | _, [], _ => []
  | 0, _ :: l, c :: cs => c :: over 0 l cs
  | d + 1, x :: l, cs => x :: over d l cs

def fillV (place : Nat → Option (Nat × Nat)) (cells : List SC) : List (Nat × Operand) → (Operand → Option SV) → Option (List SC)
  | [], _ => some cells
  | (i, x) :: r, get =>
    match place i, get x with
    | some q, some (.one v) => if decide (v.cells.length = q.2) && decide (q.1 + q.2 ≤ cells.length) then fillV place (over q.1 cells v.cells) r get else none
    | _, _ => none

def litOpt (s : St) : Option Operand → Option (Option Int)
  | none => some none
  | some x => match s.get x with
    | some (.one (.sc (.int _ (.lit n)))) => some (some n)
    | _ => none

def binV (P : Program) (s : St) (op : BinOp) (T : TypeId) (x y : Operand) : Option VRes :=
  match s.get x, s.get y with
  | some (.one (.sc (.int k a))), some (.one (.sc (.int k' b))) =>
    match op with
    | .shl | .shr =>
      match b with
      | .lit n => if decide (0 ≤ n) then some (.prim (.bin op k) [a, b] (some k)) else none
      | .var _ => none
    | .quo | .rem =>
      match b with
      | .lit n => if decide (k = k') && !decide (n = 0) then some (.prim (.bin op k) [a, b] (some k)) else none
      | .var _ => none
    | op => if decide (k = k') then some (.prim (.bin op k) [a, b] (if isCmp op then none else some k)) else none
  | some (.one (.sc (.bool a))), some (.one (.sc (.bool b))) =>
    match op, P.underlying T with
    | .eql, some .bool => some (.prim .beq [a, b] none)
    | _, _ => none
  | some (.one (.agg xs)), some (.one (.agg ys)) =>
    if P.eqGuardType P.depth T then none else
    match op, eqV P 9 T (.agg xs) (.agg ys) with
    | .eql, some l => some (.prim (.eqs (l.map (·.1))) (flat l) none)
    | .neq, some l => some (.prim (.nes (l.map (·.1))) (flat l) none)
    | _, _ => none
  | _, _ => none

/-- An operation that neither writes nor makes memory, nor calls. -/
def opV (P : Program) (s : St) (op : Op) : Option VRes :=
  match op with
  | .move x | .assign x => (s.get x).map .val
  | .nilCheck x =>
    match s.get x with
    | some (.one (.sc (.ptr o d))) => some (.val (.one (.sc (.ptr o d))))
    | _ => none
  | .fieldAddr T x f =>
    match P.underlying T, s.get x with
    | some (.struct fs), some (.one (.sc (.ptr o d))) =>
      match fs[f]? with
      | some fl => match szOf P fl.type with
        | some n => if n = 0 then none else some (.val (.one (.sc (.ptr o (d + fl.offset)))))
        | none => none
      | none => none
    | _, _ => none
  | .indexAddr T x i =>
    match s.get i with
    | some (.one (.sc (.int _ (.lit n)))) =>
      match P.underlying T, s.get x with
      | some (.array len el), some (.one (.sc (.ptr o d))) =>
        match szOf P el with
        | some z => if decide (0 ≤ n) && decide (n < (len : Int)) then some (.val (.one (.sc (.ptr o (d + n.toNat * z))))) else none
        | none => none
      | some (.slice el), some (.one (.sc (.slice o d len _))) =>
        match szOf P el with
        | some z => if decide (0 ≤ n) && decide (n < (len : Int)) then some (.val (.one (.sc (.ptr o (d + n.toNat * z))))) else none
        | none => none
      | _, _ => none
    | _ => none
  | .load T x =>
    match s.get x with
    | some (.one (.sc (.ptr o d))) =>
      match s.mem[o]? with
      | some so =>
        match isAggB P T, szOf P T with
        | some true, some n => if decide (d + n ≤ so.cells.length) then some (.val (.one (.agg ((so.cells.drop d).take n)))) else none
        | some false, _ => (so.cells[d]?).map fun c => .val (.one (.sc c))
        | _, _ => none
      | none => none
    | _ => none
  | .binOp op T x y _ => binV P s op T x y
  | .unOp .not _ x =>
    match s.get x with
    | some (.one (.sc (.bool a))) => some (.prim .neg [a] none)
    | _ => none
  | .unOp .neg _ x =>
    match s.get x with
    | some (.one (.sc (.int k a))) => some (.prim (.bin .sub k) [.lit 0, a] (some k))
    | _ => none
  | .unOp .xor _ x =>
    match s.get x with
    | some (.one (.sc (.int k a))) => some (.prim (.bin .xor k) [.lit (if k.signed then -1 else k.max), a] (some k))
    | _ => none
  | .convert src dst x =>
    match s.get x with
    | some (.one (.sc (.int _ a))) =>
      match P.underlying src, P.underlying dst with
      | some _, some (.int k) => some (.prim (.conv k) [a] (some k))
      | _, _ => none
    | _ => none
  | .field T x f =>
    match P.underlying T, s.get x with
    | some (.struct fs), some (.one (.agg cs)) =>
      match fs[f]? with
      | some fl => (partOf P fl.type cs fl.offset).map .val
      | none => none
    | _, _ => none
  | .index T x i =>
    match s.get i with
    | some (.one (.sc (.int _ (.lit n)))) =>
      match P.underlying T, s.get x with
      | some (.array len el), some (.one (.agg cs)) =>
        match szOf P el with
        | some z => if decide (0 ≤ n) && decide (n < (len : Int)) then (partOf P el cs (n.toNat * z)).map .val else none
        | none => none
      | _, _ => none
    | _ => none
  | .extract t i =>
    match s.get t with
    | some (.tup vs) => (vs[i]?).map fun v => .val (.one v)
    | _ => none
  | .pick c a b =>
    match s.get c with
    | some (.one (.sc (.bool x))) =>
      match known s.asm x with
      | some true => (s.get a).map .val
      | some false => (s.get b).map .val
      | none => none
    | _ => none
  | .slice T x lo hi none =>
    match P.underlying T, s.get x, litOpt s lo, litOpt s hi with
    | some (.array n el), some (.one (.sc (.ptr o d))), some l, some h =>
      match szOf P el with
      | some z =>
        let h := h.getD n
        let l := l.getD 0
        if decide (0 ≤ l) && decide (l ≤ h) && decide (h ≤ (n : Int)) then
          some (.val (.one (.sc (.slice o (if n = l.toNat then d else d + l.toNat * z) (h.toNat - l.toNat) (n - l.toNat)))))
        else none
      | none => none
    | some (.slice el), some (.one (.sc (.slice o d len cap))), some l, some h =>
      match szOf P el with
      | some z =>
        let h := h.getD len
        let l := l.getD 0
        if decide (0 ≤ l) && decide (l ≤ h) && decide (h ≤ (cap : Int)) then
          some (.val (.one (.sc (.slice o (if cap = l.toNat then d else d + l.toNat * z) (h.toNat - l.toNat) (cap - l.toNat)))))
        else none
      | none => none
    | _, _, _, _ => none
  | .sliceToArrayPointer T x =>
    match P.underlying T, s.get x with
    | some (.array n _), some (.one (.sc (.slice o d len _))) => if decide (n ≤ len) then some (.val (.one (.sc (.ptr o d)))) else none
    | _, _ => none
  | .build T parts =>
    match (P.info? T).bind (·.zero) with
    | some z => match ofCells z.cells.toList with
      | some cs =>
        match P.underlying T with
        | some (.struct fs) =>
          if fs.toList.all (fun f => (szOf P f.type).isSome) then
            (fillV (fun i => (fs[i]?).map fun f => (f.offset, (szOf P f.type).getD 0)) cs parts.toList s.get).map fun l => .val (.one (.agg l))
          else none
        | some (.array _ el) => match szOf P el with
          | some n => (fillV (fun i => some (i * n, n)) cs parts.toList s.get).map fun l => .val (.one (.agg l))
          | none => none
        | _ => none
      | none => none
    | none => none
  | .call c =>
    match c.callee, c.args.toList, c.argTypes.toList with
    | .builtin .len, [x], [T] =>
      match s.get x, P.underlying T with
      | some (.one (.sc (.slice _ _ l _))), some (.slice _) => some (.val (.one (.sc (.int .i64 (.lit l)))))
      | _, _ => none
    | _, _, _ => none
  | _ => none

end Go.Proofs.Ytfeancgmmonebaa.Sx

/-
  The symbolic step on one plain operation is what the model's operation does. Conditions: none; each theorem bears its own.
-/
namespace Go.Proofs.Ytfeancgmmonebaa.Sx
open Go

/-! ## 1. Growing environments -/

theorem SI.val_lit (e : List Int) (n : Int) : (SI.lit n).val e = n := rfl
theorem SI.val_var (e : List Int) (i : Nat) : (SI.var i).val e = e.getD i 0 := rfl

theorem SI.val_ext {e l : List Int} {x : SI} (h : x.ok e.length = true) : x.val (e ++ l) = x.val e := by
  cases x with
  | lit n => rfl
  | var i =>
    have hi : i < e.length := by simpa [SI.ok] using h
    simp [SI.val, List.getD, List.getElem?_append_left hi]

theorem SI.ok_mono {x : SI} {n n' : Nat} (h : x.ok n = true) (hn : n ≤ n') : x.ok n' = true := by
  cases x with
  | lit n => rfl
  | var i => simp [SI.ok] at h ⊢; omega

theorem En.blk_ext (e e' : List Int) (o p : List (Nat × Nat)) (i : Nat) (h : i < o.length) : En.blk ⟨e', o ++ p⟩ i = En.blk ⟨e, o⟩ i := by
  simp [En.blk, List.getD, List.getElem?_append_left h]

theorem En.off_ext (e e' : List Int) (o p : List (Nat × Nat)) (i : Nat) (h : i < o.length) : En.off ⟨e', o ++ p⟩ i = En.off ⟨e, o⟩ i := by
  simp [En.off, List.getD, List.getElem?_append_left h]

theorem SC.den_ext {e l : List Int} {o p : List (Nat × Nat)} {c : SC} (h : c.ok e.length o.length = true) : c.den ⟨e ++ l, o ++ p⟩ = c.den ⟨e, o⟩ := by
  cases c with
  | int k x => simp only [SC.den]; rw [SI.val_ext (by simpa [SC.ok] using h)]
  | bool x => simp only [SC.den]; rw [SI.val_ext (by simpa [SC.ok] using h)]
  | ptr i d =>
    have hi : i < o.length := by simpa [SC.ok] using h
    simp only [SC.den]; rw [En.blk_ext e _ o p i hi, En.off_ext e _ o p i hi]
  | slice i d l c =>
    have hi : i < o.length := by simpa [SC.ok] using h
    simp only [SC.den]; rw [En.blk_ext e _ o p i hi, En.off_ext e _ o p i hi]
  | cv v => rfl

theorem SC.ok_mono {c : SC} {n n' m m' : Nat} (h : c.ok n m = true) (hn : n ≤ n') (hm : m ≤ m') : c.ok n' m' = true := by
  cases c with
  | int k x => exact SI.ok_mono (x := x) h hn
  | bool x => exact SI.ok_mono (x := x) h hn
  | ptr i d => simp [SC.ok] at h ⊢; omega
  | slice i d l c => simp [SC.ok] at h ⊢; omega
  | cv v => exact h

theorem cells_ext {e l : List Int} {o p : List (Nat × Nat)} {cs : List SC} (h : cs.all (SC.ok e.length o.length) = true) : cs.map (SC.den ⟨e ++ l, o ++ p⟩) = cs.map (SC.den ⟨e, o⟩) :=
  List.map_congr_left fun c hc => SC.den_ext (List.all_eq_true.1 h c hc)

theorem cells_mono {cs : List SC} {n n' m m' : Nat} (h : cs.all (SC.ok n m) = true) (hn : n ≤ n') (hm : m ≤ m') : cs.all (SC.ok n' m') = true :=
  List.all_eq_true.2 fun c hc => SC.ok_mono (List.all_eq_true.1 h c hc) hn hm

theorem S1.den_ext {e l : List Int} {o p : List (Nat × Nat)} {v : S1} (h : v.ok e.length o.length = true) : v.den ⟨e ++ l, o ++ p⟩ = v.den ⟨e, o⟩ := by
  cases v with
  | sc c => exact SC.den_ext (c := c) h
  | agg cs => simp only [S1.den]; rw [cells_ext h]

theorem S1.ok_mono {v : S1} {n n' m m' : Nat} (h : v.ok n m = true) (hn : n ≤ n') (hm : m ≤ m') : v.ok n' m' = true := by
  cases v with
  | sc c => exact SC.ok_mono (c := c) h hn hm
  | agg cs => exact cells_mono (cs := cs) h hn hm

theorem SV.den_ext {e l : List Int} {o p : List (Nat × Nat)} {v : SV} (h : v.ok e.length o.length = true) : v.den ⟨e ++ l, o ++ p⟩ = v.den ⟨e, o⟩ := by
  cases v with
  | one v => exact S1.den_ext (v := v) h
  | tup vs =>
    simp only [SV.den]
    rw [List.map_congr_left fun v hv => S1.den_ext (v := v) (List.all_eq_true.1 h v hv)]

theorem SV.ok_mono {v : SV} {n n' m m' : Nat} (h : v.ok n m = true) (hn : n ≤ n') (hm : m ≤ m') : v.ok n' m' = true := by
  cases v with
  | one v => exact S1.ok_mono (v := v) h hn hm
  | tup vs => exact List.all_eq_true.2 fun v hv => S1.ok_mono (List.all_eq_true.1 h v hv) hn hm

/-! ## 2. What the state says of the frame and of memory -/

structure RelA (Γ : List Entry) (base : List Int) (ρ : En) (s : St) (a : Act) : Prop where
  env : ρ.e = runR Γ s.defs base
  len : ρ.e.length = s.n
  lenO : ρ.o.length = s.mem.length
  size : a.tmps.size = s.nt
  dfr : a.defers = []
  tm : ∀ t sv, s.tm.get t = some sv → sv.ok s.n s.mem.length = true ∧ a.tmps[t]? = some (sv.den ρ)
  asm : asmHolds ρ.e s.asm
  asmok : ∀ c ∈ s.asm, c.1.ok s.n = true

structure ObjOk (w : World) (ρ : En) (o : Nat) (so : SO) : Prop where
  blk : ρ.blk o < w.heap.size
  cell : ∀ j c, so.cells[j]? = some c → w.cell? ⟨ρ.blk o, ρ.off o + j, none⟩ = some (c.den ρ)
  thaw : so.w = true → ∀ j, j < so.cells.length → w.frozen? ⟨ρ.blk o, ρ.off o + j, none⟩ = false

def ObjsOk (w : World) (ρ : En) (s : St) : Prop := ∀ o so, s.mem[o]? = some so → ObjOk w ρ o so

/-- Cells alone. -/
def CellsOk (w : World) (ρ : En) (s : St) : Prop := ∀ (o : Nat) (so : SO), s.mem[o]? = some so → ∀ j c, so.cells[j]? = some c → w.cell? ⟨ρ.blk o, ρ.off o + j, none⟩ = some (c.den ρ)

theorem ObjsOk.cells {w : World} {ρ : En} {s : St} (h : ObjsOk w ρ s) : CellsOk w ρ s := fun o so ho => (h o so ho).cell

theorem ofCell_den {v : Value} {c : SC} (h : ofCell v = some c) (ρ : En) (n m : Nat) : c.den ρ = v ∧ c.ok n m = true := by
  cases v <;> simp [ofCell] at h <;> subst h <;> simp [SC.den, SC.ok, SI.val, SI.ok, Value.oneCell']
  case bool b => cases b <;> simp

theorem ofCells_den (ρ : En) (n m : Nat) : ∀ (l : List Value) (cs : List SC), ofCells l = some cs → cs.map (SC.den ρ) = l ∧ cs.all (SC.ok n m) = true
  | [], cs, h => by simp [ofCells] at h; subst h; simp
  | v :: l, cs, h => by
    unfold ofCells at h
    split at h
    · rename_i c cs' h1 h2
      cases h
      have a1 := ofCell_den h1 ρ n m
      have a2 := ofCells_den ρ n m l cs' h2
      simp [a1.1, a1.2, a2.1]
      simpa using a2.2
    · cases h

theorem ofValue_den {v : Value} {sv : SV} (h : ofValue v = some sv) (ρ : En) (n m : Nat) : sv.den ρ = v ∧ sv.ok n m = true := by
  have one : ∀ {v : Value} {sv : SV}, (ofCell v).map (fun c => SV.one (.sc c)) = some sv → sv.den ρ = v ∧ sv.ok n m = true := by
    intro v sv h
    obtain ⟨c, hc, rfl⟩ := Option.map_eq_some_iff.1 h
    exact ofCell_den hc ρ n m
  cases v with
  | agg cs =>
    obtain ⟨l, hl, rfl⟩ := Option.map_eq_some_iff.1 (show (ofCells cs.toList).map (fun l => SV.one (.agg l)) = some sv from h)
    have := ofCells_den ρ n m _ _ hl
    exact ⟨by simp [SV.den, S1.den, this.1], this.2⟩
  | tuple vs =>
    simp only [ofValue] at h
    split at h
    · rename_i hv
      cases h
      obtain ⟨l⟩ := vs
      simp at hv
      subst hv
      exact ⟨rfl, rfl⟩
    · cases h
  | bool b => exact one h
  | int k n => exact one h
  | float k n => exact one h
  | complex k n m => exact one h
  | string s => exact one h
  | pointer p => exact one h
  | slice p l c => exact one h
  | map r => exact one h
  | chan r => exact one h
  | func f x y => exact one h
  | nilFunc => exact one h
  | iface t v => exact one h
  | nilIface => exact one h

theorem get_sound {Γ : List Entry} {base : List Int} {ρ : En} {s : St} {a : Act} (hA : RelA Γ base ρ s a) {x : Operand} {sv : SV} (h : s.get x = some sv) :
    a.eval x = sv.den ρ ∧ sv.ok s.n s.mem.length = true := by
  cases x with
  | tmp t =>
    have := hA.tm t sv h
    exact ⟨by simp [Act.eval, this.2], this.1⟩
  | const v =>
    have := ofValue_den (show ofValue v = some sv from h) ρ s.n s.mem.length
    exact ⟨this.1.symm, this.2⟩
  | func f =>
    simp only [St.get, Option.some.injEq] at h
    subst h
    exact ⟨rfl, rfl⟩
  | global g => simp [St.get] at h

def VRes.den (ρ : En) : VRes → Value
  | .val v => v.den ρ
  | .prim p xs (some k) => .int k (p.ev (xs.map (·.val ρ.e)))
  | .prim p xs none => .bool (p.ev (xs.map (·.val ρ.e)) != 0)

theorem lits_val (e : List Int) : ∀ (xs : List SI) (ns : List Int), lits xs = some ns → xs.map (·.val e) = ns
  | [], ns, h => by simp [lits] at h; subst h; rfl
  | .lit n :: r, ns, h => by
    simp only [lits] at h
    obtain ⟨l, hl, rfl⟩ := Option.map_eq_some_iff.1 h
    simp [SI.val_lit, lits_val e r l hl]
  | .var i :: r, ns, h => by simp [lits] at h

theorem mkSC_den (ρ : En) (k : CK) (x : SI) : (mkSC k x).den ρ = match k with | some k => .int k (x.val ρ.e) | none => .bool (x.val ρ.e != 0) := by
  cases k <;> rfl

theorem mkSC_ok (n m : Nat) (k : CK) (x : SI) : (mkSC k x).ok n m = x.ok n := by cases k <;> rfl

theorem asmHolds_ext {e l : List Int} {asm : List (SI × Bool)} (h : asmHolds e asm) (ok : ∀ c ∈ asm, c.1.ok e.length = true) : asmHolds (e ++ l) asm :=
  fun c hc => by rw [SI.val_ext (ok c hc)]; exact h c hc

/-- A new definition keeps what is known of the frame. -/
theorem RelA.define {Γ : List Entry} {base : List Int} {ρ : En} {s : St} {a : Act} (hA : RelA Γ base ρ s a) (d : Def) :
    RelA Γ base ⟨ρ.e ++ d.ev Γ ρ.e, ρ.o⟩ { s with n := s.n + (d.ev Γ ρ.e).length, defs := d :: s.defs } a := by
  refine ⟨?_, ?_, hA.lenO, hA.size, hA.dfr, ?_, ?_, ?_⟩
  · show ρ.e ++ d.ev Γ ρ.e = runR Γ s.defs base ++ d.ev Γ (runR Γ s.defs base)
    rw [← hA.env]
  · simp [hA.len]
  · intro t sv h
    have := hA.tm t sv h
    refine ⟨SV.ok_mono this.1 (by simp) (Nat.le_refl _), ?_⟩
    have e := SV.den_ext (l := d.ev Γ ρ.e) (p := []) (e := ρ.e) (o := ρ.o) (v := sv) (by rw [hA.len, hA.lenO]; exact this.1)
    rw [List.append_nil] at e
    rw [e]; exact this.2
  · exact asmHolds_ext hA.asm (by rw [hA.len]; exact hA.asmok)
  · exact fun c hc => SI.ok_mono (hA.asmok c hc) (by simp)

/-- Of a value that an operation gives: the new environment, and that the value reads in it as it should. -/
theorem give_sound {Γ : List Entry} {base : List Int} {ρ : En} {s : St} {a : Act} (hA : RelA Γ base ρ s a) {r : VRes} {s' : St} {sv : SV} (h : s.give r = some (s', sv)) :
    ∃ l, RelA Γ base ⟨ρ.e ++ l, ρ.o⟩ s' a ∧ sv.ok s'.n s'.mem.length = true ∧ sv.den ⟨ρ.e ++ l, ρ.o⟩ = r.den ρ ∧ s'.mem = s.mem ∧ s'.tm = s.tm ∧ s'.nt = s.nt ∧ s'.asm = s.asm ∧ s.n ≤ s'.n := by
  cases r with
  | val v =>
    simp only [St.give] at h
    split at h
    · rename_i hv
      cases h
      exact ⟨[], by simpa using hA, hv, by simp [VRes.den], rfl, rfl, rfl, rfl, Nat.le_refl _⟩
    · cases h
  | prim p xs k =>
    simp only [St.give] at h
    split at h
    · rename_i ns hns
      cases h
      refine ⟨[], by simpa using hA, by simp only [SV.ok, S1.ok, mkSC_ok]; rfl, ?_, rfl, rfl, rfl, rfl, Nat.le_refl _⟩
      simp only [SV.den, S1.den, mkSC_den, List.append_nil, SI.val]
      cases k <;> simp [VRes.den, lits_val ρ.e xs ns hns]
    · split at h
      · rename_i hok
        cases h
        have hd := hA.define (.pr p xs)
        refine ⟨[p.ev (xs.map (·.val ρ.e))], by simpa [Def.ev] using hd, ?_, ?_, rfl, rfl, rfl, rfl, by simp⟩
        · simp only [SV.ok, S1.ok, mkSC_ok, SI.ok]; simp
        · simp only [SV.den, S1.den, mkSC_den, SI.val_var, List.getD]
          have hlen : s.n = ρ.e.length := hA.len.symm
          rw [hlen, List.getElem?_append_right (Nat.le_refl _)]
          cases k <;> simp [VRes.den]
      · cases h

/-! ## 3. The model's runs -/
section
variable {P : Program} {w : World}

theorem run_szOf {t : TypeId} {n : Nat} (h : szOf P t = some n) (w : World) : (sizeOf t).run P w = .ok n w := by
  obtain ⟨i, hi, rfl⟩ := Option.map_eq_some_iff.1 h
  simp [sizeOf, typeInfo, hi]

theorem run_isAggB {t : TypeId} {b : Bool} (h : isAggB P t = some b) (w : World) : (isAgg t).run P w = .ok b w := by
  unfold isAggB at h
  split at h <;> simp only [Option.some.injEq, reduceCtorEq] at h
  · rename_i fs hu; subst h; simp [isAgg, run_underlying hu]
  · rename_i n e hu; subst h; simp [isAgg, run_underlying hu]
  · rename_i d h1 h2 hu
    subst h
    simp only [isAgg, Sem.run_bind, run_underlying hu, Result.andThen_ok]
    cases d with
    | struct fs => exact (h1 fs rfl).elim
    | array n e => exact (h2 n e rfl).elim
    | _ => rfl

theorem addr_add (b o n : Nat) : (⟨b, o, none⟩ : Addr).add n = ⟨b, o + n, none⟩ := by
  unfold Addr.add; split
  · rename_i h; subst h; rfl
  · rfl

theorem run_partOf {t : TypeId} {cs : List SC} {off : Nat} {sv : SV} (h : partOf P t cs off = some sv) (ρ : En) (w : World) :
    (part t (cs.map (SC.den ρ)).toArray off).run P w = .ok (sv.den ρ) w := by
  unfold partOf at h
  split at h
  · rename_i n ha hs
    split at h
    · rename_i hn
      cases h
      have hn' : off + n ≤ cs.length := by simpa using hn
      simp only [part, Sem.run_bind, run_isAggB ha, Result.andThen_ok, if_true, run_szOf hs, Sem.run_pure]
      congr 1
      simp only [SV.den, S1.den, Value.agg.injEq]
      apply Array.ext'
      simp [List.map_drop, List.map_take]
    · cases h
  · rename_i ha
    obtain ⟨c, hc, rfl⟩ := Option.map_eq_some_iff.1 h
    simp [part, run_isAggB ha, hc, SV.den, S1.den]
  · cases h

theorem run_loadAt {t : TypeId} {b o : Nat} {cs : List SC} {ρ : En} {d n : Nat} (ha : isAggB P t = some true) (hs : szOf P t = some n) (hn : d + n ≤ cs.length)
    (hc : ∀ j c, cs[j]? = some c → w.cell? ⟨b, o + j, none⟩ = some (c.den ρ)) :
    (Instr.loadAt t (.pointer (some ⟨b, o + d, none⟩))).run P w = .ok (.agg (((cs.drop d).take n).map (SC.den ρ)).toArray) w := by
  have hl : ((((cs.drop d).take n).map (SC.den ρ)).length) = n := by simp; omega
  have := run_loadCells_list (P := P) w ⟨b, o + d, none⟩ (((cs.drop d).take n).map (SC.den ρ)) (fun j v hj => by
    rw [addr_add]
    simp only [List.getElem?_map, List.getElem?_take, List.getElem?_drop, Option.map_eq_some_iff] at hj
    obtain ⟨c, hj, rfl⟩ := hj
    split at hj
    · have := hc (d + j) c hj
      rwa [show o + d + j = o + (d + j) by omega]
    · cases hj)
  rw [hl] at this
  simp [Instr.loadAt, Instr.sureAddr, loadVar, run_isAggB ha, run_szOf hs, this]

end

/-! ### equality of values made of numbers and bools -/

theorem allEq_append (bs : List Bool) (ys : List Int) (cs : List Bool) (zs : List Int) (h : ys.length = 2 * bs.length) : allEq (bs ++ cs) (ys ++ zs) = (allEq bs ys && allEq cs zs) := by
  induction bs generalizing ys with
  | nil =>
    have : ys = [] := List.length_eq_zero_iff.1 (by simpa using h)
    subst this
    simp [allEq]
  | cons b bs ih =>
    match ys, h with
    | x :: y :: r, h =>
      have := ih r (by simp at h; omega)
      simp only [List.cons_append, allEq, this, Bool.and_assoc]
    | [x], h => simp at h; omega
    | [], h => simp at h

theorem flat_length : ∀ l : List (Bool × SI × SI), (flat l).length = 2 * l.length
  | [] => rfl
  | t :: r => by simp [flat, flat_length r]; omega

theorem flat_append : ∀ l r : List (Bool × SI × SI), flat (l ++ r) = flat l ++ flat r
  | [], _ => rfl
  | t :: l, r => by simp [flat, flat_append l r]

/-- Do these pairs read alike? -/
def alike (e : List Int) (l : List (Bool × SI × SI)) : Bool := allEq (l.map (·.1)) ((flat l).map (·.val e))

theorem alike_append (e : List Int) (l r : List (Bool × SI × SI)) : alike e (l ++ r) = (alike e l && alike e r) := by
  unfold alike
  rw [List.map_append, flat_append, List.map_append, allEq_append _ _ _ _ (by simp [flat_length])]

section
variable {P : Program}

theorem run_eqArr {ρ : En} {D : Nat} {f : S1 → S1 → Option (List (Bool × SI × SI))} {el : TypeId} {n : Nat} {xs ys : List SC} (hz : szOf P el = some n)
    (hf : ∀ u v l, f u v = some l → ∀ w, (Op.equalIn D el (u.den ρ) (v.den ρ)).run P w = .ok (alike ρ.e l) w) : ∀ (m i : Nat) (l : List (Bool × SI × SI)), eqArr P f el n xs ys m i = some l → ∀ w,
    (forIn (m := Sem) (List.range' i m) ((none, ()) : Option Bool × Unit) fun j _ =>
      (do
        let x ← part el (xs.map (SC.den ρ)).toArray (j * n)
        let y ← part el (ys.map (SC.den ρ)).toArray (j * n)
        let b ← Op.equalIn D el x y
        if (!b) = true then pure (ForInStep.done (some false, ())) else pure (ForInStep.yield (none, ())) : Sem (ForInStep (Option Bool × Unit)))).run P w =
      .ok (if alike ρ.e l then (none, ()) else (some false, ())) w
  | 0, i, l, h, w => by cases h; rfl
  | m + 1, i, l, h, w => by
    unfold eqArr at h
    split at h
    · rename_i u v h1 h2
      split at h
      · rename_i l1 l2 h3 h4
        cases h
        have ih := run_eqArr hz hf m (i + 1) l2 h4 w
        rw [List.range'_succ, List.forIn_cons]
        have p1 := run_partOf h1 ρ w
        have p2 := run_partOf h2 ρ w
        have p3 := hf u v l1 h3 w
        simp only [SV.den] at p1 p2
        simp only [Sem.run_bind, p1, p2, p3, Result.andThen_ok]
        cases hb : alike ρ.e l1 with
        | true =>
          simp only [Bool.not_true, Bool.false_eq_true, if_false, Sem.run_pure, Result.andThen_ok]
          rw [ih, alike_append, hb, Bool.true_and]
        | false =>
          simp only [Bool.not_false, if_true, Sem.run_pure, Result.andThen_ok]
          rw [alike_append, hb, Bool.false_and]
          rfl
      · cases h
    · cases h

theorem run_eqFld {ρ : En} {D : Nat} {f : TypeId → S1 → S1 → Option (List (Bool × SI × SI))} {xs ys : List SC}
    (hf : ∀ t u v l, f t u v = some l → ∀ w, (Op.equalIn D t (u.den ρ) (v.den ρ)).run P w = .ok (alike ρ.e l) w) : ∀ (fs : List Field) (l : List (Bool × SI × SI)), eqFld P f xs ys fs = some l → ∀ w,
    (Op.eqFields D (xs.map (SC.den ρ)).toArray (ys.map (SC.den ρ)).toArray fs).run P w = .ok (alike ρ.e l) w
  | [], l, h, w => by cases h; rfl
  | g :: r, l, h, w => by
    unfold eqFld at h
    split at h
    · cases h
    · rename_i hne
      split at h
      · rename_i u v h1 h2
        split at h
        · rename_i l1 l2 h3 h4
          cases h
          have ih := run_eqFld hf r l2 h4 w
          have p1 := run_partOf h1 ρ w
          have p2 := run_partOf h2 ρ w
          have p3 := hf g.type u v l1 h3 w
          simp only [SV.den] at p1 p2
          simp only [Op.eqFields]
          rw [if_pos hne]
          simp only [Sem.run_bind, p1, p2, p3, Result.andThen_ok]
          cases hb : alike ρ.e l1 with
          | true =>
            simp only [Bool.not_true, Bool.false_eq_true, if_false]
            rw [ih, alike_append, hb, Bool.true_and]
          | false =>
            simp only [Bool.not_false, if_true, Sem.run_pure]
            rw [alike_append, hb, Bool.false_and]
        · cases h
      · cases h

theorem run_eqV {ρ : En} : ∀ (d : Nat) (D : Nat) (t : TypeId) (x y : S1) (l : List (Bool × SI × SI)), eqV P d t x y = some l → d ≤ D → ∀ w, (Op.equalIn D t (x.den ρ) (y.den ρ)).run P w = .ok (alike ρ.e l) w
  | 0, _, _, _, _, _, h, _, _ => by cases h
  | d + 1, D, t, x, y, l, h, hD, w => by
    obtain ⟨D, rfl⟩ : ∃ E, D = E + 1 := ⟨D - 1, by omega⟩
    unfold eqV at h
    split at h
    · rename_i k' k a k2 b hu
      split at h
      · rename_i hk
        cases h
        have hk : k = k2 := by simpa using hk
        subst hk
        simp only [S1.den, SC.den]
        rw [run_equalIn_int w D t k k' _ _ hu]
        simp only [alike, flat, List.map, allEq, Bool.false_eq_true, if_false, Bool.and_true]
        rfl
      · cases h
    · rename_i a b hu
      cases h
      simp only [S1.den, SC.den]
      rw [run_equalIn_bool' w D t _ _ hu]
      simp only [alike, flat, List.map, allEq, if_true, Bool.and_true]
    · rename_i len el xs ys hu
      split at h
      · rename_i n hz
        have hr := run_eqArr (ρ := ρ) (D := D) hz (fun u v l' hl w' => run_eqV d D el u v l' hl (by omega) w') len 0 l h w
        simp only [S1.den, Op.equalIn, Sem.run_bind, run_underlying hu, Result.andThen_ok, run_szOf hz]
        simp only [Std.Legacy.Range.forIn_eq_forIn_range', Std.Legacy.Range.size]
        simp only [Nat.sub_zero, Nat.add_sub_cancel, Nat.div_one]
        rw [hr]
        cases alike ρ.e l <;> simp
      · cases h
    · rename_i fs xs ys hu
      split at h
      · cases h
      · rename_i hst
        have hfs : P.fieldsOf t = fs := by simp [Program.fieldsOf, hu]
        have := run_eqFld (P := P) (ρ := ρ) (D := D) (fun t' u v l' hl w' => run_eqV d D t' u v l' hl (by omega) w') fs.toList l h w
        simp only [S1.den]
        rw [run_equalIn_struct w D t _ _ (by rw [hfs]; exact hu) (by simpa using hst), hfs]
        exact this
    · cases h
end

theorem eqGuard_cmp {op : BinOp} {t : TypeId} {x y : Operand} {k : IntKind} {n : Int} {v : Value} : eqGuard op t x y (.int k n) v = pure () := by
  cases op <;> rfl

theorem bne_ite (p : Prop) [Decidable p] : ((if p then (1 : Int) else 0) != 0) = decide p := by
  split <;> simp [*]

theorem bne_ite' (p : Prop) [Decidable p] : ((if p then (0 : Int) else 1) != 0) = !decide p := by
  split <;> simp [*]

theorem run_binV {P : Program} {Γ : List Entry} {base : List Int} {ρ : En} {s : St} {a : Act} (hA : RelA Γ base ρ s a) {op : BinOp} {T : TypeId} {x y : Operand} {r : VRes}
    (h : binV P s op T x y = some r) (w : World) :
    (do eqGuard op T x y (a.eval x) (a.eval y); binOp op T (a.eval x) (a.eval y) : Sem Value).run P w = .ok (r.den ρ) w := by
  unfold binV at h
  split at h
  · rename_i k p k' q hx hy
    rw [(get_sound hA hx).1, (get_sound hA hy).1]
    simp only [SV.den, S1.den, SC.den, eqGuard_cmp]
    have fin : ∀ {o : Option IntKind} {r : VRes}, (if (decide (k = k')) = true then some (VRes.prim (.bin op k) [p, q] o) else none) = some r →
        (k = k' → (binOp op T (.int k (p.val ρ.e)) (.int k (q.val ρ.e))).run P w = .ok ((VRes.prim (.bin op k) [p, q] o).den ρ) w) →
        (do pure (); binOp op T (.int k (p.val ρ.e)) (.int k' (q.val ρ.e)) : Sem Value).run P w = .ok (r.den ρ) w := by
      intro o r h1 h2
      split at h1
      · rename_i hk
        cases h1
        have hk : k = k' := by simpa using hk
        subst hk
        simpa using h2 rfl
      · cases h1
    cases op
    case shl =>
      cases q with
      | var i => simp at h
      | lit n =>
        simp only at h
        split at h
        · rename_i hn
          cases h
          have hn : 0 ≤ n := by simpa using hn
          simp [binOp, Op.shift, SI.val, VRes.den, Pr.ev, binEv, Int.not_lt.2 hn]
        · cases h
    case shr =>
      cases q with
      | var i => simp at h
      | lit n =>
        simp only at h
        split at h
        · rename_i hn
          cases h
          have hn : 0 ≤ n := by simpa using hn
          simp [binOp, Op.shift, SI.val, VRes.den, Pr.ev, binEv, Int.not_lt.2 hn]
        · cases h
    case quo =>
      cases q with
      | var i => simp at h
      | lit n =>
        simp only at h
        split at h
        · rename_i hn
          cases h
          simp only [Bool.and_eq_true, decide_eq_true_eq, Bool.not_eq_true', decide_eq_false_iff_not] at hn
          obtain ⟨rfl, hn⟩ := hn
          simp [binOp, Op.intDiv, SI.val, VRes.den, Pr.ev, binEv, hn]
        · cases h
    case rem =>
      cases q with
      | var i => simp at h
      | lit n =>
        simp only at h
        split at h
        · rename_i hn
          cases h
          simp only [Bool.and_eq_true, decide_eq_true_eq, Bool.not_eq_true', decide_eq_false_iff_not] at hn
          obtain ⟨rfl, hn⟩ := hn
          simp [binOp, Op.intDiv, SI.val, VRes.den, Pr.ev, binEv, hn]
        · cases h
    case add => exact fin h fun _ => by simp [binOp, Op.intArith, VRes.den, Pr.ev, binEv, isCmp]
    case sub => exact fin h fun _ => by simp [binOp, Op.intArith, VRes.den, Pr.ev, binEv, isCmp]
    case mul => exact fin h fun _ => by simp [binOp, Op.intArith, VRes.den, Pr.ev, binEv, isCmp]
    case and => exact fin h fun _ => by simp [binOp, intBits_and, VRes.den, Pr.ev, binEv, isCmp]
    case or => exact fin h fun _ => by simp [binOp, intBits_or, VRes.den, Pr.ev, binEv, isCmp]
    case xor => exact fin h fun _ => by simp [binOp, intBits_xor, VRes.den, Pr.ev, binEv, isCmp]
    case andNot => exact fin h fun _ => by simp [binOp, intBits_andNot, VRes.den, Pr.ev, binEv, isCmp]
    case eql => exact fin h fun _ => by simp only [binOp_eql, Sem.run_pure, VRes.den, Pr.ev, binEv, isCmp, if_true, bne_ite, List.map, List.getD_cons_zero, List.getD_cons_succ]; rfl
    case neq => exact fin h fun _ => by simp only [binOp_neq, Sem.run_pure, VRes.den, Pr.ev, binEv, isCmp, if_true, bne_ite', List.map, List.getD_cons_zero, List.getD_cons_succ]; rfl
    case lss => exact fin h fun _ => by simp only [binOp_lss, Sem.run_pure, VRes.den, Pr.ev, binEv, isCmp, if_true, bne_ite, List.map, List.getD_cons_zero, List.getD_cons_succ]
    case leq => exact fin h fun _ => by simp only [binOp_leq, Sem.run_pure, VRes.den, Pr.ev, binEv, isCmp, if_true, bne_ite, List.map, List.getD_cons_zero, List.getD_cons_succ]
    case gtr => exact fin h fun _ => by simp only [binOp_gtr, Sem.run_pure, VRes.den, Pr.ev, binEv, isCmp, if_true, bne_ite, List.map, List.getD_cons_zero, List.getD_cons_succ]
    case geq => exact fin h fun _ => by simp only [binOp_geq, Sem.run_pure, VRes.den, Pr.ev, binEv, isCmp, if_true, bne_ite, List.map, List.getD_cons_zero, List.getD_cons_succ]
  · rename_i p q hx hy
    rw [(get_sound hA hx).1, (get_sound hA hy).1]
    split at h
    · rename_i hu
      cases h
      simp only [SV.den, S1.den, SC.den, eqGuard_at_bool, Sem.run_bind, Sem.run_pure, Result.andThen_ok, run_eql_bool w T _ _ hu, VRes.den, Pr.ev, List.map, List.getD_cons_zero, List.getD_cons_succ, bne_ite]
      cases (SI.val ρ.e p != 0) <;> cases (SI.val ρ.e q != 0) <;> rfl
    · cases h
  · rename_i xs ys hx hy
    rw [(get_sound hA hx).1, (get_sound hA hy).1]
    split at h
    · cases h
    · rename_i hg
      have hg : P.eqGuardType P.depth T = false := by simpa using hg
      have hgr := run_eqGuard_agg (P := P) w op T x y (xs.map (SC.den ρ)).toArray (ys.map (SC.den ρ)).toArray hg
      split at h
      · rename_i l hl
        cases h
        have := run_eqV (P := P) (ρ := ρ) 9 10000 T (.agg xs) (.agg ys) l hl (by decide) w
        simp only [S1.den] at this
        simp only [SV.den, S1.den, Sem.run_bind, hgr, Result.andThen_ok, run_eql_struct, this, VRes.den, Pr.ev]
        congr 2
        unfold alike
        generalize allEq (l.map (·.1)) ((flat l).map (·.val ρ.e)) = b
        cases b <;> rfl
      · rename_i l hl
        cases h
        have := run_eqV (P := P) (ρ := ρ) 9 10000 T (.agg xs) (.agg ys) l hl (by decide) w
        simp only [S1.den] at this
        simp only [SV.den, S1.den, Sem.run_bind, hgr, Result.andThen_ok, run_neq_struct, this, VRes.den, Pr.ev]
        congr 2
        unfold alike
        generalize allEq (l.map (·.1)) ((flat l).map (·.val ρ.e)) = b
        cases b <;> rfl
      · cases h
  · cases h

end Go.Proofs.Ytfeancgmmonebaa.Sx
