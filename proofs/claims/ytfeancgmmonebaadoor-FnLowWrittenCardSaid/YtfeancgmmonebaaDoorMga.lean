/-
  A symbolic executor for straight-line Go code in the model: its data and its step on one operation. Conditions: none; definitions alone.
-/
import Derived.WalkKit
namespace Go.Proofs.YtfeancgmmonebaaDoor.Sx
open Go

/-! ## 1. Symbolic data -/

/-- A symbolic number: known, or the i-th number of the environment. -/
inductive SI where
  | lit (n : Int)
  | var (i : Nat)

def SI.val (e : List Int) : SI → Int
  | .lit n => n
  | .var i => e.getD i 0

def SI.ok (n : Nat) : SI → Bool
  | .lit _ => true
  | .var i => Nat.blt i n

def SI.beq : SI → SI → Bool
  | .lit a, .lit b => decide (a = b)
  | .var i, .var j => Nat.beq i j
  | _, _ => false

def SI.lit? : SI → Option Int
  | .lit n => some n
  | .var _ => none

/-- The environment: numbers, and where objects begin (block, offset). -/
structure En where
  e : List Int
  o : List (Nat × Nat)

def En.blk (ρ : En) (i : Nat) : Nat := (ρ.o.getD i (0, 0)).1
def En.off (ρ : En) (i : Nat) : Nat := (ρ.o.getD i (0, 0)).2

/-- A symbolic cell. -/
inductive SC where
  | int (k : IntKind) (x : SI)
  | bool (x : SI)
  | ptr (o d : Nat)
  | slice (o d len cap : Nat)
  | cv (v : Value)

def SC.den (ρ : En) : SC → Value
  | .int k x => .int k (x.val ρ.e)
  | .bool x => .bool (x.val ρ.e != 0)
  | .ptr o d => .pointer (some ⟨ρ.blk o, ρ.off o + d, none⟩)
  | .slice o d l c => .slice (some ⟨ρ.blk o, ρ.off o + d, none⟩) l c
  | .cv v => v

def SC.ok (n m : Nat) : SC → Bool
  | .int _ x => x.ok n
  | .bool x => x.ok n
  | .ptr o _ => Nat.blt o m
  | .slice o _ _ _ => Nat.blt o m
  | .cv v => v.oneCell'

inductive S1 where
  | sc (c : SC)
  | agg (cs : List SC)

def S1.den (ρ : En) : S1 → Value
  | .sc c => c.den ρ
  | .agg cs => .agg (cs.map (SC.den ρ)).toArray

def S1.ok (n m : Nat) : S1 → Bool
  | .sc c => c.ok n m
  | .agg cs => cs.all (SC.ok n m)

def S1.cells : S1 → List SC
  | .sc c => [c]
  | .agg cs => cs

inductive SV where
  | one (v : S1)
  | tup (vs : List S1)

def SV.den (ρ : En) : SV → Value
  | .one v => v.den ρ
  | .tup vs => .tuple (vs.map (S1.den ρ)).toArray

def SV.ok (n m : Nat) : SV → Bool
  | .one v => v.ok n m
  | .tup vs => vs.all (S1.ok n m)

def ofCell (v : Value) : Option SC :=
  match v with
  | .int k n => some (.int k (.lit n))
  | .bool b => some (.bool (.lit (if b then 1 else 0)))
  | .agg _ => none
  | .tuple _ => none
  | v => some (.cv v)

def ofCells : List Value → Option (List SC)
  | [] => some []
  | v :: vs => match ofCell v, ofCells vs with
    | some c, some cs => some (c :: cs)
    | _, _ => none

def ofValue (v : Value) : Option SV :=
  match v with
  | .agg cs => (ofCells cs.toList).map fun l => .one (.agg l)
  | .tuple vs => if vs.toList.isEmpty then some (.tup []) else none
  | v => (ofCell v).map fun c => .one (.sc c)

/-! ## 2. A trie for the frame -/

inductive Tr (α : Type) where
  | nil
  | node (l : Tr α) (v : Option α) (r : Tr α)

def Tr.get {α : Type} : Tr α → Nat → Option α
  | .nil, _ => none
  | .node l v r, n => if n = 0 then v else if n % 2 = 1 then l.get (n / 2) else r.get (n / 2 - 1)

def Tr.set {α : Type} : Nat → Tr α → Nat → Option α → Tr α
  | 0, _, _, _ => .nil
  | f + 1, .nil, n, x => if n = 0 then .node .nil x .nil else if n % 2 = 1 then .node (Tr.set f .nil (n / 2) x) none .nil else .node .nil none (Tr.set f .nil (n / 2 - 1) x)
  | f + 1, .node l v r, n, x => if n = 0 then .node l x r else if n % 2 = 1 then .node (Tr.set f l (n / 2) x) v r else .node l v (Tr.set f r (n / 2 - 1) x)

theorem Tr.get_set {α : Type} : ∀ (f : Nat) (t : Tr α) (n : Nat) (x : Option α) (m : Nat) (y : α), (Tr.set f t n x).get m = some y → (m = n ∧ x = some y) ∨ (m ≠ n ∧ t.get m = some y)
  | 0, _, _, _, _, _, h => by simp [Tr.set, Tr.get] at h
  | f + 1, .nil, n, x, m, y, h => by
    unfold Tr.set at h
    by_cases hn : n = 0
    · simp only [hn, if_true, Tr.get] at h
      by_cases hm : m = 0
      · simp only [hm, if_true] at h
        exact .inl ⟨by omega, h⟩
      · simp only [hm, if_false] at h
        split at h <;> simp at h
    · simp only [hn, if_false] at h
      by_cases hp : n % 2 = 1
      · simp only [hp, if_true, Tr.get] at h
        by_cases hm : m = 0
        · simp [hm] at h
        · simp only [hm, if_false] at h
          by_cases hq : m % 2 = 1
          · simp only [hq, if_true] at h
            rcases Tr.get_set f _ _ _ _ _ h with ⟨h1, h2⟩ | ⟨_, h2⟩
            · exact .inl ⟨by omega, h2⟩
            · simp [Tr.get] at h2
          · simp [hq] at h
      · simp only [hp, if_false, Tr.get] at h
        by_cases hm : m = 0
        · simp [hm] at h
        · simp only [hm, if_false] at h
          by_cases hq : m % 2 = 1
          · simp [hq] at h
          · simp only [hq, if_false] at h
            rcases Tr.get_set f _ _ _ _ _ h with ⟨h1, h2⟩ | ⟨_, h2⟩
            · exact .inl ⟨by omega, h2⟩
            · simp [Tr.get] at h2
  | f + 1, .node l v r, n, x, m, y, h => by
    unfold Tr.set at h
    by_cases hn : n = 0
    · simp only [hn, if_true, Tr.get] at h
      by_cases hm : m = 0
      · simp only [hm, if_true] at h
        exact .inl ⟨by omega, h⟩
      · exact .inr ⟨by omega, by simpa [Tr.get, hm] using h⟩
    · simp only [hn, if_false] at h
      by_cases hp : n % 2 = 1
      · simp only [hp, if_true, Tr.get] at h
        by_cases hm : m = 0
        · exact .inr ⟨by omega, by simpa [Tr.get, hm] using h⟩
        · simp only [hm, if_false] at h
          by_cases hq : m % 2 = 1
          · simp only [hq, if_true] at h
            rcases Tr.get_set f _ _ _ _ _ h with ⟨h1, h2⟩ | ⟨h1, h2⟩
            · exact .inl ⟨by omega, h2⟩
            · exact .inr ⟨by omega, by simpa [Tr.get, hm, hq] using h2⟩
          · exact .inr ⟨by omega, by simpa [Tr.get, hm, hq] using h⟩
      · simp only [hp, if_false, Tr.get] at h
        by_cases hm : m = 0
        · exact .inr ⟨by omega, by simpa [Tr.get, hm] using h⟩
        · simp only [hm, if_false] at h
          by_cases hq : m % 2 = 1
          · exact .inr ⟨by omega, by simpa [Tr.get, hm, hq] using h⟩
          · simp only [hq, if_false] at h
            rcases Tr.get_set f _ _ _ _ _ h with ⟨h1, h2⟩ | ⟨h1, h2⟩
            · exact .inl ⟨by omega, h2⟩
            · exact .inr ⟨by omega, by simpa [Tr.get, hm, hq] using h2⟩

/-! ## 3. Definitions of numbers, entries (contracts), states -/

def binEv (op : BinOp) (k : IntKind) (x y : Int) : Int :=
  match op with
  | .add => k.wrap (x + y)
  | .sub => k.wrap (x - y)
  | .mul => k.wrap (x * y)
  | .and => bits .and k x y
  | .or => bits .or k x y
  | .xor => bits .xor k x y
  | .andNot => bits .andNot k x y
  | .quo => k.wrap (x.tdiv y)
  | .rem => x.tmod y
  | .shl => k.wrap (x * 2 ^ (min y.toNat k.bits))
  | .shr => x.fdiv (2 ^ (min y.toNat k.bits))
  | .eql => if x = y then 1 else 0
  | .neq => if x = y then 0 else 1
  | .lss => if x < y then 1 else 0
  | .leq => if x ≤ y then 1 else 0
  | .gtr => if y < x then 1 else 0
  | .geq => if y ≤ x then 1 else 0

/-- Pairs that are alike: of numbers; of bools where 'b' says so. -/
def allEq : List Bool → List Int → Bool
  | b :: bs, x :: y :: r => (if b then (x != 0) == (y != 0) else decide (x = y)) && allEq bs r
  | _, _ => true

inductive Pr where
  | bin (op : BinOp) (k : IntKind)
  | conv (k : IntKind)
  | neg
  | beq
  | eqs (bs : List Bool)
  | nes (bs : List Bool)

def Pr.ev (p : Pr) (xs : List Int) : Int :=
  match p with
  | .bin op k => binEv op k (xs.getD 0 0) (xs.getD 1 0)
  | .conv k => k.wrap (xs.getD 0 0)
  | .neg => if xs.getD 0 0 = 0 then 1 else 0
  | .beq => if ((xs.getD 0 0 != 0) == (xs.getD 1 0 != 0)) = true then 1 else 0
  | .eqs bs => if allEq bs xs then 1 else 0
  | .nes bs => if allEq bs xs then 0 else 1

inductive Def where
  | pr (p : Pr) (xs : List SI)
  | app (j : Nat) (xs : List SI) (m : Nat)

def fit : Nat → List Int → List Int
  | 0, _ => []
  | m + 1, l => l.headD 0 :: fit m l.tail

theorem fit_length : ∀ (m : Nat) (l : List Int), (fit m l).length = m
  | 0, _ => rfl
  | m + 1, l => by simp [fit, fit_length m]

/-- The kind of a cell: an integer's kind, or (none) a bool. -/
abbrev CK := Option IntKind

inductive ASh where
  | int (k : IntKind)
  | bool
  | agg (ks : List CK)
  | ptr (ks : List CK) (w : Bool)
  | slice (ks : List CK) (cap : Nat) (w : Bool)
  | same (j : Nat)
  | cst (v : Value)

inductive RSh where
  | int (k : IntKind)
  | bool
  | agg (ks : List CK)
  | arg (j : Nat)
  | new (ks : List CK)
  | cst (v : Value)

/-- A contract: the function's number, the shapes of its arguments and results, what it computes, its condition, and whether it asks nothing. -/
structure Entry where
  f : FuncId
  args : List ASh
  res : List RSh
  F : List Int → List Int
  Pre : List Int → Prop := fun _ => True
  free : Bool := true

def noEntry : Entry := { f := 0, args := [], res := [], F := fun _ => [] }

def Def.ev (Γ : List Entry) (e : List Int) : Def → List Int
  | .pr p xs => [p.ev (xs.map (·.val e))]
  | .app j xs m => fit m ((Γ.getD j noEntry).F (xs.map (·.val e)))

/-- The environment behind some definitions, the newest first. -/
def runR (Γ : List Entry) : List Def → List Int → List Int
  | [], e => e
  | d :: ds, e => runR Γ ds e ++ d.ev Γ (runR Γ ds e)

structure SO where
  cells : List SC
  w : Bool

structure St where
  nt : Nat
  tm : Tr SV
  mem : List SO
  n : Nat
  defs : List Def
  asm : List (SI × Bool)

/-- What is owed: under these tests, at these definitions, that the entry's condition holds at these numbers. -/
structure Need where
  defs : List Def
  asm : List (SI × Bool)
  j : Nat
  xs : List SI

def asmHolds (e : List Int) (l : List (SI × Bool)) : Prop := ∀ c ∈ l, (c.1.val e != 0) = c.2

def Need.holds (Γ : List Entry) (base : List Int) (nd : Need) : Prop :=
  asmHolds (runR Γ nd.defs base) nd.asm → (Γ.getD nd.j noEntry).Pre (nd.xs.map (·.val (runR Γ nd.defs base)))

def St.get (s : St) : Operand → Option SV
  | .tmp t => s.tm.get t
  | .const v => ofValue v
  | .func f => some (.one (.sc (.cv (.func (.func f) #[] #[]))))
  | .global _ => none

def St.sc (s : St) (x : Operand) : Option SC :=
  match s.get x with
  | some (.one (.sc c)) => some c
  | _ => none

def mkSC (k : CK) (x : SI) : SC :=
  match k with
  | some k => .int k x
  | none => .bool x

inductive VRes where
  | val (v : SV)
  | prim (p : Pr) (xs : List SI) (k : CK)

def lits : List SI → Option (List Int)
  | [] => some []
  | .lit n :: r => (lits r).map (n :: ·)
  | .var _ :: _ => none

def St.give (s : St) : VRes → Option (St × SV)
  | .val v => if v.ok s.n s.mem.length then some (s, v) else none
  | .prim p xs k =>
    match lits xs with
    | some ns => some (s, .one (.sc (mkSC k (.lit (p.ev ns)))))
    | none => if xs.all (SI.ok s.n) then some ({ s with n := s.n + 1, defs := .pr p xs :: s.defs }, .one (.sc (mkSC k (.var s.n)))) else none

/-- A test, if it is known: a literal, or one that was taken. -/
def known (asm : List (SI × Bool)) (x : SI) : Option Bool :=
  match x with
  | .lit n => some (n != 0)
  | .var _ => (asm.find? fun c => c.1.beq x).map (·.2)

def isAggB (P : Program) (t : TypeId) : Option Bool :=
  match P.underlying t with
  | some (.struct _) => some true
  | some (.array _ _) => some true
  | some _ => some false
  | none => none

def szOf (P : Program) (t : TypeId) : Option Nat := (P.info? t).map (·.size)

def isCmp : BinOp → Bool
  | .eql | .neq | .lss | .leq | .gtr | .geq => true
  | _ => false

/-- The kinds of a type's cells, if it is made of integers, bools, arrays and structs of them. -/
def partOf (P : Program) (t : TypeId) (cs : List SC) (off : Nat) : Option SV :=
  match isAggB P t, szOf P t with
  | some true, some n => if decide (off + n ≤ cs.length) then some (.one (.agg ((cs.drop off).take n))) else none
  | some false, _ => (cs[off]?).map fun c => .one (.sc c)
  | _, _ => none

/-- The pairs that an equality of two arrays asks, 'f' at each element. -/
def eqArr (P : Program) (f : S1 → S1 → Option (List (Bool × SI × SI))) (el : TypeId) (n : Nat) (xs ys : List SC) : Nat → Nat → Option (List (Bool × SI × SI))
  | 0, _ => some []
  | m + 1, i => match partOf P el xs (i * n), partOf P el ys (i * n) with
    | some (.one u), some (.one v) => match f u v, eqArr P f el n xs ys m (i + 1) with
      | some l, some r => some (l ++ r)
      | _, _ => none
    | _, _ => none

def eqFld (P : Program) (f : TypeId → S1 → S1 → Option (List (Bool × SI × SI))) (xs ys : List SC) : List Field → Option (List (Bool × SI × SI))
  | [] => some []
  | g :: r => if g.name = "_" then none else
    match partOf P g.type xs g.offset, partOf P g.type ys g.offset with
    | some (.one u), some (.one v) => match f g.type u v, eqFld P f xs ys r with
      | some l, some r => some (l ++ r)
      | _, _ => none
    | _, _ => none

/-- The pairs that an equality of two values asks. -/
def eqV (P : Program) : Nat → TypeId → S1 → S1 → Option (List (Bool × SI × SI))
  | 0, _, _, _ => none
  | d + 1, t, x, y =>
    match P.underlying t, x, y with
    | some (.int _), .sc (.int k a), .sc (.int k' b) => if decide (k = k') then some [(false, a, b)] else none
    | some .bool, .sc (.bool a), .sc (.bool b) => some [(true, a, b)]
    | some (.array len el), .agg xs, .agg ys =>
      match szOf P el with
      | some n => eqArr P (eqV P d el) el n xs ys len 0
      | none => none
    | some (.struct fs), .agg xs, .agg ys => if P.stoodInHeld t then none else eqFld P (eqV P d) xs ys fs.toList
    | _, _, _ => none

def flat : List (Bool × SI × SI) → List SI
  | [] => []
  | t :: r => t.2.1 :: t.2.2 :: flat r

/-- 'cs' over the list from place 'd' on. -/
def over {α : Type} : Nat → List α → List α → List α
  | _, l, [] => l
  | _, [], _ => []
  | 0, _ :: l, c :: cs => c :: over 0 l cs
  | d + 1, x :: l, cs => x :: over d l cs

def fillV (place : Nat → Option (Nat × Nat)) (cells : List SC) : List (Nat × Operand) → (Operand → Option SV) → Option (List SC)
  | [], _ => some cells
  | (i, x) :: r, get =>
    match place i, get x with
    | some q, some (.one v) => if decide (v.cells.length = q.2) && decide (q.1 + q.2 ≤ cells.length) then fillV place (over q.1 cells v.cells) r get else none
    | _, _ => none

def litOpt (s : St) : Option Operand → Option (Option Int)
  | none => some none
  | some x => match s.get x with
    | some (.one (.sc (.int _ (.lit n)))) => some (some n)
    | _ => none

def binV (P : Program) (s : St) (op : BinOp) (T : TypeId) (x y : Operand) : Option VRes :=
  match s.get x, s.get y with
  | some (.one (.sc (.int k a))), some (.one (.sc (.int k' b))) =>
    match op with
    | .shl | .shr =>
      match b with
      | .lit n => if decide (0 ≤ n) then some (.prim (.bin op k) [a, b] (some k)) else none
      | .var _ => none
    | .quo | .rem =>
      match b with
      | .lit n => if decide (k = k') && !decide (n = 0) then some (.prim (.bin op k) [a, b] (some k)) else none
      | .var _ => none
    | op => if decide (k = k') then some (.prim (.bin op k) [a, b] (if isCmp op then none else some k)) else none
  | some (.one (.sc (.bool a))), some (.one (.sc (.bool b))) =>
    match op, P.underlying T with
    | .eql, some .bool => some (.prim .beq [a, b] none)
    | _, _ => none
  | some (.one (.agg xs)), some (.one (.agg ys)) =>
    if P.eqGuardType P.depth T then none else
    match op, eqV P 9 T (.agg xs) (.agg ys) with
    | .eql, some l => some (.prim (.eqs (l.map (·.1))) (flat l) none)
    | .neq, some l => some (.prim (.nes (l.map (·.1))) (flat l) none)
    | _, _ => none
  | _, _ => none

/-- An operation that neither writes nor makes memory, nor calls. -/
def opV (P : Program) (s : St) (op : Op) : Option VRes :=
  match op with
  | .move x | .assign x => (s.get x).map .val
  | .nilCheck x =>
    match s.get x with
    | some (.one (.sc (.ptr o d))) => some (.val (.one (.sc (.ptr o d))))
    | _ => none
  | .fieldAddr T x f =>
    match P.underlying T, s.get x with
    | some (.struct fs), some (.one (.sc (.ptr o d))) =>
      match fs[f]? with
      | some fl => match szOf P fl.type with
        | some n => if n = 0 then none else some (.val (.one (.sc (.ptr o (d + fl.offset)))))
        | none => none
      | none => none
    | _, _ => none
  | .indexAddr T x i =>
    match s.get i with
    | some (.one (.sc (.int _ (.lit n)))) =>
      match P.underlying T, s.get x with
      | some (.array len el), some (.one (.sc (.ptr o d))) =>
        match szOf P el with
        | some z => if decide (0 ≤ n) && decide (n < (len : Int)) then some (.val (.one (.sc (.ptr o (d + n.toNat * z))))) else none
        | none => none
      | some (.slice el), some (.one (.sc (.slice o d len _))) =>
        match szOf P el with
        | some z => if decide (0 ≤ n) && decide (n < (len : Int)) then some (.val (.one (.sc (.ptr o (d + n.toNat * z))))) else none
        | none => none
      | _, _ => none
    | _ => none
  | .load T x =>
    match s.get x with
    | some (.one (.sc (.ptr o d))) =>
      match s.mem[o]? with
      | some so =>
        match isAggB P T, szOf P T with
        | some true, some n => if decide (d + n ≤ so.cells.length) then some (.val (.one (.agg ((so.cells.drop d).take n)))) else none
        | some false, _ => (so.cells[d]?).map fun c => .val (.one (.sc c))
        | _, _ => none
      | none => none
    | _ => none
  | .binOp op T x y _ => binV P s op T x y
  | .unOp .not _ x =>
    match s.get x with
    | some (.one (.sc (.bool a))) => some (.prim .neg [a] none)
    | _ => none
  | .unOp .neg _ x =>
    match s.get x with
    | some (.one (.sc (.int k a))) => some (.prim (.bin .sub k) [.lit 0, a] (some k))
    | _ => none
  | .unOp .xor _ x =>
    match s.get x with
    | some (.one (.sc (.int k a))) => some (.prim (.bin .xor k) [.lit (if k.signed then -1 else k.max), a] (some k))
    | _ => none
  | .convert src dst x =>
    match s.get x with
    | some (.one (.sc (.int _ a))) =>
      match P.underlying src, P.underlying dst with
      | some _, some (.int k) => some (.prim (.conv k) [a] (some k))
      | _, _ => none
    | _ => none
  | .field T x f =>
    match P.underlying T, s.get x with
    | some (.struct fs), some (.one (.agg cs)) =>
      match fs[f]? with
      | some fl => (partOf P fl.type cs fl.offset).map .val
      | none => none
    | _, _ => none
  | .index T x i =>
    match s.get i with
    | some (.one (.sc (.int _ (.lit n)))) =>
      match P.underlying T, s.get x with
      | some (.array len el), some (.one (.agg cs)) =>
        match szOf P el with
        | some z => if decide (0 ≤ n) && decide (n < (len : Int)) then (partOf P el cs (n.toNat * z)).map .val else none
        | none => none
      | _, _ => none
    | _ => none
  | .extract t i =>
    match s.get t with
    | some (.tup vs) => (vs[i]?).map fun v => .val (.one v)
    | _ => none
  | .pick c a b =>
    match s.get c with
    | some (.one (.sc (.bool x))) =>
      match known s.asm x with
      | some true => (s.get a).map .val
      | some false => (s.get b).map .val
      | none => none
    | _ => none
  | .slice T x lo hi none =>
    match P.underlying T, s.get x, litOpt s lo, litOpt s hi with
    | some (.array n el), some (.one (.sc (.ptr o d))), some l, some h =>
      match szOf P el with
      | some z =>
        let h := h.getD n
        let l := l.getD 0
        if decide (0 ≤ l) && decide (l ≤ h) && decide (h ≤ (n : Int)) then
          some (.val (.one (.sc (.slice o (if n = l.toNat then d else d + l.toNat * z) (h.toNat - l.toNat) (n - l.toNat)))))
        else none
      | none => none
    | some (.slice el), some (.one (.sc (.slice o d len cap))), some l, some h =>
      match szOf P el with
      | some z =>
        let h := h.getD len
        let l := l.getD 0
        if decide (0 ≤ l) && decide (l ≤ h) && decide (h ≤ (cap : Int)) then
          some (.val (.one (.sc (.slice o (if cap = l.toNat then d else d + l.toNat * z) (h.toNat - l.toNat) (cap - l.toNat)))))
        else none
      | none => none
    | _, _, _, _ => none
  | .sliceToArrayPointer T x =>
    match P.underlying T, s.get x with
    | some (.array n _), some (.one (.sc (.slice o d len _))) => if decide (n ≤ len) then some (.val (.one (.sc (.ptr o d)))) else none
    | _, _ => none
  | .build T parts =>
    match (P.info? T).bind (·.zero) with
    | some z => match ofCells z.cells.toList with
      | some cs =>
        match P.underlying T with
        | some (.struct fs) =>
          if fs.toList.all (fun f => (szOf P f.type).isSome) then
            (fillV (fun i => (fs[i]?).map fun f => (f.offset, (szOf P f.type).getD 0)) cs parts.toList s.get).map fun l => .val (.one (.agg l))
          else none
        | some (.array _ el) => match szOf P el with
          | some n => (fillV (fun i => some (i * n, n)) cs parts.toList s.get).map fun l => .val (.one (.agg l))
          | none => none
        | _ => none
      | none => none
    | none => none
  | .call c =>
    match c.callee, c.args.toList, c.argTypes.toList with
    | .builtin .len, [x], [T] =>
      match s.get x, P.underlying T with
      | some (.one (.sc (.slice _ _ l _))), some (.slice _) => some (.val (.one (.sc (.int .i64 (.lit l)))))
      | _, _ => none
    | _, _, _ => none
  | _ => none

end Go.Proofs.YtfeancgmmonebaaDoor.Sx

