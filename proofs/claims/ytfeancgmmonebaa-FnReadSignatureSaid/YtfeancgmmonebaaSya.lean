/-
  Reckoning with a run's numbers: bounds, and each number as a polynomial over the numbers that came in and quotients by powers of two; all checked by the kernel. Conditions: none; each theorem bears its own.
-/
import Derived.Test.YtfeancgmmonebaaSxj
namespace Go.Proofs.Ytfeancgmmonebaa.Sx
open Go

/-! ## 1. Polynomials -/

abbrev Atom := Nat × Nat
abbrev Mono := List Atom
abbrev Poly := List (Mono × Int)

/-- The atom (i, k): the i-th number divided by 2^k. -/
def atomV (e : List Int) (a : Atom) : Int := e.getD a.1 0 / 2 ^ a.2

def monoV (e : List Int) : Mono → Int
  | [] => 1
  | a :: r => atomV e a * monoV e r

def polyV (e : List Int) : Poly → Int
  | [] => 0
  | t :: r => t.2 * monoV e t.1 + polyV e r

inductive Ord3 where
  | lt
  | eq
  | gt

def cmpA (a b : Atom) : Ord3 :=
  if Nat.blt a.1 b.1 then .lt else if Nat.blt b.1 a.1 then .gt else if Nat.blt a.2 b.2 then .lt else if Nat.blt b.2 a.2 then .gt else .eq

theorem cmpA_eq {a b : Atom} (h : cmpA a b = .eq) : a = b := by
  obtain ⟨x, y⟩ := a
  obtain ⟨u, v⟩ := b
  unfold cmpA at h
  simp only at h
  split at h
  · cases h
  · rename_i h1
    split at h
    · cases h
    · rename_i h2
      split at h
      · cases h
      · rename_i h3
        split at h
        · cases h
        · rename_i h4
          simp only [Nat.blt_eq] at h1 h2 h3 h4
          simp only [Prod.mk.injEq]
          omega

def cmpM : Mono → Mono → Ord3
  | [], [] => .eq
  | [], _ :: _ => .lt
  | _ :: _, [] => .gt
  | a :: l, b :: m => match cmpA a b with
    | .lt => .lt
    | .gt => .gt
    | .eq => cmpM l m

theorem cmpM_eq : ∀ {l m : Mono}, cmpM l m = .eq → l = m
  | [], [], _ => rfl
  | [], _ :: _, h => by cases h
  | _ :: _, [], h => by cases h
  | a :: l, b :: m, h => by
    unfold cmpM at h
    split at h
    · cases h
    · cases h
    · rename_i h1
      rw [cmpA_eq h1, cmpM_eq h]

def pins (m : Mono) (c : Int) : Poly → Poly
  | [] => [(m, c)]
  | t :: r => match cmpM m t.1 with
    | .eq => if c + t.2 = 0 then r else (m, c + t.2) :: r
    | .lt => (m, c) :: t :: r
    | .gt => t :: pins m c r

theorem pins_val (e : List Int) (m : Mono) (c : Int) : ∀ p : Poly, polyV e (pins m c p) = c * monoV e m + polyV e p
  | [] => rfl
  | t :: r => by
    unfold pins
    split
    · rename_i h
      have := cmpM_eq h
      subst this
      split
      · rename_i h0
        have : c * monoV e t.1 + t.2 * monoV e t.1 = 0 := by rw [← Int.add_mul, h0, Int.zero_mul]
        simp only [polyV]
        omega
      · simp only [polyV, Int.add_mul]
        omega
    · rfl
    · simp only [polyV, pins_val e m c r]
      omega

def padd (p q : Poly) : Poly := p.foldr (fun t acc => pins t.1 t.2 acc) q

theorem padd_val (e : List Int) (q : Poly) : ∀ p : Poly, polyV e (padd p q) = polyV e p + polyV e q
  | [] => by simp [padd, polyV]
  | t :: r => by
    have := padd_val e q r
    simp only [padd, List.foldr_cons] at this ⊢
    rw [pins_val, this]
    simp only [polyV]
    omega

def pscale (c : Int) (p : Poly) : Poly := if c = 0 then [] else p.map fun t => (t.1, c * t.2)

theorem pscale_val (e : List Int) (c : Int) (p : Poly) : polyV e (pscale c p) = c * polyV e p := by
  unfold pscale
  split
  · rename_i h
    subst h
    simp [polyV]
  · induction p with
    | nil => simp [polyV]
    | cons t r ih => simp only [List.map_cons, polyV, ih, Int.mul_add, Int.mul_assoc]

def mins (a : Atom) : Mono → Mono
  | [] => [a]
  | b :: r => match cmpA a b with
    | .gt => b :: mins a r
    | _ => a :: b :: r

theorem mins_val (e : List Int) (a : Atom) : ∀ m : Mono, monoV e (mins a m) = atomV e a * monoV e m
  | [] => rfl
  | b :: r => by
    unfold mins
    split
    · simp only [monoV, mins_val e a r, Int.mul_left_comm]
    · rfl

def mmul (l m : Mono) : Mono := l.foldr mins m

theorem mmul_val (e : List Int) (m : Mono) : ∀ l : Mono, monoV e (mmul l m) = monoV e l * monoV e m
  | [] => by simp [mmul, monoV]
  | a :: l => by
    have := mmul_val e m l
    simp only [mmul, List.foldr_cons] at this ⊢
    rw [mins_val, this]
    simp only [monoV, Int.mul_assoc]

def pterm (m : Mono) (c : Int) (q : Poly) : Poly := q.foldr (fun t acc => pins (mmul m t.1) (c * t.2) acc) []

theorem pterm_val (e : List Int) (m : Mono) (c : Int) : ∀ q : Poly, polyV e (pterm m c q) = c * monoV e m * polyV e q
  | [] => by simp [pterm, polyV]
  | t :: r => by
    have := pterm_val e m c r
    simp only [pterm, List.foldr_cons] at this ⊢
    rw [pins_val, this, mmul_val]
    simp only [polyV, Int.mul_add, Int.mul_assoc, Int.mul_left_comm]

def pmul (p q : Poly) : Poly := p.foldr (fun t acc => padd (pterm t.1 t.2 q) acc) []

theorem pmul_val (e : List Int) (q : Poly) : ∀ p : Poly, polyV e (pmul p q) = polyV e p * polyV e q
  | [] => by simp [pmul, polyV]
  | t :: r => by
    have := pmul_val e q r
    simp only [pmul, List.foldr_cons] at this ⊢
    rw [padd_val, this, pterm_val]
    simp only [polyV, Int.add_mul]

def pconst (n : Int) : Poly := if n = 0 then [] else [([], n)]

theorem pconst_val (e : List Int) (n : Int) : polyV e (pconst n) = n := by
  unfold pconst
  split
  · rename_i h; simp [polyV, h]
  · simp [polyV, monoV]

def patom (a : Atom) : Poly := [([a], 1)]

theorem patom_val (e : List Int) (a : Atom) : polyV e (patom a) = atomV e a := by simp [patom, polyV, monoV]

/-! ## 2. Numbers written out in full -/

structure If where
  lo : Int
  hi : Int
  tz : Nat
  p : Poly

structure IfOk (E : List Int) (x : Int) (f : If) : Prop where
  lo : f.lo ≤ x
  hi : x ≤ f.hi
  tz : (2 : Int) ^ f.tz ∣ x
  val : x = polyV E f.p

def unsB : IntKind → Option Nat
  | .u8 => some 8
  | .u16 => some 16
  | .u32 => some 32
  | .u64 => some 64
  | _ => none

theorem uns_wrap {k : IntKind} {b : Nat} (h : unsB k = some b) (x : Int) : k.wrap x = x % 2 ^ b := by
  cases k <;> simp [unsB] at h <;> subst h <;> simp [IntKind.wrap, IntKind.bits, IntKind.signed]

theorem uns_bits {k : IntKind} {b : Nat} (h : unsB k = some b) : k.bits = b := by
  cases k <;> simp [unsB] at h <;> subst h <;> rfl

theorem mod_in {x : Int} {b : Nat} (h0 : 0 ≤ x) (h1 : x < 2 ^ b) : x % 2 ^ b = x := Int.emod_eq_of_lt h0 h1

def siIf (T : Tr If) : SI → Option If
  | .lit n => some ⟨n, n, 0, pconst n⟩
  | .var i => T.get i

/-- x shifted down by t, as an atom: of a number that is itself an atom, or of the number by its place. -/
def shAtom (x : SI) (f : If) (t : Nat) : Option Atom :=
  match f.p, x with
  | [([(v, k)], 1)], _ => some (v, k + t)
  | _, .var i => some (i, t)
  | _, _ => none

theorem div_pow (x : Int) (a b : Nat) : x / 2 ^ a / 2 ^ b = x / 2 ^ (a + b) := by
  rw [Int.ediv_ediv_of_nonneg (Int.pow_nonneg (by decide)), Int.pow_add]

theorem shAtom_val {E : List Int} {x : SI} {f : If} {t : Nat} {a : Atom} (h : shAtom x f t = some a) (hf : IfOk E (x.val E) f) : atomV E a = x.val E / 2 ^ t := by
  unfold shAtom at h
  split at h
  · rename_i p x' v k hp
    cases h
    have := hf.val
    rw [hp] at this
    simp [polyV, monoV] at this
    rw [this]
    simp only [atomV, div_pow]
  · cases h
    rfl
  · cases h

def isMask (m : Int) : Option Nat :=
  let t := Nat.log2 (m.toNat + 1)
  if decide (m = 2 ^ t - 1) then some t else none

def fall (b n : Nat) : If := ⟨0, 2 ^ b - 1, 0, patom (n, 0)⟩
def bit (n : Nat) : If := ⟨0, 1, 0, patom (n, 0)⟩

def bitsFor (x : Int) : Nat := Nat.log2 x.toNat + 1

def addIf (f g : If) : If := ⟨f.lo + g.lo, f.hi + g.hi, min f.tz g.tz, padd f.p g.p⟩
def scaleIf (s : Nat) (f : If) : If := ⟨f.lo * 2 ^ s, f.hi * 2 ^ s, f.tz + s, pscale (2 ^ s) f.p⟩
def modIf (t : Nat) (a : Atom) (f : If) : If := ⟨0, 2 ^ t - 1, min f.tz t, padd (pscale (-(2 ^ t)) (patom a)) f.p⟩
def shrIf (t : Nat) (a : Atom) (f : If) : If := ⟨f.lo / 2 ^ t, f.hi / 2 ^ t, 0, if f.lo / 2 ^ t = f.hi / 2 ^ t then pconst (f.lo / 2 ^ t) else patom a⟩

/-- The number at place n: what is known of 'op' at x and y. -/
def binIf (op : BinOp) (b n : Nat) (x y : SI) (f g : If) : Option If :=
  match op with
  | .add => if decide (0 ≤ f.lo + g.lo) && decide (f.hi + g.hi < 2 ^ b) then some (addIf f g) else some (fall b n)
  | .sub => if decide (0 ≤ f.lo - g.hi) && decide (f.hi - g.lo < 2 ^ b) then some ⟨f.lo - g.hi, f.hi - g.lo, min f.tz g.tz, padd (pscale (-1) g.p) f.p⟩ else some (fall b n)
  | .mul => if decide (0 ≤ f.lo) && decide (0 ≤ g.lo) && decide (f.hi * g.hi < 2 ^ b) then some ⟨f.lo * g.lo, f.hi * g.hi, f.tz + g.tz, pmul f.p g.p⟩ else some (fall b n)
  | .and =>
    if decide (0 ≤ f.lo) && decide (0 ≤ g.lo) && decide (f.hi < 2 ^ b) && decide (g.hi < 2 ^ b) then
      match y with
      | .lit m => match isMask m with
        | some t => if decide (f.hi < 2 ^ t) then some f else (shAtom x f t).map fun a => modIf t a f
        | none => some ⟨0, m, 0, patom (n, 0)⟩
      | .var _ => if decide (f.hi ≤ 1) && decide (g.hi ≤ 1) then some ⟨0, 1, 0, pmul f.p g.p⟩ else some ⟨0, f.hi, 0, patom (n, 0)⟩
    else some (fall b n)
  | .or =>
    if decide (0 ≤ f.lo) && decide (0 ≤ g.lo) && decide (f.hi < 2 ^ b) && decide (g.hi < 2 ^ b) then
      if decide (f.hi < 2 ^ g.tz) || decide (g.hi < 2 ^ f.tz) then some (addIf f g)
      else if decide (f.hi ≤ 1) && decide (g.hi ≤ 1) then some ⟨0, 1, 0, padd (pscale (-1) (pmul f.p g.p)) (padd f.p g.p)⟩
      else some (fall b n)
    else some (fall b n)
  | .shl => match y with
    | .lit s => if decide (0 ≤ f.lo) && decide (0 ≤ s) && decide (s ≤ b) && decide (f.hi * 2 ^ s.toNat < 2 ^ b) then some (scaleIf s.toNat f) else some (fall b n)
    | .var _ => some (fall b n)
  | .shr => match y with
    | .lit s => if decide (0 ≤ f.lo) && decide (0 ≤ s) && decide (s ≤ b) then (shAtom x f s.toNat).map fun a => shrIf s.toNat a f else none
    | .var _ => none
  | .eql | .neq | .lss | .leq | .gtr | .geq => some (bit n)
  | .xor => some (fall b n)
  | .andNot => some (fall b n)
  | .quo => some (fall b n)
  | .rem => none

end Go.Proofs.Ytfeancgmmonebaa.Sx
