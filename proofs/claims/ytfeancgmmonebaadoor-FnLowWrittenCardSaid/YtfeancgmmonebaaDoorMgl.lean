/-
  Two statements' functions as contracts. Printed by gen.py. Conditions: none; each theorem bears its own.
-/
import Derived.Test.YtfeancgmmonebaaDoorMgk
import Derived.Below
import Derived.WalkKit
import Derived.Laws.CopyOwn
import Derived.Deep.RegionLaw
import Derived.Deep.RegionWith
import Derived.Laws.OwnMore
import Derived.Deep.AppendLies
import Derived.Deep.Draws
import Derived.Lib.Hide
import Derived.IntWalk
import Derived.RegionTactic
namespace Go.Proofs.YtfeancgmmonebaaDoor.Sx
open Go Go.Proofs

/-- Two lists, by turns. -/
def twine : List Int → List Int → List Int
  | x :: l, y :: r => x :: y :: twine l r
  | _, _ => []

theorem allEq_twine : ∀ {n : Nat} {l : List Int}, l.length = n → allEq (List.replicate n false) (twine l l) = true
  | 0, [], _ => rfl
  | n + 1, x :: l, h => by
    simp only [List.replicate_succ, twine, allEq, decide_true, Bool.false_eq_true, if_false, Bool.true_and]
    exact allEq_twine (by simpa using h)

def q_fnfset_0 : Path := ⟨[.pr (.eqs [false, false, false, false, false, false, false, false, false, false, false, false, false, false, false, false, false, false, false, false, false, false, false, false, false, false, false, false, false, false, false, false]) [.var 33, .var 80, .var 34, .var 81, .var 35, .var 82, .var 36, .var 83, .var 37, .var 84, .var 38, .var 85, .var 39, .var 86, .var 40, .var 87, .var 41, .var 88, .var 42, .var 89, .var 43, .var 90, .var 44, .var 91, .var 45, .var 92, .var 46, .var 93, .var 47, .var 94, .var 48, .var 95, .var 49, .var 96, .var 50, .var 97, .var 51, .var 98, .var 52, .var 99, .var 53, .var 100, .var 54, .var 101, .var 55, .var 102, .var 56, .var 103, .var 57, .var 104, .var 58, .var 105, .var 59, .var 106, .var 60, .var 107, .var 61, .var 108, .var 62, .var 109, .var 63, .var 110, .var 64, .var 111], .app 5 [.var 76, .var 77, .var 78, .var 79] 32, .app 4 [.var 0, .var 1, .var 2, .var 3, .var 4, .var 5, .var 6, .var 7, .var 8, .var 9, .var 10, .var 11, .var 12, .var 13, .var 14, .var 15, .var 16, .var 17, .var 18, .var 19, .var 20, .var 21, .var 22, .var 23, .var 24, .var 25, .var 26, .var 27, .var 28, .var 29, .var 30, .var 31] 4, .pr (.beq) [.var 32, .var 74], .pr (.neg) [.var 73], .app 2 [.var 65, .var 66, .var 67, .var 68, .var 69, .var 70, .var 71, .var 72] 1, .app 3 [] 4, .app 1 [.var 0, .var 1, .var 2, .var 3, .var 4, .var 5, .var 6, .var 7, .var 8, .var 9, .var 10, .var 11, .var 12, .var 13, .var 14, .var 15, .var 16, .var 17, .var 18, .var 19, .var 20, .var 21, .var 22, .var 23, .var 24, .var 25, .var 26, .var 27, .var 28, .var 29, .var 30, .var 31] 4, .app 0 [.var 0, .var 1, .var 2, .var 3, .var 4, .var 5, .var 6, .var 7, .var 8, .var 9, .var 10, .var 11, .var 12, .var 13, .var 14, .var 15, .var 16, .var 17, .var 18, .var 19, .var 20, .var 21, .var 22, .var 23, .var 24, .var 25, .var 26, .var 27, .var 28, .var 29, .var 30, .var 31] 33], [(.var 75, true)], [.var 112]⟩
def q_fnfset_1 : Path := ⟨[.pr (.beq) [.var 32, .var 74], .pr (.neg) [.var 73], .app 2 [.var 65, .var 66, .var 67, .var 68, .var 69, .var 70, .var 71, .var 72] 1, .app 3 [] 4, .app 1 [.var 0, .var 1, .var 2, .var 3, .var 4, .var 5, .var 6, .var 7, .var 8, .var 9, .var 10, .var 11, .var 12, .var 13, .var 14, .var 15, .var 16, .var 17, .var 18, .var 19, .var 20, .var 21, .var 22, .var 23, .var 24, .var 25, .var 26, .var 27, .var 28, .var 29, .var 30, .var 31] 4, .app 0 [.var 0, .var 1, .var 2, .var 3, .var 4, .var 5, .var 6, .var 7, .var 8, .var 9, .var 10, .var 11, .var 12, .var 13, .var 14, .var 15, .var 16, .var 17, .var 18, .var 19, .var 20, .var 21, .var 22, .var 23, .var 24, .var 25, .var 26, .var 27, .var 28, .var 29, .var 30, .var 31] 33], [(.var 75, false)], [.lit 0]⟩
def ps_fnfset : List Path := [q_fnfset_0, q_fnfset_1]
def Pre_fnfset (b : List Int) : Prop := Dg 8 b
def F_fnfset (_ : List Int) : List Int := [1]
theorem fnfset_c (e0 e1 e2 e3 e4 e5 : Entry) (b0 b1 b2 b3 b4 b5 b6 b7 b8 b9 b10 b11 b12 b13 b14 b15 b16 b17 b18 b19 b20 b21 b22 b23 b24 b25 b26 b27 b28 b29 b30 b31 : Int) : (SI.var 75).val (runR [e0, e1, e2, e3, e4, e5] q_fnfset_0.defs [b0, b1, b2, b3, b4, b5, b6, b7, b8, b9, b10, b11, b12, b13, b14, b15, b16, b17, b18, b19, b20, b21, b22, b23, b24, b25, b26, b27, b28, b29, b30, b31]) =
    if (((fit 33 (e0.F [b0, b1, b2, b3, b4, b5, b6, b7, b8, b9, b10, b11, b12, b13, b14, b15, b16, b17, b18, b19, b20, b21, b22, b23, b24, b25, b26, b27, b28, b29, b30, b31])).headD 0 != 0) == ((if (fit 1 (e2.F (fit 4 (e1.F [b0, b1, b2, b3, b4, b5, b6, b7, b8, b9, b10, b11, b12, b13, b14, b15, b16, b17, b18, b19, b20, b21, b22, b23, b24, b25, b26, b27, b28, b29, b30, b31]) ++ fit 4 (e3.F [])))).headD 0 = 0 then (1 : Int) else 0) != 0)) = true then 1 else 0 := by kernel_rfl

theorem fnfset_d (e0 e1 e2 e3 e4 e5 : Entry) (b0 b1 b2 b3 b4 b5 b6 b7 b8 b9 b10 b11 b12 b13 b14 b15 b16 b17 b18 b19 b20 b21 b22 b23 b24 b25 b26 b27 b28 b29 b30 b31 : Int) : (SI.var 75).val (runR [e0, e1, e2, e3, e4, e5] q_fnfset_1.defs [b0, b1, b2, b3, b4, b5, b6, b7, b8, b9, b10, b11, b12, b13, b14, b15, b16, b17, b18, b19, b20, b21, b22, b23, b24, b25, b26, b27, b28, b29, b30, b31]) =
    if (((fit 33 (e0.F [b0, b1, b2, b3, b4, b5, b6, b7, b8, b9, b10, b11, b12, b13, b14, b15, b16, b17, b18, b19, b20, b21, b22, b23, b24, b25, b26, b27, b28, b29, b30, b31])).headD 0 != 0) == ((if (fit 1 (e2.F (fit 4 (e1.F [b0, b1, b2, b3, b4, b5, b6, b7, b8, b9, b10, b11, b12, b13, b14, b15, b16, b17, b18, b19, b20, b21, b22, b23, b24, b25, b26, b27, b28, b29, b30, b31]) ++ fit 4 (e3.F [])))).headD 0 = 0 then (1 : Int) else 0) != 0)) = true then 1 else 0 := by kernel_rfl

theorem fnfset_o (e0 e1 e2 e3 e4 e5 : Entry) (b0 b1 b2 b3 b4 b5 b6 b7 b8 b9 b10 b11 b12 b13 b14 b15 b16 b17 b18 b19 b20 b21 b22 b23 b24 b25 b26 b27 b28 b29 b30 b31 : Int) : q_fnfset_0.out [e0, e1, e2, e3, e4, e5] [b0, b1, b2, b3, b4, b5, b6, b7, b8, b9, b10, b11, b12, b13, b14, b15, b16, b17, b18, b19, b20, b21, b22, b23, b24, b25, b26, b27, b28, b29, b30, b31] = [if allEq (List.replicate 32 false) (twine (fit 33 (e0.F [b0, b1, b2, b3, b4, b5, b6, b7, b8, b9, b10, b11, b12, b13, b14, b15, b16, b17, b18, b19, b20, b21, b22, b23, b24, b25, b26, b27, b28, b29, b30, b31])).tail (fit 32 (e5.F (fit 4 (e4.F [b0, b1, b2, b3, b4, b5, b6, b7, b8, b9, b10, b11, b12, b13, b14, b15, b16, b17, b18, b19, b20, b21, b22, b23, b24, b25, b26, b27, b28, b29, b30, b31]))))) = true then 1 else 0] := by kernel_rfl

def q_fnsset_0 : Path := ⟨[.pr (.eqs [false, false, false, false, false, false, false, false, false, false, false, false, false, false, false, false, false, false, false, false, false, false, false, false, false, false, false, false, false, false, false, false]) [.var 33, .var 80, .var 34, .var 81, .var 35, .var 82, .var 36, .var 83, .var 37, .var 84, .var 38, .var 85, .var 39, .var 86, .var 40, .var 87, .var 41, .var 88, .var 42, .var 89, .var 43, .var 90, .var 44, .var 91, .var 45, .var 92, .var 46, .var 93, .var 47, .var 94, .var 48, .var 95, .var 49, .var 96, .var 50, .var 97, .var 51, .var 98, .var 52, .var 99, .var 53, .var 100, .var 54, .var 101, .var 55, .var 102, .var 56, .var 103, .var 57, .var 104, .var 58, .var 105, .var 59, .var 106, .var 60, .var 107, .var 61, .var 108, .var 62, .var 109, .var 63, .var 110, .var 64, .var 111], .app 5 [.var 76, .var 77, .var 78, .var 79] 32, .app 4 [.var 0, .var 1, .var 2, .var 3, .var 4, .var 5, .var 6, .var 7, .var 8, .var 9, .var 10, .var 11, .var 12, .var 13, .var 14, .var 15, .var 16, .var 17, .var 18, .var 19, .var 20, .var 21, .var 22, .var 23, .var 24, .var 25, .var 26, .var 27, .var 28, .var 29, .var 30, .var 31] 4, .pr (.beq) [.var 32, .var 74], .pr (.neg) [.var 73], .app 2 [.var 65, .var 66, .var 67, .var 68, .var 69, .var 70, .var 71, .var 72] 1, .app 3 [] 4, .app 1 [.var 0, .var 1, .var 2, .var 3, .var 4, .var 5, .var 6, .var 7, .var 8, .var 9, .var 10, .var 11, .var 12, .var 13, .var 14, .var 15, .var 16, .var 17, .var 18, .var 19, .var 20, .var 21, .var 22, .var 23, .var 24, .var 25, .var 26, .var 27, .var 28, .var 29, .var 30, .var 31] 4, .app 0 [.var 0, .var 1, .var 2, .var 3, .var 4, .var 5, .var 6, .var 7, .var 8, .var 9, .var 10, .var 11, .var 12, .var 13, .var 14, .var 15, .var 16, .var 17, .var 18, .var 19, .var 20, .var 21, .var 22, .var 23, .var 24, .var 25, .var 26, .var 27, .var 28, .var 29, .var 30, .var 31] 33], [(.var 75, true)], [.var 112]⟩
def q_fnsset_1 : Path := ⟨[.pr (.beq) [.var 32, .var 74], .pr (.neg) [.var 73], .app 2 [.var 65, .var 66, .var 67, .var 68, .var 69, .var 70, .var 71, .var 72] 1, .app 3 [] 4, .app 1 [.var 0, .var 1, .var 2, .var 3, .var 4, .var 5, .var 6, .var 7, .var 8, .var 9, .var 10, .var 11, .var 12, .var 13, .var 14, .var 15, .var 16, .var 17, .var 18, .var 19, .var 20, .var 21, .var 22, .var 23, .var 24, .var 25, .var 26, .var 27, .var 28, .var 29, .var 30, .var 31] 4, .app 0 [.var 0, .var 1, .var 2, .var 3, .var 4, .var 5, .var 6, .var 7, .var 8, .var 9, .var 10, .var 11, .var 12, .var 13, .var 14, .var 15, .var 16, .var 17, .var 18, .var 19, .var 20, .var 21, .var 22, .var 23, .var 24, .var 25, .var 26, .var 27, .var 28, .var 29, .var 30, .var 31] 33], [(.var 75, false)], [.lit 0]⟩
def ps_fnsset : List Path := [q_fnsset_0, q_fnsset_1]
def Pre_fnsset (b : List Int) : Prop := Dg 8 b
def F_fnsset (_ : List Int) : List Int := [1]
theorem fnsset_c (e0 e1 e2 e3 e4 e5 : Entry) (b0 b1 b2 b3 b4 b5 b6 b7 b8 b9 b10 b11 b12 b13 b14 b15 b16 b17 b18 b19 b20 b21 b22 b23 b24 b25 b26 b27 b28 b29 b30 b31 : Int) : (SI.var 75).val (runR [e0, e1, e2, e3, e4, e5] q_fnsset_0.defs [b0, b1, b2, b3, b4, b5, b6, b7, b8, b9, b10, b11, b12, b13, b14, b15, b16, b17, b18, b19, b20, b21, b22, b23, b24, b25, b26, b27, b28, b29, b30, b31]) =
    if (((fit 33 (e0.F [b0, b1, b2, b3, b4, b5, b6, b7, b8, b9, b10, b11, b12, b13, b14, b15, b16, b17, b18, b19, b20, b21, b22, b23, b24, b25, b26, b27, b28, b29, b30, b31])).headD 0 != 0) == ((if (fit 1 (e2.F (fit 4 (e1.F [b0, b1, b2, b3, b4, b5, b6, b7, b8, b9, b10, b11, b12, b13, b14, b15, b16, b17, b18, b19, b20, b21, b22, b23, b24, b25, b26, b27, b28, b29, b30, b31]) ++ fit 4 (e3.F [])))).headD 0 = 0 then (1 : Int) else 0) != 0)) = true then 1 else 0 := by kernel_rfl

theorem fnsset_d (e0 e1 e2 e3 e4 e5 : Entry) (b0 b1 b2 b3 b4 b5 b6 b7 b8 b9 b10 b11 b12 b13 b14 b15 b16 b17 b18 b19 b20 b21 b22 b23 b24 b25 b26 b27 b28 b29 b30 b31 : Int) : (SI.var 75).val (runR [e0, e1, e2, e3, e4, e5] q_fnsset_1.defs [b0, b1, b2, b3, b4, b5, b6, b7, b8, b9, b10, b11, b12, b13, b14, b15, b16, b17, b18, b19, b20, b21, b22, b23, b24, b25, b26, b27, b28, b29, b30, b31]) =
    if (((fit 33 (e0.F [b0, b1, b2, b3, b4, b5, b6, b7, b8, b9, b10, b11, b12, b13, b14, b15, b16, b17, b18, b19, b20, b21, b22, b23, b24, b25, b26, b27, b28, b29, b30, b31])).headD 0 != 0) == ((if (fit 1 (e2.F (fit 4 (e1.F [b0, b1, b2, b3, b4, b5, b6, b7, b8, b9, b10, b11, b12, b13, b14, b15, b16, b17, b18, b19, b20, b21, b22, b23, b24, b25, b26, b27, b28, b29, b30, b31]) ++ fit 4 (e3.F [])))).headD 0 = 0 then (1 : Int) else 0) != 0)) = true then 1 else 0 := by kernel_rfl

theorem fnsset_o (e0 e1 e2 e3 e4 e5 : Entry) (b0 b1 b2 b3 b4 b5 b6 b7 b8 b9 b10 b11 b12 b13 b14 b15 b16 b17 b18 b19 b20 b21 b22 b23 b24 b25 b26 b27 b28 b29 b30 b31 : Int) : q_fnsset_0.out [e0, e1, e2, e3, e4, e5] [b0, b1, b2, b3, b4, b5, b6, b7, b8, b9, b10, b11, b12, b13, b14, b15, b16, b17, b18, b19, b20, b21, b22, b23, b24, b25, b26, b27, b28, b29, b30, b31] = [if allEq (List.replicate 32 false) (twine (fit 33 (e0.F [b0, b1, b2, b3, b4, b5, b6, b7, b8, b9, b10, b11, b12, b13, b14, b15, b16, b17, b18, b19, b20, b21, b22, b23, b24, b25, b26, b27, b28, b29, b30, b31])).tail (fit 32 (e5.F (fit 4 (e4.F [b0, b1, b2, b3, b4, b5, b6, b7, b8, b9, b10, b11, b12, b13, b14, b15, b16, b17, b18, b19, b20, b21, b22, b23, b24, b25, b26, b27, b28, b29, b30, b31]))))) = true then 1 else 0] := by kernel_rfl

end Go.Proofs.YtfeancgmmonebaaDoor.Sx

/-
  From contracts to calls: what a call of a known function gives, told of values and of whole blocks. Conditions: none; each theorem bears its own.
-/
namespace Go.Proofs.YtfeancgmmonebaaDoor.Sx
open Go Go.Proofs Go.RowKit

theorem kcells_at (k : IntKind) (o : List (Nat × Nat)) : ∀ (l pre post E : List Int) (n m : Nat), E = pre ++ (l ++ post) → pre.length = n → l.length = m →
    (kcells n (List.replicate m (some k))).map (SC.den ⟨E, o⟩) = l.map (Value.int k)
  | [], pre, post, E, n, m, _, _, hm => by
    obtain rfl : m = 0 := by simpa using hm.symm
    rfl
  | x :: l, pre, post, E, n, m, hE, hn, hm => by
    obtain ⟨m, rfl⟩ : ∃ q, m = q + 1 := ⟨m - 1, by simp at hm; omega⟩
    have := kcells_at k o l (pre ++ [x]) post E (n + 1) m (by simpa using hE) (by simp [hn]) (by simpa using hm)
    simp only [List.replicate_succ, kcells, List.map_cons, this]
    congr 1
    subst hE
    simp [mkSC, SC.den, SI.val, List.getD, ← hn]

theorem kcells_length : ∀ (ks : List CK) (n : Nat), (kcells n ks).length = ks.length
  | [], _ => rfl
  | k :: ks, n => by simp [kcells, kcells_length ks]

theorem rekey_kcells (k : IntKind) : ∀ (m n n' : Nat), rekey n' (kcells n (List.replicate m (some k))) = kcells n' (List.replicate m (some k))
  | 0, _, _ => rfl
  | m + 1, n, n' => by simp [List.replicate_succ, kcells, mkSC, rekey, rekey_kcells k m (n + 1) (n' + 1)]

/-- Block g alone, and what is new, may have turned. -/
structure Only (g : Nat) (w w' : World) : Prop where
  os : w'.os = w.os
  tape : w'.tape = w.tape
  output : w'.output = w.output
  size : w.heap.size ≤ w'.heap.size
  block : ∀ k, k < w.heap.size → k ≠ g → w'.heap[k]? = w.heap[k]?

theorem Only.below {B g : Nat} {w0 w w' : World} (h : Only g w w') (hb : Below B w0 w) (hB : B ≤ w0.heap.size) (hg : B ≤ g) : Below B w0 w' :=
  hb.trans ⟨h.os, h.tape, h.output, h.size, fun k hk => by
    rcases Nat.lt_or_ge k w.heap.size with h1 | h1
    · exact h.block k h1 (by omega)
    · exact absurd hk (by have := hb.size; omega)⟩

theorem only_of_below {g : Nat} {w w' : World} (h : Below w.heap.size w w') : Only g w w' := ⟨h.os, h.tape, h.output, h.size, fun k hk _ => h.block k hk⟩

theorem Only.trans {g : Nat} {a b c : World} (h : Only g a b) (h' : Only g b c) : Only g a c :=
  ⟨h'.os.trans h.os, h'.tape.trans h.tape, h'.output.trans h.output, Nat.le_trans h.size h'.size, fun k hk hne => (h'.block k (Nat.lt_of_lt_of_le hk h.size) hne).trans (h.block k hk hne)⟩

theorem Fr.only {W : Nat → Nat → Prop} {w w' : World} (h : Fr W w w') {g : Nat} (hw : ∀ k j, W k j → k = g) : Only g w w' := by
  refine ⟨h.os, h.tape, h.output, h.size, fun k hk hne => ?_⟩
  rcases h.block k hk with h1 | ⟨x, x', e, fz, h1, h2, h3, h4⟩
  · exact h1
  · rw [h1, h2]
    have : x' = x := by
      apply Array.ext_getElem?
      intro j
      exact h4 j fun hq => hne (hw k j hq)
    rw [this]

/-- A block whose cells are known behind. -/
theorem Fr.known {W : Nat → Nat → Prop} {w w' : World} (h : Fr W w w') {g : Nat} {c : Array Value} {T : TypeId} {fz : Nat × Nat} (hb : w.heap[g]? = some (.cells c T fz)) {c' : List Value} (hl : c'.length = c.size)
    (hc : ∀ j v, c'[j]? = some v → w'.cell? ⟨g, j, none⟩ = some v) : w'.heap[g]? = some (.cells c'.toArray T fz) := by
  have hg : g < w.heap.size := by
    rcases Nat.lt_or_ge g w.heap.size with h' | h'
    · exact h'
    · rw [Array.getElem?_eq_none h'] at hb; cases hb
  obtain ⟨x', h2, h3⟩ : ∃ x', w'.heap[g]? = some (.cells x' T fz) ∧ x'.size = c.size := by
    rcases h.block g hg with h1 | ⟨x, x', e, fz', h1, h2, h3, h4⟩
    · exact ⟨c, h1.trans hb, rfl⟩
    · rw [hb] at h1
      cases h1
      exact ⟨x', h2, h3⟩
  have : x' = c'.toArray := by
    apply Array.ext
    · simp [h3, hl]
    · intro j h5 h6
      have := hc j c'[j] (by simp)
      simp only [World.cell?, h2] at this
      simpa [h5] using this
  rw [h2, this]

theorem ObjOk.whole {w : World} {ρ : En} {o g : Nat} {cells : List SC} {wr : Bool} {T : TypeId} {cs : List Value} (hb : w.heap[g]? = some (.cells cs.toArray T (0, 0))) (hg : ρ.blk o = g) (h0 : ρ.off o = 0)
    (hc : cells.map (SC.den ρ) = cs) : ObjOk w ρ o ⟨cells, wr⟩ := by
  subst hg
  subst hc
  refine ⟨?_, fun j c hj => ?_, fun _ j hj => ?_⟩
  · rcases Nat.lt_or_ge (ρ.blk o) w.heap.size with h' | h'
    · exact h'
    · rw [Array.getElem?_eq_none h'] at hb; cases hb
  · simp only [World.cell?, hb, h0, Nat.zero_add]
    simp only at hj
    simp [hj]
  · simp [World.frozen?, hb]

/-- A call by its contract. -/
theorem Meets.calls {P : Program} {e : Entry} (hm : Meets P e) (hgo : goFunc P e.f = true) {base : List Int} {bs : List (Nat × Nat)} {w : World} (hl : base.length = (ini e.args).n) (hbs : bs.length = (ini e.args).mem.length)
    (hpre : e.free = false → e.Pre base) (hmem : MemOk w ⟨base, bs⟩ (ini e.args).mem) (hdis : Dis ⟨base, bs⟩ (ini e.args).mem) :
    Calls P e.f ((ini e.args).args.map (SV.den ⟨base, bs⟩)).toArray w fun en w' =>
      ∃ nb : List (Nat × Nat), (ini e.args).mem.length + nb.length = (fin e).mem.length ∧ (∀ q ∈ nb, w.heap.size ≤ q.1) ∧ Dis (e.env base bs nb) (fin e).mem ∧
        en = .returned ((retOf (fin e).res).den (e.env base bs nb)) ∧ MemOk w' (e.env base bs nb) (fin e).mem ∧ Fr (WOf ⟨base, bs⟩ (ini e.args).mem) w w' := by
  have h := hm base bs w hl hbs hpre hmem hdis
  have hrun := goFunc_run hgo ((ini e.args).args.map (SV.den ⟨base, bs⟩)).toArray w
  rcases h with ⟨_, h⟩ | ⟨v, h, _⟩
  · exact h
  · rw [hrun] at h
    cases h

/-- A call that is handed no memory. -/
theorem Meets.pure {P : Program} {e : Entry} (hm : Meets P e) (hgo : goFunc P e.f = true) {base out : List Int} (hl : base.length = (ini e.args).n) (hmem : (ini e.args).mem = []) (hpre : e.free = false → e.Pre base) (hF : e.F base = out)
    {args : List Value} (hargs : (ini e.args).args.map (SV.den ⟨base, []⟩) = args) {v : Value} (hv : ∀ nb, (retOf (fin e).res).den ⟨base ++ fit ((fin e).n - (ini e.args).n) out, nb⟩ = v) (w : World) :
    Calls P e.f args.toArray w fun en w' => en = .returned v ∧ Below w.heap.size w w' := by
  subst hargs
  refine (hm.calls hgo (base := base) (bs := []) (w := w) hl (by rw [hmem]; rfl) hpre (fun o so ho => by rw [hmem] at ho; simp at ho) (fun p p' a a' _ h1 => by rw [hmem] at h1; simp at h1)).mono ?_
  rintro en w' ⟨nb, _, _, _, hen, _, hfr⟩
  refine ⟨?_, hfr.below (Nat.le_refl _) fun k j _ ⟨o, so, ho, _⟩ => by rw [hmem] at ho; simp at ho⟩
  rw [hen, ← hv nb, ← hF]
  rfl

theorem agg_at (k : IntKind) (o : List (Nat × Nat)) {l pre post E : List Int} {n m : Nat} (hE : E = pre ++ (l ++ post)) (hn : pre.length = n) (hm : l.length = m) :
    (SV.one (.agg (kcells n (List.replicate m (some k))))).den ⟨E, o⟩ = .agg (l.map (Value.int k)).toArray := by
  simp only [SV.den, S1.den, kcells_at k o l pre post E n m hE hn hm]

/-! ## Calls that are handed no memory -/

theorem c_uof {bs : List Int} (hl : bs.length = 32) (hd : Dg 8 bs) (w : World) :
    Calls Tryd.prog 26 #[.agg (bs.map (Value.int .u8)).toArray] w fun en w' => en = .returned (.agg ((dig 64 4 (be bs)).map (Value.int .u64)).toArray) ∧ Below w.heap.size w w' :=
  m_uof.pure (by kernel_rfl) (base := bs) hl rfl (fun h => by cases h) (uof_spec hl hd) (args := [.agg (bs.map (Value.int .u8)).toArray])
    (by
      show [(SV.one (.agg (kcells 0 (List.replicate 32 (some .u8))))).den ⟨bs, []⟩] = _
      rw [agg_at .u8 [] (l := bs) (pre := []) (post := []) (n := 0) (by simp) rfl hl])
    (fun nb => by
      show (SV.one (.agg (kcells 32 (List.replicate 4 (some .u64))))).den ⟨bs ++ fit 4 _, nb⟩ = _
      rw [fit_eq (dig_length 64 4 _)]
      exact agg_at .u64 nb (pre := bs) (post := []) (by simp) hl (dig_length 64 4 _)) w

/-- Calls of SetBytes. -/
theorem c_ssetb {g h : Nat} {T T' : TypeId} {old bs : List Int} {w : World} (ho : old.length = 8) (hod : Dg 32 old) (hl : bs.length = 32) (hd : Dg 8 bs) (hg : w.heap[g]? = some (.cells (old.map (Value.int .u32)).toArray T (0, 0)))
    (hh : w.heap[h]? = some (.cells (bs.map (Value.int .u8)).toArray T' (0, 0))) (hne : g ≠ h) :
    Calls Tryd.prog 38 #[.pointer (some ⟨g, 0, none⟩), .pointer (some ⟨h, 0, none⟩)] w fun en w' =>
      en = .returned (.int .u32 (b01 (decide (fn ≤ be bs)))) ∧ w'.heap[g]? = some (.cells ((dig 32 8 (be bs % fn)).map (Value.int .u32)).toArray T (0, 0)) ∧ Only g w w' := by
  have hF := ssetb_spec ho hod hl hd
  refine (m_ssetb.calls (by kernel_rfl) (base := old ++ bs) (bs := [(g, 0), (h, 0)]) (w := w) (by simp [ho, hl]; rfl) rfl (fun h => by cases h) ?_ ?_).mono ?_
  · intro o so hso
    match o with
    | 0 =>
      obtain rfl : (⟨kcells 0 (List.replicate 8 (some .u32)), true⟩ : SO) = so := Option.some.inj hso
      exact ObjOk.whole hg rfl rfl (kcells_at .u32 _ old [] bs _ 0 8 (by simp) rfl ho)
    | 1 =>
      obtain rfl : (⟨kcells 8 (List.replicate 32 (some .u8)), false⟩ : SO) = so := Option.some.inj hso
      exact ObjOk.whole hh rfl rfl (kcells_at .u8 _ bs old [] _ 8 32 (by simp) ho hl)
    | o + 2 => cases hso
  · intro o o' so so' hoo h1 h2 h3
    match o, o' with
    | 0, 1 => exact .inl hne
    | 1, 0 => exact .inl hne.symm
    | 0, 0 => exact absurd rfl hoo
    | 1, 1 => exact absurd rfl hoo
    | o + 2, _ => cases h1
    | _, o' + 2 => cases h2
  · rintro en w' ⟨nb, hnb, _, _, hen, hm', hfr⟩
    obtain rfl : nb = [] := List.length_eq_zero_iff.1 (by have h : 2 + nb.length = 2 := hnb; omega)
    have hE : e_ssetb.env (old ++ bs) [(g, 0), (h, 0)] [] = ⟨(old ++ bs) ++ (dig 32 8 (be bs % fn) ++ [b01 (decide (fn ≤ be bs))]), [(g, 0), (h, 0)]⟩ := by
      unfold Entry.env
      rw [hF]
      show (⟨_ ++ fit 9 _, _⟩ : En) = _
      rw [fit_eq (by simp [dig_length])]
      rfl
    rw [hE] at hen hm'
    have hW : ∀ k j, WOf ⟨old ++ bs, [(g, 0), (h, 0)]⟩ (ini e_ssetb.args).mem k j → k = g := by
      rintro k j ⟨o, so, hso, hw, hk, _⟩
      match o with
      | 0 => exact hk.symm
      | 1 =>
        obtain rfl : (⟨kcells 8 (List.replicate 32 (some .u8)), false⟩ : SO) = so := Option.some.inj hso
        cases hw
      | o + 2 => cases hso
    refine ⟨?_, ?_, hfr.only hW⟩
    · rw [hen]
      show Ending.returned (Value.int .u32 (List.getD _ 48 0)) = _
      rw [List.getD, List.getElem?_append_right (by simp [ho, hl]), List.getElem?_append_right (by simp [ho, hl, dig_length])]
      simp [ho, hl, dig_length]
    · refine hfr.known hg (by simp [dig_length, ho]) fun j v hj => ?_
      have hob := hm' 0 ⟨kcells 40 (List.replicate 8 (some .u32)), true⟩ rfl
      have hc := kcells_at .u32 [(g, 0), (h, 0)] (dig 32 8 (be bs % fn)) (old ++ bs) [b01 (decide (fn ≤ be bs))] ((old ++ bs) ++ (dig 32 8 (be bs % fn) ++ [b01 (decide (fn ≤ be bs))])) 40 8 (by simp) (by simp [ho, hl]) (dig_length 32 8 _)
      rw [← hc, List.getElem?_map, Option.map_eq_some_iff] at hj
      obtain ⟨c, hj, rfl⟩ := hj
      have := hob.cell j c hj
      exact (congrArg (fun q => w'.cell? ⟨g, q, none⟩) (Nat.zero_add j)).symm.trans this

end Go.Proofs.YtfeancgmmonebaaDoor.Sx

/-
  Contracts of two small functions. Printed by gen.py. Conditions: none; each theorem bears its own.
-/
namespace Go.Proofs.YtfeancgmmonebaaDoor.Sx
open Go Go.Proofs

def p_min : Path := ⟨[.pr (.bin .xor .u32) [.var 1, .var 5], .pr (.bin .and .u32) [.var 2, .var 4], .pr (.bin .sub .u32) [.lit 0, .var 3], .app 0 [.var 0, .var 1] 1, .pr (.bin .xor .u32) [.var 0, .var 1]], [], [.var 6]⟩
def G_min : List Entry := [e_lt]
def e_min : Entry := { f := 47, args := [.int .u32, .int .u32], res := [.int .u32], F := p_min.out G_min }
theorem r_min : runFn Tryd.prog G_min e_min Tryd.f47.ntmps Tryd.f47.results.toList (Tryd.f47.body.getD .skip) = some ([], [p_min]) := by kernel_rfl
theorem m_min : Meets Tryd.prog e_min :=
  meets_single mixed (fun e he => by
    simp only [G_min, List.mem_cons, List.not_mem_nil, or_false] at he
    rcases he with rfl
    · exact m_lt) Tryd.func47 rfl (by kernel_rfl) r_min rfl

def p_zero : Path := ⟨[], [], [.lit 0, .lit 0, .lit 0, .lit 0, .lit 0, .lit 0, .lit 0, .lit 0, .lit 0, .lit 0, .lit 0, .lit 0, .lit 0, .lit 0, .lit 0, .lit 0, .lit 0, .lit 0, .lit 0, .lit 0, .lit 0, .lit 0, .lit 0, .lit 0, .lit 0, .lit 0, .lit 0, .lit 0, .lit 0, .lit 0, .lit 0, .lit 0]⟩
def G_zero : List Entry := []
def e_zero : Entry := { f := 48, args := [.ptr (List.replicate 32 (some .u8)) true], res := [], F := p_zero.out G_zero }
theorem r_zero : runFn Tryd.prog G_zero e_zero Tryd.f48.ntmps Tryd.f48.results.toList (Tryd.f48.body.getD .skip) = some ([], [p_zero]) := by kernel_rfl
theorem m_zero : Meets Tryd.prog e_zero :=
  meets_single mixed (fun e he => by simp [G_zero] at he) Tryd.func48 rfl (by kernel_rfl) r_zero rfl

end Go.Proofs.YtfeancgmmonebaaDoor.Sx

/-
  Bytes of any length as a number: SetByteSlice of scalars and field elements. Conditions: none; each theorem bears its own.
-/
namespace Go.Proofs.YtfeancgmmonebaaDoor.Sx
open Go Go.Proofs Go.RowKit

theorem F_min (x y : Int) (hx0 : 0 ≤ x) (hx : x < 2 ^ 32) (hy0 : 0 ≤ y) (hy : y < 2 ^ 32) : e_min.F [x, y] = [if x < y then x else y] := by
  show [bits .xor .u32 y (bits .and .u32 (bits .xor .u32 x y) (IntKind.u32.wrap (0 - (fit 1 (e_lt.F [x, y])).getD 0 0)))] = _
  rw [F_lt x y hx0 hx hy0 hy, show fit 1 [b01 (decide (x < y))] = [b01 (decide (x < y))] from rfl, bits_xor (k := .u32) (b := 32) rfl hx0 hx hy0 hy]
  have hz : x.toNat ^^^ y.toNat < 2 ^ 32 := Nat.xor_lt_two_pow (toNat_lt hx0 hx) (toNat_lt hy0 hy)
  by_cases h : x < y
  · rw [if_pos h, show (IntKind.u32.wrap (0 - [b01 (decide (x < y))].getD 0 0)) = ((2 ^ 32 - 1 : Nat) : Int) by simp [b01, h, w32]]
    rw [bits_and (k := .u32) (b := 32) rfl (by omega) (by omega) (by omega) (by omega), Int.toNat_natCast, Int.toNat_natCast, Nat.and_two_pow_sub_one_eq_mod, Nat.mod_eq_of_lt hz]
    rw [bits_xor (k := .u32) (b := 32) rfl hy0 hy (by omega) (by omega), Int.toNat_natCast, Nat.xor_comm x.toNat, ← Nat.xor_assoc, Nat.xor_self, Nat.zero_xor]
    congr 1
    omega
  · rw [if_neg h, show (IntKind.u32.wrap (0 - [b01 (decide (x < y))].getD 0 0)) = ((0 : Nat) : Int) by simp [b01, h, w32]]
    rw [bits_and (k := .u32) (b := 32) rfl (by omega) (by omega) (by omega) (by omega), Int.toNat_natCast, Int.toNat_natCast, Nat.and_zero]
    rw [bits_xor (k := .u32) (b := 32) rfl hy0 hy (by omega) (by omega), Int.toNat_natCast, Nat.xor_zero]
    congr 1
    omega

theorem c_min {x y : Int} (hx0 : 0 ≤ x) (hx : x < 2 ^ 32) (hy0 : 0 ≤ y) (hy : y < 2 ^ 32) (w : World) :
    Calls Tryd.prog 47 #[.int .u32 x, .int .u32 y] w fun en w' => en = .returned (.int .u32 (if x < y then x else y)) ∧ Below w.heap.size w w' :=
  m_min.pure (by kernel_rfl) (base := [x, y]) rfl rfl (fun h => by cases h) (F_min x y hx0 hx hy0 hy) (args := [.int .u32 x, .int .u32 y]) rfl (fun nb => rfl) w

theorem c_zero {h : Nat} {T : TypeId} {old : List Int} {w : World} (ho : old.length = 32) (hh : w.heap[h]? = some (.cells (old.map (Value.int .u8)).toArray T (0, 0))) :
    Calls Tryd.prog 48 #[.pointer (some ⟨h, 0, none⟩)] w fun en w' => en = .returned (.tuple #[]) ∧ Only h w w' := by
  refine (m_zero.calls (by kernel_rfl) (base := old) (bs := [(h, 0)]) (w := w) (by simp [ho]; rfl) rfl (fun h => by cases h) ?_ ?_).mono ?_
  · intro o so hso
    match o with
    | 0 =>
      obtain rfl : (⟨kcells 0 (List.replicate 32 (some .u8)), true⟩ : SO) = so := Option.some.inj hso
      exact ObjOk.whole hh rfl rfl (kcells_at .u8 _ old [] [] _ 0 32 (by simp) rfl ho)
    | o + 1 => cases hso
  · intro o o' so so' hoo h1 h2 h3
    match o, o' with
    | 0, 0 => exact absurd rfl hoo
    | o + 1, _ => cases h1
    | _, o' + 1 => cases h2
  · rintro en w' ⟨nb, hnb, _, _, hen, hm', hfr⟩
    refine ⟨hen, hfr.only ?_⟩
    rintro k j ⟨o, so, hso, hw, hk, _⟩
    match o with
    | 0 => exact hk.symm
    | o + 1 => cases hso

theorem block_of_add (a : Addr) (n : Nat) : (a.add n).block = a.block := by unfold Addr.add; split <;> rfl
theorem add_of_add (a : Addr) (i j : Nat) : (a.add i).add j = a.add (i + j) := by
  unfold Addr.add
  by_cases hi : i = 0 <;> by_cases hj : j = 0 <;> simp [hi, hj, Nat.add_assoc]

/-- A slice that reads as a list of cells, nil let in. -/
def Reads (w : World) (B : Nat) (A : Option Addr) (n : Nat) (xs : List Value) : Prop :=
  xs.length = n ∧ (0 < n → ∃ ad, A = some ad ∧ ad.block < B ∧ ∀ j u, xs[j]? = some u → w.cell? (ad.add j) = some u)

theorem Reads.keep {w w' : World} {B n : Nat} {A : Option Addr} {xs : List Value} (h : Reads w B A n xs) (hk : ∀ p : Addr, p.block < B → w'.cell? p = w.cell? p) : Reads w' B A n xs :=
  ⟨h.1, fun hn => by
    obtain ⟨ad, e, hb, hc⟩ := h.2 hn
    exact ⟨ad, e, hb, fun j u hu => (hk _ (by rw [block_of_add]; exact hb)).trans (hc j u hu)⟩⟩
theorem Reads.more {w : World} {B B' n : Nat} {A : Option Addr} {xs : List Value} (h : Reads w B A n xs) (hB : B ≤ B') : Reads w B' A n xs :=
  ⟨h.1, fun hn => by
    obtain ⟨ad, e, hb, hc⟩ := h.2 hn
    exact ⟨ad, e, by omega, hc⟩⟩
theorem Reads.below {w w' : World} {B n : Nat} {A : Option Addr} {xs : List Value} (h : Reads w B A n xs) (hb : Below B w w') : Reads w' B A n xs := h.keep fun _ hp => hb.cell hp
theorem Reads.take {w : World} {B n : Nat} {A : Option Addr} {xs : List Value} (h : Reads w B A n xs) {k : Nat} (hk : k ≤ n) : Reads w B A k (xs.take k) := by
  refine ⟨by simp [h.1, hk], fun hk0 => ?_⟩
  obtain ⟨ad, e, hb, hc⟩ := h.2 (by omega)
  refine ⟨ad, e, hb, fun j u hu => hc j u ?_⟩
  rw [List.getElem?_take] at hu
  split at hu
  · exact hu
  · cases hu

/-- A cut of an array of one-cell elements, its bounds numbers. -/
theorem run_cut_arr {P : Program} {t el : TypeId} {m : Nat} (hu : P.underlying t = some (.array m el)) (hz : szOf P el = some 1) (a : Addr) (lo hi : Option Int) (l h : Nat) (hlo : lo.getD 0 = (l : Int)) (hhi : hi.getD m = (h : Int)) (hl : l ≤ h) (hh : h ≤ m) (w : World) :
    (Instr.sliceAt t (.pointer (some a)) (lo.map (Value.int .i64)) (hi.map (Value.int .i64)) none).run P w = .ok (.slice (some (if m = l then a else a.add l)) (h - l) (m - l)) w := by
  have e1 : ((lo.map (Value.int .i64)) = none ∧ lo = none) ∨ ∃ k n, (lo.map (Value.int .i64)) = some (.int k n) ∧ lo = some n := by cases lo <;> simp
  have e2 : ((hi.map (Value.int .i64)) = none ∧ hi = none) ∨ ∃ k n, (hi.map (Value.int .i64)) = some (.int k n) ∧ hi = some n := by cases hi <;> simp
  have hb := run_bounds (P := P) (b := false) (len := m) (cap := m) e1 e2 (by omega) (by omega) (by omega) w
  simp only [Instr.sliceAt, run_underlying hu, Instr.sureAddr, Sem.run_bind, Sem.run_pure, Result.andThen_ok, hb, run_szOf hz]
  rw [hlo, hhi, Int.toNat_natCast, Int.toNat_natCast, Nat.mul_one]

/-- A cut of a slice of one-cell elements. -/
theorem run_cut_slice {P : Program} {t el : TypeId} (hu : P.underlying t = some (.slice el)) (hz : szOf P el = some 1) (A : Option Addr) (n c : Nat) (lo hi : Option Int) (l h : Nat) (hlo : lo.getD 0 = (l : Int)) (hhi : hi.getD n = (h : Int)) (hl : l ≤ h) (hh : h ≤ c) (w : World) :
    (Instr.sliceAt t (.slice A n c) (lo.map (Value.int .i64)) (hi.map (Value.int .i64)) none).run P w = .ok (.slice (if c = l then A else A.map (·.add l)) (h - l) (c - l)) w := by
  have e1 : ((lo.map (Value.int .i64)) = none ∧ lo = none) ∨ ∃ k n, (lo.map (Value.int .i64)) = some (.int k n) ∧ lo = some n := by cases lo <;> simp
  have e2 : ((hi.map (Value.int .i64)) = none ∧ hi = none) ∨ ∃ k n, (hi.map (Value.int .i64)) = some (.int k n) ∧ hi = some n := by cases hi <;> simp
  have hb := run_bounds (P := P) (b := true) (len := n) (cap := c) e1 e2 (by omega) (by omega) (by omega) w
  simp only [Instr.sliceAt, Instr.slice, run_underlying hu, Sem.run_bind, Sem.run_pure, Result.andThen_ok, hb, run_szOf hz]
  rw [hlo, hhi, Int.toNat_natCast, Int.toNat_natCast, Nat.mul_one]

theorem splice_same {α : Type} (x : α) {m k : Nat} (hk : k ≤ m) : splice (List.replicate m x) 0 (List.replicate k x) = List.replicate m x := by
  simp only [splice, List.take_zero, List.nil_append, List.length_replicate, List.drop_replicate, List.replicate_append_replicate]
  congr 1
  omega

theorem one_rep {k : Nat} : ∀ v ∈ List.replicate k (Value.int .u8 0), v.oneCell' = true := fun v hv => by
  rw [List.eq_of_mem_replicate hv]
  rfl

theorem rep_cell {w : World} {g m k : Nat} {T : TypeId} {x : Value} (hg : Hid (w.heap[g]? = some (.cells (List.replicate m x).toArray T (0, 0)))) (hk : k ≤ m) (j : Nat) (v : Value) (hj : (List.replicate k x)[j]? = some v) :
    w.cell? ((⟨g, 0, none⟩ : Addr).add j) = some v := by
  have hg : w.heap[g]? = some (.cells (List.replicate m x).toArray T (0, 0)) := hg
  rw [addr_add, Nat.zero_add]
  simp only [World.cell?, hg]
  rw [List.getElem?_replicate] at hj
  split at hj
  · rename_i hjk
    cases hj
    have : j < m := by omega
    simp [this]
  · cases hj

theorem num_app (w : Nat) : ∀ l r : List Int, num w (l ++ r) = num w l + 2 ^ (w * l.length) * num w r
  | [], r => by simp [num]
  | x :: l, r => by
    have ih := num_app w l r
    simp only [List.cons_append, num, ih, List.length_cons]
    rw [Nat.mul_add, Nat.mul_one, Nat.add_comm, Int.pow_add, Int.mul_add, Int.mul_assoc, Int.add_assoc]

theorem num_zeros (w : Nat) : ∀ m : Nat, num w (List.replicate m 0) = 0
  | 0 => rfl
  | m + 1 => by simp [List.replicate_succ, num, num_zeros w m]

/-- Zeros ahead of bytes do not count. -/
theorem be_pad (m : Nat) (l : List Int) : be (List.replicate m 0 ++ l) = be l := by
  unfold be
  rw [List.reverse_append, List.reverse_replicate, num_app, num_zeros]
  simp

theorem splice_pad {k m : Nat} (hk : k ≤ m) {xs : List Value} (hx : xs.length = k) : splice (List.replicate m (Value.int .u8 0)) (m - k) xs = List.replicate (m - k) (Value.int .u8 0) ++ xs := by
  unfold splice
  rw [List.take_replicate, List.drop_replicate, hx, Nat.min_eq_left (by omega), show m - (m - k + k) = 0 by omega]
  simp

theorem pad_dg {m : Nat} {l : List Int} (h : Dg 8 l) : Dg 8 (List.replicate m 0 ++ l) := (zeros_dg 8 m).append h

theorem be_any {l : List Int} (h : Dg 8 l) (hl : l.length ≤ 32) : 0 ≤ be l ∧ be l < 2 ^ 256 := by
  have h1 := be_bounds (l := List.replicate (32 - l.length) 0 ++ l) (by simp; omega) (pad_dg h)
  rwa [be_pad] at h1

theorem b01_bool (b : Bool) : (b01 b != 0) = b := by cases b <;> rfl

theorem Dg.take {w : Nat} {l : List Int} (h : Dg w l) (k : Nat) : Dg w (l.take k) := fun x hx => h x (List.mem_of_mem_take hx)

set_option maxRecDepth 100000 in
theorem sbs_calls (g n c : Nat) (T : TypeId) (old bs : List Int) (A : Option Addr) (w : World) (ho : old.length = 8) (hod : Dg 32 old) (hb : w.heap[g]? = some (.cells (old.map (Value.int .u32)).toArray T (0, 0)))
    (hn : n < 2147483648) (hc : n ≤ c) (hr : Reads w w.heap.size A n (bs.map (Value.int .u8))) (hd : Dg 8 bs) :
    Calls Tryd.prog 34 #[.pointer (some ⟨g, 0, none⟩), .slice A n c] w fun en w' =>
      en = .returned (.bool (decide (fn ≤ be (bs.take 32)))) ∧ w'.heap[g]? = some (.cells ((dig 32 8 (be (bs.take 32) % fn)).map (Value.int .u32)).toArray T (0, 0)) ∧ Only g w w' := by
  have H1 : Hid (Reads w w.heap.size A n (bs.map (Value.int .u8))) := hr
  have H2 : Hid (old.length = 8) := ho
  have H3 : Hid (w.heap[g]? = some (.cells (old.map (Value.int .u32)).toArray T (0, 0))) := hb
  clear hr ho hb
  go_enter Tryd.func34, Tryd.ntmps34
  go_wp2_with fail
  refine (c_min (x := (n : Int)) (y := 32) (by omega) (by omega) (by omega) (by omega) _).mono ?_
  rintro en w1 ⟨rfl, hb1⟩
  obtain ⟨k, hk⟩ : ∃ k, k = min n 32 := ⟨_, rfl⟩
  rw [show (if (n : Int) < 32 then (n : Int) else 32) = (k : Int) by split <;> omega]
  have hk32 : k ≤ 32 := by omega
  have hkn : k ≤ n := by omega
  have hk0 : (0 : Int) ≤ 32 - k := by omega
  have HK := Lib.hid hk
  clear hk
  have hB1 := hb1.size
  have g1 : Hid (w1.heap[w.heap.size]? = some (.cells ((List.replicate 32 (Value.int .u8 0))).toArray 33 (0, 0))) := (hb1.block w.heap.size (by simp)).trans (heap_alloc_new w _)
  have hbw1 : Below w.heap.size w w1 := ((Below.refl _ _).alloc (Nat.le_refl _) _).trans (hb1.mono (by simp))
  clear hb1
  go_wp2_with fail
  have q1 : IntKind.i64.wrap (32 - (k : Int)) = 32 - k := IntWalk.i64_in _ (by omega)
  have q2 : ∀ W, (Instr.sliceAt 33 (.pointer (some ⟨w.heap.size, 0, none⟩)) none (some (.int .i64 (32 - k))) none).run Tryd.prog W = .ok (.slice (some ⟨w.heap.size, 0, none⟩) (32 - k) 32) W := fun W =>
    run_cut_arr Tryd.underlying33 (by kernel_rfl) ⟨w.heap.size, 0, none⟩ none (some (32 - k)) 0 (32 - k) rfl (by show (32 - (k : Int)) = _; omega) (by omega) (by omega) W
  go_region_law (refine step_copy_splice rfl (.tmp 13) (.tmp 17) _ _ rfl _ Tryd.underlying22 (by kernel_rfl) _ _ _ _ _ _ rfl rfl w.heap.size 0 (List.replicate 32 (Value.int .u8 0)) _ g1 (List.replicate (32 - k) (Value.int .u8 0)) (by simp <;> omega) (fun _ => ⟨rfl, _, rfl, rep_cell g1 (by omega)⟩) (by simp <;> omega) one_rep w.heap.size w (hbw1.drew) (Nat.le_refl _) ?_; intro w2 g2 hb2)
  have g2' : Hid (w2.heap[w.heap.size]? = some (.cells (List.replicate 32 (Value.int .u8 0)).toArray 33 (0, 0))) := by
    have h : w2.heap[w.heap.size]? = some (.cells (splice (List.replicate 32 (Value.int .u8 0)) 0 (List.replicate (32 - k) (Value.int .u8 0))).toArray 33 (0, 0)) := g2
    rw [splice_same _ (by omega)] at h
    exact h
  clear g1 g2 q2 hbw1 hB1
  obtain ⟨ad, had⟩ : ∃ ad : Addr, ad = if 32 = 32 - k then (⟨w.heap.size, 0, none⟩ : Addr) else (⟨w.heap.size, 0, none⟩ : Addr).add (32 - k) := ⟨_, rfl⟩
  have q3 : ∀ W, (Instr.sliceAt 33 (.pointer (some ⟨w.heap.size, 0, none⟩)) (some (.int .i64 (32 - k))) none none).run Tryd.prog W = .ok (.slice (some ad) k k) W := fun W => by
    have := run_cut_arr Tryd.underlying33 (by kernel_rfl) ⟨w.heap.size, 0, none⟩ (some (32 - (k : Int))) none (32 - k) 32 (by show (32 - (k : Int)) = _; omega) rfl (by omega) (by omega) W
    rw [← had, show 32 - (32 - k) = k by omega] at this
    exact this
  have HA := Lib.hid had
  clear had
  obtain ⟨xs, hxs⟩ : ∃ xs, xs = (bs.map (Value.int .u8)).take k := ⟨_, rfl⟩
  have hr2 : Hid (Reads w2 w.heap.size A k xs) := by rw [hxs]; exact (Reads.below H1 hb2).take hkn
  have HX := Lib.hid hxs
  have hxl : xs.length = k := hr2.1
  have hx1 : Hid (∀ v ∈ xs, v.oneCell' = true) := by
    show ∀ v ∈ xs, v.oneCell' = true
    intro v hv
    rw [hxs] at hv
    obtain ⟨z, _, rfl⟩ := List.mem_map.1 (List.mem_of_mem_take hv)
    rfl
  have HL := Lib.hid hxl
  have hpos : Hid (0 < xs.length → some ad = some ⟨w.heap.size, 32 - k, none⟩ ∧ ∃ ad', A = some ad' ∧ ∀ j v, xs[j]? = some v → w2.cell? (ad'.add j) = some v) := fun h0 => by
    have hr3 : Reads w2 w.heap.size A k xs := hr2
    obtain ⟨ad', e, _, hc'⟩ := hr3.2 (by omega)
    refine ⟨?_, ad', e, hc'⟩
    rw [HA.out, if_neg (by omega), addr_add, Nat.zero_add]
  have hfit : 32 - k + xs.length ≤ 32 := by omega
  have hn1 : Hid (xs.length = Nat.min k k) := hxl.trans (Nat.min_self k).symm
  clear hxs hxl
  go_wp2_with (refine wpList_copy_splice rfl (.tmp 22) (.tmp 23) _ _ rfl _ Tryd.underlying22 (by kernel_rfl) _ _ _ _ _ _ rfl rfl w.heap.size (32 - k) (List.replicate 32 (Value.int .u8 0)) _ g2' xs hn1 hpos (by simpa using hfit) hx1 w.heap.size w hb2 (Nat.le_refl _) ?_; intro w3 g3 hb3)
  have hpl : (List.replicate (32 - k) (0 : Int) ++ bs.take k).length = 32 := by
    have h1 : bs.length = n := by have h : (bs.map (Value.int .u8)).length = n := H1.out.1; simpa using h
    simp only [List.length_append, List.length_replicate, List.length_take, h1]
    omega
  have hbe : be (List.replicate (32 - k) (0 : Int) ++ bs.take k) = be (bs.take 32) := by
    rw [be_pad]
    have h1 : bs.length = n := by have h : (bs.map (Value.int .u8)).length = n := H1.out.1; simpa using h
    rcases Nat.le_total n 32 with h | h
    · rw [List.take_of_length_le (by have := HK.out; omega), List.take_of_length_le (by omega)]
    · rw [show k = 32 by have := HK.out; omega]
  have g3' : w3.heap[w.heap.size]? = some (.cells ((List.replicate (32 - k) (0 : Int) ++ bs.take k).map (Value.int .u8)).toArray 33 (0, 0)) := by
    have h : w3.heap[w.heap.size]? = some (.cells (splice (List.replicate 32 (Value.int .u8 0)) (32 - k) xs).toArray 33 (0, 0)) := g3
    rw [splice_pad hk32 HL.out] at h
    rw [h, HX.out]
    simp [List.map_take]
  have hgl : g < w.heap.size := by
    rcases Nat.lt_or_ge g w.heap.size with h' | h'
    · exact h'
    · have := H3.out; rw [Array.getElem?_eq_none h'] at this; cases this
  have hs3 := hb3.size
  have hs4 : w.heap.size < w3.heap.size := by
    rcases Nat.lt_or_ge w.heap.size w3.heap.size with h' | h'
    · exact h'
    · rw [Array.getElem?_eq_none h'] at g3'; cases g3'
  have hset := c_ssetb (w := w3) (g := g) (h := w.heap.size) H2.out hod hpl (pad_dg (hd.take k)) ((hb3.block g hgl).trans H3.out) g3' (by omega)
  rw [hbe] at hset
  have HB := Lib.hid hbe
  have HP := Lib.hid hpl
  have G3 := Lib.hid g3'
  clear hbe hpl g3' g3 q3 q1
  refine hset.mono ?_
  rintro en w4 ⟨rfl, g4, ho4⟩
  have G4 := Lib.hid g4
  clear g4 hset
  have g5 : w4.heap[w.heap.size]? = some (.cells ((List.replicate (32 - k) (0 : Int) ++ bs.take k).map (Value.int .u8)).toArray 33 (0, 0)) := (ho4.block w.heap.size hs4 (by omega)).trans G3.out
  have hz := c_zero HP.out g5
  clear g5
  go_wp2_with (refine hz.mono ?_; rintro en w5 ⟨rfl, ho5⟩)
  go_ret
  refine ⟨?_, (ho5.block g (by have := ho4.size; omega) (by omega)).trans G4.out, ⟨(ho5.os.trans ho4.os).trans hb3.os, (ho5.tape.trans ho4.tape).trans hb3.tape, (ho5.output.trans ho4.output).trans hb3.output, by have := ho4.size; have := ho5.size; omega,
    fun q hq hne => ((ho5.block q (by have := ho4.size; omega) (by omega)).trans (ho4.block q (by omega) hne)).trans (hb3.block q hq)⟩⟩
  unfold b01
  cases decide (fn ≤ be (bs.take 32)) <;> rfl

end Go.Proofs.YtfeancgmmonebaaDoor.Sx
