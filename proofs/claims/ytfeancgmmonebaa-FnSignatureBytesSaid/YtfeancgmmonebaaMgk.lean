/-
  Two statements' functions as contracts. Printed by gen.py. Conditions: none; each theorem bears its own.
-/
import Derived.Test.YtfeancgmmonebaaMgj
import Derived.Test.YtfeancgmmonebaaRows
import Derived.ProofKit
import Derived.OpenShut
import Derived.ChangeOld
import Derived.Below
namespace Go.Proofs.Ytfeancgmmonebaa.Sx
open Go Go.Proofs

/-- Two lists, by turns. -/
def twine : List Int → List Int → List Int
  | x :: l, y :: r => x :: y :: twine l r
  | _, _ => []

theorem allEq_twine : ∀ {n : Nat} {l : List Int}, l.length = n → allEq (List.replicate n false) (twine l l) = true
  | 0, [], _ => rfl
  | n + 1, x :: l, h => by
    simp only [List.replicate_succ, twine, allEq, decide_true, Bool.false_eq_true, if_false, Bool.true_and]
    exact allEq_twine (by simpa using h)

def q_fnfset_0 : Path := ⟨[.pr (.eqs [false, false, false, false, false, false, false, false, false, false, false, false, false, false, false, false, false, false, false, false, false, false, false, false, false, false, false, false, false, false, false, false]) [.var 33, .var 80, .var 34, .var 81, .var 35, .var 82, .var 36, .var 83, .var 37, .var 84, .var 38, .var 85, .var 39, .var 86, .var 40, .var 87, .var 41, .var 88, .var 42, .var 89, .var 43, .var 90, .var 44, .var 91, .var 45, .var 92, .var 46, .var 93, .var 47, .var 94, .var 48, .var 95, .var 49, .var 96, .var 50, .var 97, .var 51, .var 98, .var 52, .var 99, .var 53, .var 100, .var 54, .var 101, .var 55, .var 102, .var 56, .var 103, .var 57, .var 104, .var 58, .var 105, .var 59, .var 106, .var 60, .var 107, .var 61, .var 108, .var 62, .var 109, .var 63, .var 110, .var 64, .var 111], .app 5 [.var 76, .var 77, .var 78, .var 79] 32, .app 4 [.var 0, .var 1, .var 2, .var 3, .var 4, .var 5, .var 6, .var 7, .var 8, .var 9, .var 10, .var 11, .var 12, .var 13, .var 14, .var 15, .var 16, .var 17, .var 18, .var 19, .var 20, .var 21, .var 22, .var 23, .var 24, .var 25, .var 26, .var 27, .var 28, .var 29, .var 30, .var 31] 4, .pr (.beq) [.var 32, .var 74], .pr (.neg) [.var 73], .app 2 [.var 65, .var 66, .var 67, .var 68, .var 69, .var 70, .var 71, .var 72] 1, .app 3 [] 4, .app 1 [.var 0, .var 1, .var 2, .var 3, .var 4, .var 5, .var 6, .var 7, .var 8, .var 9, .var 10, .var 11, .var 12, .var 13, .var 14, .var 15, .var 16, .var 17, .var 18, .var 19, .var 20, .var 21, .var 22, .var 23, .var 24, .var 25, .var 26, .var 27, .var 28, .var 29, .var 30, .var 31] 4, .app 0 [.var 0, .var 1, .var 2, .var 3, .var 4, .var 5, .var 6, .var 7, .var 8, .var 9, .var 10, .var 11, .var 12, .var 13, .var 14, .var 15, .var 16, .var 17, .var 18, .var 19, .var 20, .var 21, .var 22, .var 23, .var 24, .var 25, .var 26, .var 27, .var 28, .var 29, .var 30, .var 31] 33], [(.var 75, true)], [.var 112]⟩
def q_fnfset_1 : Path := ⟨[.pr (.beq) [.var 32, .var 74], .pr (.neg) [.var 73], .app 2 [.var 65, .var 66, .var 67, .var 68, .var 69, .var 70, .var 71, .var 72] 1, .app 3 [] 4, .app 1 [.var 0, .var 1, .var 2, .var 3, .var 4, .var 5, .var 6, .var 7, .var 8, .var 9, .var 10, .var 11, .var 12, .var 13, .var 14, .var 15, .var 16, .var 17, .var 18, .var 19, .var 20, .var 21, .var 22, .var 23, .var 24, .var 25, .var 26, .var 27, .var 28, .var 29, .var 30, .var 31] 4, .app 0 [.var 0, .var 1, .var 2, .var 3, .var 4, .var 5, .var 6, .var 7, .var 8, .var 9, .var 10, .var 11, .var 12, .var 13, .var 14, .var 15, .var 16, .var 17, .var 18, .var 19, .var 20, .var 21, .var 22, .var 23, .var 24, .var 25, .var 26, .var 27, .var 28, .var 29, .var 30, .var 31] 33], [(.var 75, false)], [.lit 0]⟩
def ps_fnfset : List Path := [q_fnfset_0, q_fnfset_1]
def Pre_fnfset (b : List Int) : Prop := Dg 8 b
def F_fnfset (_ : List Int) : List Int := [1]
theorem fnfset_c (e0 e1 e2 e3 e4 e5 : Entry) (b0 b1 b2 b3 b4 b5 b6 b7 b8 b9 b10 b11 b12 b13 b14 b15 b16 b17 b18 b19 b20 b21 b22 b23 b24 b25 b26 b27 b28 b29 b30 b31 : Int) : (SI.var 75).val (runR [e0, e1, e2, e3, e4, e5] q_fnfset_0.defs [b0, b1, b2, b3, b4, b5, b6, b7, b8, b9, b10, b11, b12, b13, b14, b15, b16, b17, b18, b19, b20, b21, b22, b23, b24, b25, b26, b27, b28, b29, b30, b31]) =
    if (((fit 33 (e0.F [b0, b1, b2, b3, b4, b5, b6, b7, b8, b9, b10, b11, b12, b13, b14, b15, b16, b17, b18, b19, b20, b21, b22, b23, b24, b25, b26, b27, b28, b29, b30, b31])).headD 0 != 0) == ((if (fit 1 (e2.F (fit 4 (e1.F [b0, b1, b2, b3, b4, b5, b6, b7, b8, b9, b10, b11, b12, b13, b14, b15, b16, b17, b18, b19, b20, b21, b22, b23, b24, b25, b26, b27, b28, b29, b30, b31]) ++ fit 4 (e3.F [])))).headD 0 = 0 then (1 : Int) else 0) != 0)) = true then 1 else 0 := by kernel_rfl

theorem fnfset_d (e0 e1 e2 e3 e4 e5 : Entry) (b0 b1 b2 b3 b4 b5 b6 b7 b8 b9 b10 b11 b12 b13 b14 b15 b16 b17 b18 b19 b20 b21 b22 b23 b24 b25 b26 b27 b28 b29 b30 b31 : Int) : (SI.var 75).val (runR [e0, e1, e2, e3, e4, e5] q_fnfset_1.defs [b0, b1, b2, b3, b4, b5, b6, b7, b8, b9, b10, b11, b12, b13, b14, b15, b16, b17, b18, b19, b20, b21, b22, b23, b24, b25, b26, b27, b28, b29, b30, b31]) =
    if (((fit 33 (e0.F [b0, b1, b2, b3, b4, b5, b6, b7, b8, b9, b10, b11, b12, b13, b14, b15, b16, b17, b18, b19, b20, b21, b22, b23, b24, b25, b26, b27, b28, b29, b30, b31])).headD 0 != 0) == ((if (fit 1 (e2.F (fit 4 (e1.F [b0, b1, b2, b3, b4, b5, b6, b7, b8, b9, b10, b11, b12, b13, b14, b15, b16, b17, b18, b19, b20, b21, b22, b23, b24, b25, b26, b27, b28, b29, b30, b31]) ++ fit 4 (e3.F [])))).headD 0 = 0 then (1 : Int) else 0) != 0)) = true then 1 else 0 := by kernel_rfl

theorem fnfset_o (e0 e1 e2 e3 e4 e5 : Entry) (b0 b1 b2 b3 b4 b5 b6 b7 b8 b9 b10 b11 b12 b13 b14 b15 b16 b17 b18 b19 b20 b21 b22 b23 b24 b25 b26 b27 b28 b29 b30 b31 : Int) : q_fnfset_0.out [e0, e1, e2, e3, e4, e5] [b0, b1, b2, b3, b4, b5, b6, b7, b8, b9, b10, b11, b12, b13, b14, b15, b16, b17, b18, b19, b20, b21, b22, b23, b24, b25, b26, b27, b28, b29, b30, b31] = [if allEq (List.replicate 32 false) (twine (fit 33 (e0.F [b0, b1, b2, b3, b4, b5, b6, b7, b8, b9, b10, b11, b12, b13, b14, b15, b16, b17, b18, b19, b20, b21, b22, b23, b24, b25, b26, b27, b28, b29, b30, b31])).tail (fit 32 (e5.F (fit 4 (e4.F [b0, b1, b2, b3, b4, b5, b6, b7, b8, b9, b10, b11, b12, b13, b14, b15, b16, b17, b18, b19, b20, b21, b22, b23, b24, b25, b26, b27, b28, b29, b30, b31]))))) = true then 1 else 0] := by kernel_rfl

def q_fnsset_0 : Path := ⟨[.pr (.eqs [false, false, false, false, false, false, false, false, false, false, false, false, false, false, false, false, false, false, false, false, false, false, false, false, false, false, false, false, false, false, false, false]) [.var 33, .var 80, .var 34, .var 81, .var 35, .var 82, .var 36, .var 83, .var 37, .var 84, .var 38, .var 85, .var 39, .var 86, .var 40, .var 87, .var 41, .var 88, .var 42, .var 89, .var 43, .var 90, .var 44, .var 91, .var 45, .var 92, .var 46, .var 93, .var 47, .var 94, .var 48, .var 95, .var 49, .var 96, .var 50, .var 97, .var 51, .var 98, .var 52, .var 99, .var 53, .var 100, .var 54, .var 101, .var 55, .var 102, .var 56, .var 103, .var 57, .var 104, .var 58, .var 105, .var 59, .var 106, .var 60, .var 107, .var 61, .var 108, .var 62, .var 109, .var 63, .var 110, .var 64, .var 111], .app 5 [.var 76, .var 77, .var 78, .var 79] 32, .app 4 [.var 0, .var 1, .var 2, .var 3, .var 4, .var 5, .var 6, .var 7, .var 8, .var 9, .var 10, .var 11, .var 12, .var 13, .var 14, .var 15, .var 16, .var 17, .var 18, .var 19, .var 20, .var 21, .var 22, .var 23, .var 24, .var 25, .var 26, .var 27, .var 28, .var 29, .var 30, .var 31] 4, .pr (.beq) [.var 32, .var 74], .pr (.neg) [.var 73], .app 2 [.var 65, .var 66, .var 67, .var 68, .var 69, .var 70, .var 71, .var 72] 1, .app 3 [] 4, .app 1 [.var 0, .var 1, .var 2, .var 3, .var 4, .var 5, .var 6, .var 7, .var 8, .var 9, .var 10, .var 11, .var 12, .var 13, .var 14, .var 15, .var 16, .var 17, .var 18, .var 19, .var 20, .var 21, .var 22, .var 23, .var 24, .var 25, .var 26, .var 27, .var 28, .var 29, .var 30, .var 31] 4, .app 0 [.var 0, .var 1, .var 2, .var 3, .var 4, .var 5, .var 6, .var 7, .var 8, .var 9, .var 10, .var 11, .var 12, .var 13, .var 14, .var 15, .var 16, .var 17, .var 18, .var 19, .var 20, .var 21, .var 22, .var 23, .var 24, .var 25, .var 26, .var 27, .var 28, .var 29, .var 30, .var 31] 33], [(.var 75, true)], [.var 112]⟩
def q_fnsset_1 : Path := ⟨[.pr (.beq) [.var 32, .var 74], .pr (.neg) [.var 73], .app 2 [.var 65, .var 66, .var 67, .var 68, .var 69, .var 70, .var 71, .var 72] 1, .app 3 [] 4, .app 1 [.var 0, .var 1, .var 2, .var 3, .var 4, .var 5, .var 6, .var 7, .var 8, .var 9, .var 10, .var 11, .var 12, .var 13, .var 14, .var 15, .var 16, .var 17, .var 18, .var 19, .var 20, .var 21, .var 22, .var 23, .var 24, .var 25, .var 26, .var 27, .var 28, .var 29, .var 30, .var 31] 4, .app 0 [.var 0, .var 1, .var 2, .var 3, .var 4, .var 5, .var 6, .var 7, .var 8, .var 9, .var 10, .var 11, .var 12, .var 13, .var 14, .var 15, .var 16, .var 17, .var 18, .var 19, .var 20, .var 21, .var 22, .var 23, .var 24, .var 25, .var 26, .var 27, .var 28, .var 29, .var 30, .var 31] 33], [(.var 75, false)], [.lit 0]⟩
def ps_fnsset : List Path := [q_fnsset_0, q_fnsset_1]
def Pre_fnsset (b : List Int) : Prop := Dg 8 b
def F_fnsset (_ : List Int) : List Int := [1]
theorem fnsset_c (e0 e1 e2 e3 e4 e5 : Entry) (b0 b1 b2 b3 b4 b5 b6 b7 b8 b9 b10 b11 b12 b13 b14 b15 b16 b17 b18 b19 b20 b21 b22 b23 b24 b25 b26 b27 b28 b29 b30 b31 : Int) : (SI.var 75).val (runR [e0, e1, e2, e3, e4, e5] q_fnsset_0.defs [b0, b1, b2, b3, b4, b5, b6, b7, b8, b9, b10, b11, b12, b13, b14, b15, b16, b17, b18, b19, b20, b21, b22, b23, b24, b25, b26, b27, b28, b29, b30, b31]) =
    if (((fit 33 (e0.F [b0, b1, b2, b3, b4, b5, b6, b7, b8, b9, b10, b11, b12, b13, b14, b15, b16, b17, b18, b19, b20, b21, b22, b23, b24, b25, b26, b27, b28, b29, b30, b31])).headD 0 != 0) == ((if (fit 1 (e2.F (fit 4 (e1.F [b0, b1, b2, b3, b4, b5, b6, b7, b8, b9, b10, b11, b12, b13, b14, b15, b16, b17, b18, b19, b20, b21, b22, b23, b24, b25, b26, b27, b28, b29, b30, b31]) ++ fit 4 (e3.F [])))).headD 0 = 0 then (1 : Int) else 0) != 0)) = true then 1 else 0 := by kernel_rfl

theorem fnsset_d (e0 e1 e2 e3 e4 e5 : Entry) (b0 b1 b2 b3 b4 b5 b6 b7 b8 b9 b10 b11 b12 b13 b14 b15 b16 b17 b18 b19 b20 b21 b22 b23 b24 b25 b26 b27 b28 b29 b30 b31 : Int) : (SI.var 75).val (runR [e0, e1, e2, e3, e4, e5] q_fnsset_1.defs [b0, b1, b2, b3, b4, b5, b6, b7, b8, b9, b10, b11, b12, b13, b14, b15, b16, b17, b18, b19, b20, b21, b22, b23, b24, b25, b26, b27, b28, b29, b30, b31]) =
    if (((fit 33 (e0.F [b0, b1, b2, b3, b4, b5, b6, b7, b8, b9, b10, b11, b12, b13, b14, b15, b16, b17, b18, b19, b20, b21, b22, b23, b24, b25, b26, b27, b28, b29, b30, b31])).headD 0 != 0) == ((if (fit 1 (e2.F (fit 4 (e1.F [b0, b1, b2, b3, b4, b5, b6, b7, b8, b9, b10, b11, b12, b13, b14, b15, b16, b17, b18, b19, b20, b21, b22, b23, b24, b25, b26, b27, b28, b29, b30, b31]) ++ fit 4 (e3.F [])))).headD 0 = 0 then (1 : Int) else 0) != 0)) = true then 1 else 0 := by kernel_rfl

theorem fnsset_o (e0 e1 e2 e3 e4 e5 : Entry) (b0 b1 b2 b3 b4 b5 b6 b7 b8 b9 b10 b11 b12 b13 b14 b15 b16 b17 b18 b19 b20 b21 b22 b23 b24 b25 b26 b27 b28 b29 b30 b31 : Int) : q_fnsset_0.out [e0, e1, e2, e3, e4, e5] [b0, b1, b2, b3, b4, b5, b6, b7, b8, b9, b10, b11, b12, b13, b14, b15, b16, b17, b18, b19, b20, b21, b22, b23, b24, b25, b26, b27, b28, b29, b30, b31] = [if allEq (List.replicate 32 false) (twine (fit 33 (e0.F [b0, b1, b2, b3, b4, b5, b6, b7, b8, b9, b10, b11, b12, b13, b14, b15, b16, b17, b18, b19, b20, b21, b22, b23, b24, b25, b26, b27, b28, b29, b30, b31])).tail (fit 32 (e5.F (fit 4 (e4.F [b0, b1, b2, b3, b4, b5, b6, b7, b8, b9, b10, b11, b12, b13, b14, b15, b16, b17, b18, b19, b20, b21, b22, b23, b24, b25, b26, b27, b28, b29, b30, b31]))))) = true then 1 else 0] := by kernel_rfl

end Go.Proofs.Ytfeancgmmonebaa.Sx

/-
  From a contract to a row: a function of arrays of bytes that returns true and writes nothing that was there. Conditions: none; each theorem bears its own.
-/
namespace Go.Proofs.Ytfeancgmmonebaa.Sx
open Go Go.Proofs Go.ChangeShapes Go.WideShapes Go.ChangeAt Go.RowKit

/-- A call by a contract that gives true. -/
theorem calls_true {P : Program} {e : Entry} (hm : Meets P e) (hgo : goFunc P e.f = true) {base : List Int} (hl : base.length = (ini e.args).n) (hmem : (ini e.args).mem = []) (hpre : e.Pre base) (hF : e.F base = [1])
    (hres : retOf (fin e).res = .one (.sc (.bool (.var (ini e.args).n)))) (hn : (fin e).n = (ini e.args).n + 1) (w : World) :
    Calls P e.f ((ini e.args).args.map (SV.den ⟨base, []⟩)).toArray w fun en w' => en = .returned (.bool true) ∧ Below w.heap.size w w' := by
  have h := hm base [] w hl (by rw [hmem]; rfl) (fun _ => hpre) (fun o so ho => by rw [hmem] at ho; simp at ho) (fun p p' a a' _ h1 => by rw [hmem] at h1; simp at h1)
  have hrun := goFunc_run hgo ((ini e.args).args.map (SV.den ⟨base, []⟩)).toArray w
  rcases h with ⟨_, h⟩ | ⟨v, h, _⟩
  · refine h.mono fun en w' ⟨nb, _, _, _, hen, _, hfr⟩ => ⟨?_, hfr.below (Nat.le_refl _) fun k j _ ⟨o, so, ho, _⟩ => by rw [hmem] at ho; simp at ho⟩
    rw [hen, hres]
    have : (e.env base [] nb).e.getD (ini e.args).n 0 = 1 := by
      simp only [Entry.env]
      rw [hF, hn, ← hl, List.getD, List.getElem?_append_right (Nat.le_refl _), Nat.sub_self, Nat.add_sub_cancel_left]
      rfl
    simp only [SV.den, S1.den, SC.den, SI.val, this]
    rfl
  · rw [hrun] at h
    cases h

theorem bytes_of : ∀ (cs : List Value), (∀ (i : Nat), i < cs.length → ∃ z : Int, cs[i]? = some (.int .u8 z) ∧ 0 ≤ z ∧ z < 2 ^ 8) → ∃ bs : List Int, bs.length = cs.length ∧ cs = bs.map (Value.int .u8) ∧ Dg 8 bs
  | [], _ => ⟨[], rfl, rfl, fun x hx => (by cases hx)⟩
  | c :: cs, one => by
    obtain ⟨z, h1, h2, h3⟩ := one 0 (by simp)
    simp at h1
    subst h1
    obtain ⟨bs, g1, g2, g3⟩ := bytes_of cs fun i hi => by simpa using one (i + 1) (by simpa using hi)
    exact ⟨z :: bs, by simp [g1], by simp [← g2], fun y hy => by
      rcases List.mem_cons.1 hy with rfl | hy
      · exact ⟨h2, h3⟩
      · exact g3 y hy⟩

/-- An array of bytes, opened. -/
theorem open_bytes {H : Type} {enc : TypeId × Value → H} {P : Program} {w : World} {base : Nat} {spare : Nat → Bool} {held : Bool} {fuel : Nat} {t u : TypeId} {cs : List Value} {x : DataW H × List MemPlace} {n : Nat}
    (ht : P.underlying t = some (.array n u)) (hu : P.underlying u = some (.int .u8)) (hc : P.cellsOf u = 1) (hct : P.cellsOf t = n) (h : DataW.trod enc P w base spare held fuel t cs = some x) :
    ∃ bs : List Int, bs.length = n ∧ cs = bs.map (Value.int .u8) ∧ Dg 8 bs := by
  obtain ⟨xs, m, _, _, hlen, hl, hel⟩ := DataW.trod_array ht h
  rw [hct] at hlen
  have one : ∀ (i : Nat), i < n → ∃ z : Int, cs[i]? = some (.int .u8 z) ∧ 0 ≤ z ∧ z < 2 ^ 8 := by
    intro i hi
    have h1 := hel i hi
    rw [hc, Nat.mul_one, List.getElem?_eq_getElem (by omega)] at h1
    obtain ⟨z, h2, _, h3⟩ := DataW.trod_int hu h1
    have h4 := bounds_u8 h3
    refine ⟨z, ?_, h4.1, by omega⟩
    have h5 : ((cs.drop i).take 1)[0]? = some (.int .u8 z) := by rw [h2]; rfl
    simpa using h5
  obtain ⟨bs, g1, g2, g3⟩ := bytes_of cs fun i hi => one i (by omega)
  exact ⟨bs, by omega, g2, g3⟩

end Go.Proofs.Ytfeancgmmonebaa.Sx

/-
  When a number that a run leaves is 0, symbolically. Conditions: none; each theorem bears its own.
-/
namespace Go.Proofs.Ytfeancgmmonebaa.Sx
open Go

def zOp (TZ : Tr BF) : SI → BF
  | .var j => (TZ.get j).getD (.eq (.var j) (.lit 0))
  | .lit n => .eq (.lit n) (.lit 0)

def inBits (T : Tr If) (b : Nat) (x : SI) : Bool :=
  match siIf T x with
  | some f => decide (0 ≤ f.lo) && decide (f.hi < 2 ^ b)
  | none => false

def zOf (T : Tr If) (TZ : Tr BF) (d : Def) : Option BF :=
  match d with
  | .pr (.bin .or k) [x, y] => match unsB k with
    | some b => if inBits T b x && inBits T b y then some (.and (zOp TZ x) (zOp TZ y)) else none
    | none => none
  | .pr (.bin .xor k) [x, y] => match unsB k with
    | some b => if inBits T b x && inBits T b y then some (.eq x y) else none
    | none => none
  | _ => none

def zRun (T : Tr If) : Nat → List Def → Tr BF → Tr BF
  | _, [], TZ => TZ
  | n, d :: ds, TZ => zRun T (n + arity d) ds (match zOf T TZ d with
    | some f => Tr.set 20 TZ n (some f)
    | none => TZ)

def InvZ (E : List Int) (TZ : Tr BF) : Prop := ∀ (i : Nat) (f : BF), TZ.get i = some f → (E.getD i 0 = 0 ↔ f.ev E = true)

theorem InvZ.set {E : List Int} {TZ : Tr BF} (h : InvZ E TZ) {n : Nat} {f : BF} (hf : E.getD n 0 = 0 ↔ f.ev E = true) : InvZ E (Tr.set 20 TZ n (some f)) := by
  intro i g hg
  rcases Tr.get_set _ _ _ _ _ _ hg with ⟨rfl, e⟩ | ⟨_, hg⟩
  · cases e; exact hf
  · exact h i g hg

theorem zOp_spec {E : List Int} {TZ : Tr BF} (h : InvZ E TZ) (x : SI) : x.val E = 0 ↔ (zOp TZ x).ev E = true := by
  cases x with
  | lit n =>
    show n = 0 ↔ decide (n = 0) = true
    rw [decide_eq_true_eq]
  | var j =>
    show E.getD j 0 = 0 ↔ ((TZ.get j).getD (.eq (.var j) (.lit 0))).ev E = true
    cases hg : TZ.get j with
    | none =>
      show E.getD j 0 = 0 ↔ decide (E.getD j 0 = 0) = true
      rw [decide_eq_true_eq]
    | some f => exact h j f hg

theorem inBits_spec {E : List Int} {T : Tr If} (h : Inv E T) {b : Nat} {x : SI} (hx : inBits T b x = true) : 0 ≤ x.val E ∧ x.val E < 2 ^ b := by
  unfold inBits at hx
  split at hx
  · rename_i f hf
    have := siIf_ok h hf
    simp only [Bool.and_eq_true, decide_eq_true_eq] at hx
    have h1 := this.lo
    have h2 := this.hi
    omega
  · cases hx

theorem nat_or_zero {a b : Nat} : a ||| b = 0 ↔ a = 0 ∧ b = 0 := by
  constructor
  · intro h
    have h1 : a ≤ a ||| b := Nat.left_le_or
    have h2 : b ≤ a ||| b := Nat.right_le_or
    omega
  · rintro ⟨rfl, rfl⟩
    rfl

theorem nat_xor_zero {a b : Nat} : a ^^^ b = 0 ↔ a = b := by
  constructor
  · intro h
    rw [← Nat.xor_zero a, ← Nat.xor_self b, ← Nat.xor_assoc, h, Nat.zero_xor]
  · rintro rfl
    exact Nat.xor_self a

theorem zOf_sound {Γ : List Entry} {E : List Int} {T : Tr If} (hT : Inv E T) {TZ : Tr BF} (h : InvZ E TZ) {n : Nat} {d : Def} {f : BF} (hs : SatL Γ E n [d]) (hf : zOf T TZ d = some f) : E.getD n 0 = 0 ↔ f.ev E = true := by
  unfold zOf at hf
  split at hf
  · rename_i k x y
    split at hf
    · rename_i b hk
      split at hf
      · rename_i hb
        cases hf
        simp only [Bool.and_eq_true] at hb
        obtain ⟨x0, x1⟩ := inBits_spec hT hb.1
        obtain ⟨y0, y1⟩ := inBits_spec hT hb.2
        have e : E.getD n 0 = bits .or k (x.val E) (y.val E) := hs.1
        rw [e, bits_or hk x0 x1 y0 y1]
        simp only [BF.ev, Bool.and_eq_true]
        rw [← zOp_spec h, ← zOp_spec h]
        have := nat_or_zero (a := (x.val E).toNat) (b := (y.val E).toNat)
        omega
      · cases hf
    · cases hf
  · rename_i k x y
    split at hf
    · rename_i b hk
      split at hf
      · rename_i hb
        cases hf
        simp only [Bool.and_eq_true] at hb
        obtain ⟨x0, x1⟩ := inBits_spec hT hb.1
        obtain ⟨y0, y1⟩ := inBits_spec hT hb.2
        have e : E.getD n 0 = bits .xor k (x.val E) (y.val E) := hs.1
        rw [e, bits_xor hk x0 x1 y0 y1]
        simp only [BF.ev, decide_eq_true_eq]
        have := nat_xor_zero (a := (x.val E).toNat) (b := (y.val E).toNat)
        omega
      · cases hf
    · cases hf
  · cases hf

theorem zRun_sound {Γ : List Entry} {E : List Int} {T : Tr If} (hT : Inv E T) : ∀ (ds : List Def) (n : Nat) (TZ : Tr BF), SatL Γ E n ds → InvZ E TZ → InvZ E (zRun T n ds TZ)
  | [], _, _, _, h => h
  | d :: ds, n, TZ, hs, h => by
    have h1 : SatL Γ E n [d] ∧ SatL Γ E (n + arity d) ds := by
      cases d with
      | pr p xs => exact ⟨⟨hs.1, trivial⟩, hs.2⟩
      | app j xs m => exact ⟨⟨hs.1, trivial⟩, hs.2⟩
    unfold zRun
    refine zRun_sound hT ds _ _ h1.2 ?_
    split
    · rename_i f hf
      exact h.set (zOf_sound hT h h1.1 hf)
    · exact h

def zAt (R : List ARule) (bnds : List (Int × Int)) (defs : List Def) (i : Nat) : Option BF :=
  match aiRun R bnds.length defs.reverse (initT 0 bnds) with
  | some T => (zRun T bnds.length defs.reverse .nil).get i
  | none => none

theorem zAt_sound {Γ : List Entry} {R : List ARule} (hR : ∀ j, RuleOk (Γ.getD j noEntry) (R.getD j .none)) {bnds : List (Int × Int)} {defs : List Def} {i : Nat} {f : BF}
    (hok : okDs bnds.length defs.reverse = true) (h : zAt R bnds defs i = some f) {base : List Int} (hl : base.length = bnds.length) (hb : inB bnds base) : (runR Γ defs base).getD i 0 = 0 ↔ f.ev (runR Γ defs base) = true := by
  unfold zAt at h
  rw [runR_eq]
  rw [← hl] at h hok
  have hs := satL_run Γ defs.reverse base hok
  split at h
  · rename_i T hT
    have hi : Inv (runL Γ defs.reverse base) (initT 0 bnds) := initT_inv bnds 0 fun i b hb' => by
      obtain ⟨s, hs'⟩ := runL_prefix Γ defs.reverse base
      have hlt : i < base.length := by rw [hl]; exact (List.getElem?_eq_some_iff.1 hb').1
      have := hb i b hb'
      rw [Nat.zero_add, hs']
      simpa [List.getD, List.getElem?_append_left hlt] using this
    have hT' := aiRun_sound hR _ _ _ _ hs hi hT
    exact zRun_sound hT' _ _ _ hs (fun i f hf => by cases hf) i f h
  · cases h

end Go.Proofs.Ytfeancgmmonebaa.Sx

/-
  Contracts of functions that ask. Printed by gen.py. Conditions: none; each theorem bears its own.
-/
namespace Go.Proofs.Ytfeancgmmonebaa.Sx
open Go Go.Proofs

def p_field : Path := ⟨[.app 1 [.var 32, .var 33, .var 34, .var 35, .var 36, .var 37, .var 38, .var 39, .var 40, .var 41] 10, .app 0 [.lit 0, .lit 0, .lit 0, .lit 0, .lit 0, .lit 0, .lit 0, .lit 0, .lit 0, .lit 0, .var 0, .var 1, .var 2, .var 3, .var 4, .var 5, .var 6, .var 7, .var 8, .var 9, .var 10, .var 11, .var 12, .var 13, .var 14, .var 15, .var 16, .var 17, .var 18, .var 19, .var 20, .var 21, .var 22, .var 23, .var 24, .var 25, .var 26, .var 27, .var 28, .var 29, .var 30, .var 31] 11], [], [.var 43, .var 44, .var 45, .var 46, .var 47, .var 48, .var 49, .var 50, .var 51, .var 52]⟩
def G_field : List Entry := [e_setb, e_norm]
def p_scalar : Path := ⟨[.app 0 [.lit 0, .lit 0, .lit 0, .lit 0, .lit 0, .lit 0, .lit 0, .lit 0, .var 0, .var 1, .var 2, .var 3, .var 4, .var 5, .var 6, .var 7, .var 8, .var 9, .var 10, .var 11, .var 12, .var 13, .var 14, .var 15, .var 16, .var 17, .var 18, .var 19, .var 20, .var 21, .var 22, .var 23, .var 24, .var 25, .var 26, .var 27, .var 28, .var 29, .var 30, .var 31] 9], [], [.var 32, .var 33, .var 34, .var 35, .var 36, .var 37, .var 38, .var 39]⟩
def G_scalar : List Entry := [e_ssetb]
def e_scalar : Entry := { f := 30, args := [.agg (List.replicate 32 (some .u8))], res := [.new (List.replicate 8 (some .u32))], F := p_scalar.out G_scalar }
theorem r_scalar : runFn Try.prog G_scalar e_scalar Try.f30.ntmps Try.f30.results.toList (Try.f30.body.getD .skip) = some ([], [p_scalar]) := by kernel_rfl
theorem m_scalar : Meets Try.prog e_scalar :=
  meets_single mixed (fun e he => by
    simp only [G_scalar, List.mem_cons, List.not_mem_nil, or_false] at he
    rcases he with rfl
    · exact m_ssetb) Try.func30 rfl (by kernel_rfl) r_scalar rfl

def p_isz : Path := ⟨[.pr (.bin .eql .u32) [.var 18, .lit 0], .pr (.bin .or .u32) [.var 17, .var 9], .pr (.bin .or .u32) [.var 16, .var 8], .pr (.bin .or .u32) [.var 15, .var 7], .pr (.bin .or .u32) [.var 14, .var 6], .pr (.bin .or .u32) [.var 13, .var 5], .pr (.bin .or .u32) [.var 12, .var 4], .pr (.bin .or .u32) [.var 11, .var 3], .pr (.bin .or .u32) [.var 10, .var 2], .pr (.bin .or .u32) [.var 0, .var 1]], [], [.var 19]⟩
def G_isz : List Entry := []
def p_iso : Path := ⟨[.pr (.bin .eql .u32) [.var 19, .lit 0], .pr (.bin .or .u32) [.var 18, .var 9], .pr (.bin .or .u32) [.var 17, .var 8], .pr (.bin .or .u32) [.var 16, .var 7], .pr (.bin .or .u32) [.var 15, .var 6], .pr (.bin .or .u32) [.var 14, .var 5], .pr (.bin .or .u32) [.var 13, .var 4], .pr (.bin .or .u32) [.var 12, .var 3], .pr (.bin .or .u32) [.var 11, .var 2], .pr (.bin .or .u32) [.var 10, .var 1], .pr (.bin .xor .u32) [.var 0, .lit 1]], [], [.var 20]⟩
def G_iso : List Entry := []
def p_isd : Path := ⟨[.pr (.bin .eql .u32) [.var 10, .lit 1], .pr (.bin .and .u32) [.var 0, .lit 1]], [], [.var 11]⟩
def G_isd : List Entry := []
def p_equ : Path := ⟨[.pr (.bin .eql .u32) [.var 38, .lit 0], .pr (.bin .or .u32) [.var 36, .var 37], .pr (.bin .xor .u32) [.var 9, .var 19], .pr (.bin .or .u32) [.var 34, .var 35], .pr (.bin .xor .u32) [.var 8, .var 18], .pr (.bin .or .u32) [.var 32, .var 33], .pr (.bin .xor .u32) [.var 7, .var 17], .pr (.bin .or .u32) [.var 30, .var 31], .pr (.bin .xor .u32) [.var 6, .var 16], .pr (.bin .or .u32) [.var 28, .var 29], .pr (.bin .xor .u32) [.var 5, .var 15], .pr (.bin .or .u32) [.var 26, .var 27], .pr (.bin .xor .u32) [.var 4, .var 14], .pr (.bin .or .u32) [.var 24, .var 25], .pr (.bin .xor .u32) [.var 3, .var 13], .pr (.bin .or .u32) [.var 22, .var 23], .pr (.bin .xor .u32) [.var 2, .var 12], .pr (.bin .or .u32) [.var 20, .var 21], .pr (.bin .xor .u32) [.var 1, .var 11], .pr (.bin .xor .u32) [.var 0, .var 10]], [], [.var 39]⟩
def G_equ : List Entry := []
def p_far : Path := ⟨[.pr (.bin .neq .u32) [.var 54, .lit 0], .pr (.bin .or .u32) [.var 49, .var 53], .pr (.bin .and .u32) [.var 51, .var 52], .app 2 [.var 0, .lit 63552238] 1, .pr (.bin .and .u32) [.var 46, .var 50], .app 0 [.var 1, .lit 57171083] 1, .pr (.bin .or .u32) [.var 44, .var 48], .pr (.bin .and .u32) [.var 46, .var 47], .app 1 [.var 1, .lit 57171083] 1, .pr (.bin .and .u32) [.var 41, .var 45], .app 0 [.var 2, .lit 33309698] 1, .pr (.bin .or .u32) [.var 39, .var 43], .pr (.bin .and .u32) [.var 41, .var 42], .app 1 [.var 2, .lit 33309698] 1, .pr (.bin .and .u32) [.var 36, .var 40], .app 0 [.var 3, .lit 6636253] 1, .pr (.bin .or .u32) [.var 34, .var 38], .pr (.bin .and .u32) [.var 36, .var 37], .app 1 [.var 3, .lit 6636253] 1, .pr (.bin .and .u32) [.var 31, .var 35], .app 0 [.var 4, .lit 21319971] 1, .pr (.bin .or .u32) [.var 29, .var 33], .pr (.bin .and .u32) [.var 31, .var 32], .app 1 [.var 4, .lit 21319971] 1, .pr (.bin .and .u32) [.var 26, .var 30], .app 0 [.var 5, .lit 0] 1, .pr (.bin .or .u32) [.var 24, .var 28], .pr (.bin .and .u32) [.var 26, .var 27], .app 1 [.var 5, .lit 0] 1, .pr (.bin .and .u32) [.var 21, .var 25], .app 0 [.var 6, .lit 0] 1, .pr (.bin .or .u32) [.var 19, .var 23], .pr (.bin .and .u32) [.var 21, .var 22], .app 1 [.var 6, .lit 0] 1, .pr (.bin .and .u32) [.var 16, .var 20], .app 0 [.var 7, .lit 0] 1, .pr (.bin .or .u32) [.var 14, .var 18], .pr (.bin .and .u32) [.var 16, .var 17], .app 1 [.var 7, .lit 0] 1, .pr (.bin .and .u32) [.var 11, .var 15], .app 0 [.var 8, .lit 0] 1, .pr (.bin .or .u32) [.var 10, .var 13], .pr (.bin .and .u32) [.var 11, .var 12], .app 1 [.var 8, .lit 0] 1, .app 0 [.var 9, .lit 0] 1, .app 1 [.var 9, .lit 0] 1], [], [.var 55]⟩
def G_far : List Entry := [e_eq, e_gt, e_ge]
def p_sisz : Path := ⟨[.pr (.bin .eql .u32) [.var 14, .lit 0], .pr (.bin .or .u32) [.var 13, .var 7], .pr (.bin .or .u32) [.var 12, .var 6], .pr (.bin .or .u32) [.var 11, .var 5], .pr (.bin .or .u32) [.var 10, .var 4], .pr (.bin .or .u32) [.var 9, .var 3], .pr (.bin .or .u32) [.var 8, .var 2], .pr (.bin .or .u32) [.var 0, .var 1]], [], [.var 15]⟩
def G_sisz : List Entry := []
def e_sisz : Entry := { f := 41, args := [.ptr (List.replicate 8 (some .u32)) false], res := [.bool], F := p_sisz.out G_sisz }
theorem r_sisz : runFn Try.prog G_sisz e_sisz Try.f41.ntmps Try.f41.results.toList (Try.f41.body.getD .skip) = some ([], [p_sisz]) := by kernel_rfl
theorem m_sisz : Meets Try.prog e_sisz :=
  meets_single mixed (fun e he => by simp [G_sisz] at he) Try.func41 rfl (by kernel_rfl) r_sisz rfl

def p_sisd : Path := ⟨[.pr (.bin .eql .u32) [.var 8, .lit 1], .pr (.bin .and .u32) [.var 0, .lit 1]], [], [.var 9]⟩
def G_sisd : List Entry := []
def p_sequ : Path := ⟨[.pr (.bin .eql .u32) [.var 30, .lit 0], .pr (.bin .or .u32) [.var 28, .var 29], .pr (.bin .xor .u32) [.var 7, .var 15], .pr (.bin .or .u32) [.var 26, .var 27], .pr (.bin .xor .u32) [.var 6, .var 14], .pr (.bin .or .u32) [.var 24, .var 25], .pr (.bin .xor .u32) [.var 5, .var 13], .pr (.bin .or .u32) [.var 22, .var 23], .pr (.bin .xor .u32) [.var 4, .var 12], .pr (.bin .or .u32) [.var 20, .var 21], .pr (.bin .xor .u32) [.var 3, .var 11], .pr (.bin .or .u32) [.var 18, .var 19], .pr (.bin .xor .u32) [.var 2, .var 10], .pr (.bin .or .u32) [.var 16, .var 17], .pr (.bin .xor .u32) [.var 1, .var 9], .pr (.bin .xor .u32) [.var 0, .var 8]], [], [.var 31]⟩
def G_sequ : List Entry := []
def p_shi : Path := ⟨[.pr (.bin .neq .u32) [.var 33, .lit 0], .pr (.bin .or .u32) [.var 28, .var 32], .pr (.bin .and .u32) [.var 30, .var 31], .app 1 [.var 0, .lit 1746608288] 1, .pr (.bin .and .u32) [.var 25, .var 29], .app 0 [.var 1, .lit 3756601158] 1, .pr (.bin .or .u32) [.var 23, .var 27], .pr (.bin .and .u32) [.var 25, .var 26], .app 1 [.var 1, .lit 3756601158] 1, .pr (.bin .and .u32) [.var 20, .var 24], .app 0 [.var 2, .lit 1470386205] 1, .pr (.bin .or .u32) [.var 18, .var 22], .pr (.bin .and .u32) [.var 20, .var 21], .app 1 [.var 2, .lit 1470386205] 1, .pr (.bin .and .u32) [.var 15, .var 19], .app 0 [.var 3, .lit 1566010995] 1, .pr (.bin .or .u32) [.var 8, .var 17], .pr (.bin .and .u32) [.var 15, .var 16], .app 1 [.var 3, .lit 1566010995] 1, .pr (.bin .and .u32) [.var 13, .var 14], .app 0 [.var 4, .lit 4294967295] 1, .pr (.bin .and .u32) [.var 11, .var 12], .app 0 [.var 5, .lit 4294967295] 1, .pr (.bin .and .u32) [.var 9, .var 10], .app 0 [.var 6, .lit 4294967295] 1, .app 0 [.var 7, .lit 2147483647] 1, .app 1 [.var 7, .lit 2147483647] 1], [], [.var 34]⟩
def G_shi : List Entry := [e_eq, e_gt, e_ge]
def e_shi : Entry := { f := 47, args := [.ptr (List.replicate 8 (some .u32)) false], res := [.bool], F := p_shi.out G_shi }
theorem r_shi : runFn Try.prog G_shi e_shi Try.f47.ntmps Try.f47.results.toList (Try.f47.body.getD .skip) = some ([], [p_shi]) := by kernel_rfl
theorem m_shi : Meets Try.prog e_shi :=
  meets_single mixed (fun e he => by
    simp only [G_shi, List.mem_cons, List.not_mem_nil, or_false] at he
    rcases he with rfl | rfl | rfl
    · exact m_eq
    · exact m_gt
    · exact m_ge) Try.func47 rfl (by kernel_rfl) r_shi rfl

def p_uzer : Path := ⟨[.pr (.eqs [false, false, false, false]) [.var 0, .lit 0, .var 1, .lit 0, .var 2, .lit 0, .var 3, .lit 0]], [], [.var 4]⟩
def G_uzer : List Entry := []
def e_uzer : Entry := { f := 28, args := [.agg (List.replicate 4 (some .u64))], res := [.bool], F := p_uzer.out G_uzer }
theorem r_uzer : runFn Try.prog G_uzer e_uzer Try.f28.ntmps Try.f28.results.toList (Try.f28.body.getD .skip) = some ([], [p_uzer]) := by kernel_rfl
theorem m_uzer : Meets Try.prog e_uzer :=
  meets_single mixed (fun e he => by simp [G_uzer] at he) Try.func28 rfl (by kernel_rfl) r_uzer rfl

def p_uodd : Path := ⟨[.pr (.bin .eql .u64) [.var 4, .lit 1], .pr (.bin .rem .u64) [.var 0, .lit 2]], [], [.var 5]⟩
def G_uodd : List Entry := []
def p_half : Path := ⟨[.pr (.bin .or .u64) [.var 14, .var 15], .pr (.bin .shl .u64) [.var 4, .lit 63], .pr (.bin .shr .u64) [.var 3, .lit 1], .pr (.bin .or .u64) [.var 11, .var 12], .pr (.bin .shl .u64) [.var 3, .lit 63], .pr (.bin .shr .u64) [.var 2, .lit 1], .pr (.bin .or .u64) [.var 8, .var 9], .pr (.bin .shl .u64) [.var 2, .lit 63], .pr (.bin .shr .u64) [.var 1, .lit 1], .pr (.bin .or .u64) [.var 5, .var 6], .pr (.bin .shl .u64) [.var 1, .lit 63], .pr (.bin .shr .u64) [.var 0, .lit 1]], [], [.var 7, .var 10, .var 13, .var 16]⟩
def G_half : List Entry := []
def e_half : Entry := { f := 34, args := [.agg (List.replicate 4 (some .u64)), .int .u64], res := [.agg (List.replicate 4 (some .u64))], F := p_half.out G_half }
theorem r_half : runFn Try.prog G_half e_half Try.f34.ntmps Try.f34.results.toList (Try.f34.body.getD .skip) = some ([], [p_half]) := by kernel_rfl
theorem m_half : Meets Try.prog e_half :=
  meets_single mixed (fun e he => by simp [G_half] at he) Try.func34 rfl (by kernel_rfl) r_half rfl

def p_low : Path := ⟨[.pr (.neg) [.var 16], .app 3 [.var 12, .var 13, .var 14, .var 15, .var 0, .var 1, .var 2, .var 3] 1, .app 2 [.var 8, .var 9, .var 10, .var 11, .lit 0] 4, .app 1 [.var 4, .var 5, .var 6, .var 7, .lit 1, .lit 0, .lit 0, .lit 0] 4, .app 0 [] 4], [], [.var 17]⟩
def G_low : List Entry := [e_order, e_lof, e_half, e_uless]
def e_low : Entry := { f := 19, args := [.agg (List.replicate 4 (some .u64))], res := [.bool], F := p_low.out G_low }
theorem r_low : runFn Try.prog G_low e_low Try.f19.ntmps Try.f19.results.toList (Try.f19.body.getD .skip) = some ([], [p_low]) := by kernel_rfl
theorem m_low : Meets Try.prog e_low :=
  meets_single mixed (fun e he => by
    simp only [G_low, List.mem_cons, List.not_mem_nil, or_false] at he
    rcases he with rfl | rfl | rfl | rfl
    · exact m_order
    · exact m_lof
    · exact m_half
    · exact m_uless) Try.func19 rfl (by kernel_rfl) r_low rfl

def p_fasks : Path := ⟨[.app 5 [.var 64, .var 65, .var 66, .var 67, .var 68, .var 69, .var 70, .var 71, .var 72, .var 73] 1, .app 4 [.var 64, .var 65, .var 66, .var 67, .var 68, .var 69, .var 70, .var 71, .var 72, .var 73, .var 74, .var 75, .var 76, .var 77, .var 78, .var 79, .var 80, .var 81, .var 82, .var 83] 1, .app 3 [.var 64, .var 65, .var 66, .var 67, .var 68, .var 69, .var 70, .var 71, .var 72, .var 73] 1, .app 2 [.var 64, .var 65, .var 66, .var 67, .var 68, .var 69, .var 70, .var 71, .var 72, .var 73] 1, .app 1 [.var 64, .var 65, .var 66, .var 67, .var 68, .var 69, .var 70, .var 71, .var 72, .var 73] 1, .app 0 [.var 32, .var 33, .var 34, .var 35, .var 36, .var 37, .var 38, .var 39, .var 40, .var 41, .var 42, .var 43, .var 44, .var 45, .var 46, .var 47, .var 48, .var 49, .var 50, .var 51, .var 52, .var 53, .var 54, .var 55, .var 56, .var 57, .var 58, .var 59, .var 60, .var 61, .var 62, .var 63] 10, .app 0 [.var 0, .var 1, .var 2, .var 3, .var 4, .var 5, .var 6, .var 7, .var 8, .var 9, .var 10, .var 11, .var 12, .var 13, .var 14, .var 15, .var 16, .var 17, .var 18, .var 19, .var 20, .var 21, .var 22, .var 23, .var 24, .var 25, .var 26, .var 27, .var 28, .var 29, .var 30, .var 31] 10], [], [.var 84, .var 85, .var 86, .var 87, .var 88]⟩
def p_sasks : Path := ⟨[.app 3 [.var 64, .var 65, .var 66, .var 67, .var 68, .var 69, .var 70, .var 71, .var 72, .var 73, .var 74, .var 75, .var 76, .var 77, .var 78, .var 79] 1, .app 4 [.var 64, .var 65, .var 66, .var 67, .var 68, .var 69, .var 70, .var 71] 1, .app 2 [.var 64, .var 65, .var 66, .var 67, .var 68, .var 69, .var 70, .var 71] 1, .app 1 [.var 64, .var 65, .var 66, .var 67, .var 68, .var 69, .var 70, .var 71] 1, .app 0 [.var 32, .var 33, .var 34, .var 35, .var 36, .var 37, .var 38, .var 39, .var 40, .var 41, .var 42, .var 43, .var 44, .var 45, .var 46, .var 47, .var 48, .var 49, .var 50, .var 51, .var 52, .var 53, .var 54, .var 55, .var 56, .var 57, .var 58, .var 59, .var 60, .var 61, .var 62, .var 63] 8, .app 0 [.var 0, .var 1, .var 2, .var 3, .var 4, .var 5, .var 6, .var 7, .var 8, .var 9, .var 10, .var 11, .var 12, .var 13, .var 14, .var 15, .var 16, .var 17, .var 18, .var 19, .var 20, .var 21, .var 22, .var 23, .var 24, .var 25, .var 26, .var 27, .var 28, .var 29, .var 30, .var 31] 8], [], [.var 80, .var 81, .var 82, .var 83]⟩
end Go.Proofs.Ytfeancgmmonebaa.Sx
