/-
  Two statements' functions as contracts. Printed by gen.py. Conditions: none; each theorem bears its own.
-/
import Derived.Test.YtbffnmoklpapiaaSzf
namespace Go.Proofs.Ytbffnmoklpapiaa.Sx
open Go Go.Proofs

/-- Two lists, by turns. -/
def twine : List Int → List Int → List Int
  | x :: l, y :: r => x :: y :: twine l r
  | _, _ => []

theorem allEq_twine : ∀ {n : Nat} {l : List Int}, l.length = n → allEq (List.replicate n false) (twine l l) = true
  | 0, [], _ => rfl
  | n + 1, x :: l, h => by
    simp only [List.replicate_succ, twine, allEq, decide_true, Bool.false_eq_true, if_false, Bool.true_and]
    exact allEq_twine (by simpa using h)

def q_fnfset_0 : Path := ⟨[.pr (.eqs [false, false, false, false, false, false, false, false, false, false, false, false, false, false, false, false, false, false, false, false, false, false, false, false, false, false, false, false, false, false, false, false]) [.var 33, .var 80, .var 34, .var 81, .var 35, .var 82, .var 36, .var 83, .var 37, .var 84, .var 38, .var 85, .var 39, .var 86, .var 40, .var 87, .var 41, .var 88, .var 42, .var 89, .var 43, .var 90, .var 44, .var 91, .var 45, .var 92, .var 46, .var 93, .var 47, .var 94, .var 48, .var 95, .var 49, .var 96, .var 50, .var 97, .var 51, .var 98, .var 52, .var 99, .var 53, .var 100, .var 54, .var 101, .var 55, .var 102, .var 56, .var 103, .var 57, .var 104, .var 58, .var 105, .var 59, .var 106, .var 60, .var 107, .var 61, .var 108, .var 62, .var 109, .var 63, .var 110, .var 64, .var 111], .app 5 [.var 76, .var 77, .var 78, .var 79] 32, .app 4 [.var 0, .var 1, .var 2, .var 3, .var 4, .var 5, .var 6, .var 7, .var 8, .var 9, .var 10, .var 11, .var 12, .var 13, .var 14, .var 15, .var 16, .var 17, .var 18, .var 19, .var 20, .var 21, .var 22, .var 23, .var 24, .var 25, .var 26, .var 27, .var 28, .var 29, .var 30, .var 31] 4, .pr (.beq) [.var 32, .var 74], .pr (.neg) [.var 73], .app 2 [.var 65, .var 66, .var 67, .var 68, .var 69, .var 70, .var 71, .var 72] 1, .app 3 [] 4, .app 1 [.var 0, .var 1, .var 2, .var 3, .var 4, .var 5, .var 6, .var 7, .var 8, .var 9, .var 10, .var 11, .var 12, .var 13, .var 14, .var 15, .var 16, .var 17, .var 18, .var 19, .var 20, .var 21, .var 22, .var 23, .var 24, .var 25, .var 26, .var 27, .var 28, .var 29, .var 30, .var 31] 4, .app 0 [.var 0, .var 1, .var 2, .var 3, .var 4, .var 5, .var 6, .var 7, .var 8, .var 9, .var 10, .var 11, .var 12, .var 13, .var 14, .var 15, .var 16, .var 17, .var 18, .var 19, .var 20, .var 21, .var 22, .var 23, .var 24, .var 25, .var 26, .var 27, .var 28, .var 29, .var 30, .var 31] 33], [(.var 75, true)], [.var 112]⟩
def q_fnfset_1 : Path := ⟨[.pr (.beq) [.var 32, .var 74], .pr (.neg) [.var 73], .app 2 [.var 65, .var 66, .var 67, .var 68, .var 69, .var 70, .var 71, .var 72] 1, .app 3 [] 4, .app 1 [.var 0, .var 1, .var 2, .var 3, .var 4, .var 5, .var 6, .var 7, .var 8, .var 9, .var 10, .var 11, .var 12, .var 13, .var 14, .var 15, .var 16, .var 17, .var 18, .var 19, .var 20, .var 21, .var 22, .var 23, .var 24, .var 25, .var 26, .var 27, .var 28, .var 29, .var 30, .var 31] 4, .app 0 [.var 0, .var 1, .var 2, .var 3, .var 4, .var 5, .var 6, .var 7, .var 8, .var 9, .var 10, .var 11, .var 12, .var 13, .var 14, .var 15, .var 16, .var 17, .var 18, .var 19, .var 20, .var 21, .var 22, .var 23, .var 24, .var 25, .var 26, .var 27, .var 28, .var 29, .var 30, .var 31] 33], [(.var 75, false)], [.lit 0]⟩
def ps_fnfset : List Path := [q_fnfset_0, q_fnfset_1]
def G_fnfset : List Entry := [e_fset, e_uof, e_uless, e_fprime, e_fieldof, e_ub]
def Pre_fnfset (b : List Int) : Prop := Dg 8 b
def F_fnfset (_ : List Int) : List Int := [1]
def e_fnfset : Entry := { f := 7, args := [.agg (List.replicate 32 (some .u8))], res := [.bool], F := F_fnfset, free := false, Pre := Pre_fnfset }
theorem r_fnfset : runFn Try.prog G_fnfset e_fnfset Try.f7.ntmps Try.f7.results.toList (Try.f7.body.getD .skip) = some ([], ps_fnfset) := by kernel_rfl
theorem fnfset_c (e0 e1 e2 e3 e4 e5 : Entry) (b0 b1 b2 b3 b4 b5 b6 b7 b8 b9 b10 b11 b12 b13 b14 b15 b16 b17 b18 b19 b20 b21 b22 b23 b24 b25 b26 b27 b28 b29 b30 b31 : Int) : (SI.var 75).val (runR [e0, e1, e2, e3, e4, e5] q_fnfset_0.defs [b0, b1, b2, b3, b4, b5, b6, b7, b8, b9, b10, b11, b12, b13, b14, b15, b16, b17, b18, b19, b20, b21, b22, b23, b24, b25, b26, b27, b28, b29, b30, b31]) =
    if (((fit 33 (e0.F [b0, b1, b2, b3, b4, b5, b6, b7, b8, b9, b10, b11, b12, b13, b14, b15, b16, b17, b18, b19, b20, b21, b22, b23, b24, b25, b26, b27, b28, b29, b30, b31])).headD 0 != 0) == ((if (fit 1 (e2.F (fit 4 (e1.F [b0, b1, b2, b3, b4, b5, b6, b7, b8, b9, b10, b11, b12, b13, b14, b15, b16, b17, b18, b19, b20, b21, b22, b23, b24, b25, b26, b27, b28, b29, b30, b31]) ++ fit 4 (e3.F [])))).headD 0 = 0 then (1 : Int) else 0) != 0)) = true then 1 else 0 := by kernel_rfl

theorem fnfset_d (e0 e1 e2 e3 e4 e5 : Entry) (b0 b1 b2 b3 b4 b5 b6 b7 b8 b9 b10 b11 b12 b13 b14 b15 b16 b17 b18 b19 b20 b21 b22 b23 b24 b25 b26 b27 b28 b29 b30 b31 : Int) : (SI.var 75).val (runR [e0, e1, e2, e3, e4, e5] q_fnfset_1.defs [b0, b1, b2, b3, b4, b5, b6, b7, b8, b9, b10, b11, b12, b13, b14, b15, b16, b17, b18, b19, b20, b21, b22, b23, b24, b25, b26, b27, b28, b29, b30, b31]) =
    if (((fit 33 (e0.F [b0, b1, b2, b3, b4, b5, b6, b7, b8, b9, b10, b11, b12, b13, b14, b15, b16, b17, b18, b19, b20, b21, b22, b23, b24, b25, b26, b27, b28, b29, b30, b31])).headD 0 != 0) == ((if (fit 1 (e2.F (fit 4 (e1.F [b0, b1, b2, b3, b4, b5, b6, b7, b8, b9, b10, b11, b12, b13, b14, b15, b16, b17, b18, b19, b20, b21, b22, b23, b24, b25, b26, b27, b28, b29, b30, b31]) ++ fit 4 (e3.F [])))).headD 0 = 0 then (1 : Int) else 0) != 0)) = true then 1 else 0 := by kernel_rfl

theorem fnfset_o (e0 e1 e2 e3 e4 e5 : Entry) (b0 b1 b2 b3 b4 b5 b6 b7 b8 b9 b10 b11 b12 b13 b14 b15 b16 b17 b18 b19 b20 b21 b22 b23 b24 b25 b26 b27 b28 b29 b30 b31 : Int) : q_fnfset_0.out [e0, e1, e2, e3, e4, e5] [b0, b1, b2, b3, b4, b5, b6, b7, b8, b9, b10, b11, b12, b13, b14, b15, b16, b17, b18, b19, b20, b21, b22, b23, b24, b25, b26, b27, b28, b29, b30, b31] = [if allEq (List.replicate 32 false) (twine (fit 33 (e0.F [b0, b1, b2, b3, b4, b5, b6, b7, b8, b9, b10, b11, b12, b13, b14, b15, b16, b17, b18, b19, b20, b21, b22, b23, b24, b25, b26, b27, b28, b29, b30, b31])).tail (fit 32 (e5.F (fit 4 (e4.F [b0, b1, b2, b3, b4, b5, b6, b7, b8, b9, b10, b11, b12, b13, b14, b15, b16, b17, b18, b19, b20, b21, b22, b23, b24, b25, b26, b27, b28, b29, b30, b31]))))) = true then 1 else 0] := by kernel_rfl

theorem fnfset_key {bs : List Int} (h : bs.length = 32) (hd : Dg 8 bs) :
    (if (((fit 33 (e_fset.F bs)).headD 0 != 0) == ((if (fit 1 (e_uless.F (fit 4 (e_uof.F bs) ++ fit 4 (e_fprime.F [])))).headD 0 = 0 then (1 : Int) else 0) != 0)) = true then (1 : Int) else 0) = 1 ∧
    (if allEq (List.replicate 32 false) (twine (fit 33 (e_fset.F bs)).tail (fit 32 (e_ub.F (fit 4 (e_fieldof.F bs))))) = true then (1 : Int) else 0) = 1 := by
  obtain ⟨v0, v1⟩ := be_bounds h hd
  obtain ⟨m0, m1⟩ := mod_bounds (V := be bs) fp_pos fp_lt
  rw [fset_spec h hd, uof_spec h hd, fprime_spec, fit_eq (n := 33) (by simp [dig_length]), fit_eq (dig_length 64 4 _), fit_eq (dig_length 64 4 _), uless_spec v0 v1 (by decide) fp_lt]
  refine ⟨?_, ?_⟩
  · by_cases hh : fp ≤ be bs
    · have h2 : ¬ be bs < fp := by omega
      simp [b01, fit, hh, h2]
    · have h2 : be bs < fp := by omega
      simp [b01, fit, hh, h2]
  · rw [fieldof_spec h hd, fit_eq (dig_length 64 4 _), ub_spec m0 m1, fit_eq (n := 32) (by simp [dig_length]), List.tail_cons, if_pos (allEq_twine (by simp [dig_length]))]

theorem m_fnfset : Meets Try.prog e_fnfset :=
  meets_of_run mixed (fun e he => by
    simp only [G_fnfset, List.mem_cons, List.not_mem_nil, or_false] at he
    rcases he with rfl | rfl | rfl | rfl | rfl | rfl
    · exact m_fset
    · exact m_uof
    · exact m_uless
    · exact m_fprime
    · exact m_fieldof
    · exact m_ub) Try.func7 rfl (by kernel_rfl) r_fnfset (fun _ _ _ nd hnd => by cases hnd) fun base hl hpre p hp hasm => by
    have hd : Dg 8 base := hpre rfl
    have hl32 : base.length = 32 := hl
    obtain ⟨k1, k2⟩ := fnfset_key hl32 hd
    obtain ⟨b0, b1, b2, b3, b4, b5, b6, b7, b8, b9, b10, b11, b12, b13, b14, b15, b16, b17, b18, b19, b20, b21, b22, b23, b24, b25, b26, b27, b28, b29, b30, b31, rfl⟩ := len32 hl32
    simp only [ps_fnfset, List.mem_cons, List.not_mem_nil, or_false] at hp
    rcases hp with rfl | rfl
    · have := fnfset_o e_fset e_uof e_uless e_fprime e_fieldof e_ub b0 b1 b2 b3 b4 b5 b6 b7 b8 b9 b10 b11 b12 b13 b14 b15 b16 b17 b18 b19 b20 b21 b22 b23 b24 b25 b26 b27 b28 b29 b30 b31
      rw [k2] at this
      exact this.symm
    · exfalso
      have h1 := hasm _ List.mem_cons_self
      have h2 := fnfset_d e_fset e_uof e_uless e_fprime e_fieldof e_ub b0 b1 b2 b3 b4 b5 b6 b7 b8 b9 b10 b11 b12 b13 b14 b15 b16 b17 b18 b19 b20 b21 b22 b23 b24 b25 b26 b27 b28 b29 b30 b31
      rw [k1] at h2
      have h3 : ((SI.var 75).val (runR G_fnfset q_fnfset_1.defs [b0, b1, b2, b3, b4, b5, b6, b7, b8, b9, b10, b11, b12, b13, b14, b15, b16, b17, b18, b19, b20, b21, b22, b23, b24, b25, b26, b27, b28, b29, b30, b31]) != 0) = false := h1
      rw [show runR G_fnfset q_fnfset_1.defs [b0, b1, b2, b3, b4, b5, b6, b7, b8, b9, b10, b11, b12, b13, b14, b15, b16, b17, b18, b19, b20, b21, b22, b23, b24, b25, b26, b27, b28, b29, b30, b31] = runR [e_fset, e_uof, e_uless, e_fprime, e_fieldof, e_ub] q_fnfset_1.defs [b0, b1, b2, b3, b4, b5, b6, b7, b8, b9, b10, b11, b12, b13, b14, b15, b16, b17, b18, b19, b20, b21, b22, b23, b24, b25, b26, b27, b28, b29, b30, b31] from rfl, h2] at h3
      cases h3

def q_fnsset_0 : Path := ⟨[.pr (.eqs [false, false, false, false, false, false, false, false, false, false, false, false, false, false, false, false, false, false, false, false, false, false, false, false, false, false, false, false, false, false, false, false]) [.var 33, .var 80, .var 34, .var 81, .var 35, .var 82, .var 36, .var 83, .var 37, .var 84, .var 38, .var 85, .var 39, .var 86, .var 40, .var 87, .var 41, .var 88, .var 42, .var 89, .var 43, .var 90, .var 44, .var 91, .var 45, .var 92, .var 46, .var 93, .var 47, .var 94, .var 48, .var 95, .var 49, .var 96, .var 50, .var 97, .var 51, .var 98, .var 52, .var 99, .var 53, .var 100, .var 54, .var 101, .var 55, .var 102, .var 56, .var 103, .var 57, .var 104, .var 58, .var 105, .var 59, .var 106, .var 60, .var 107, .var 61, .var 108, .var 62, .var 109, .var 63, .var 110, .var 64, .var 111], .app 5 [.var 76, .var 77, .var 78, .var 79] 32, .app 4 [.var 0, .var 1, .var 2, .var 3, .var 4, .var 5, .var 6, .var 7, .var 8, .var 9, .var 10, .var 11, .var 12, .var 13, .var 14, .var 15, .var 16, .var 17, .var 18, .var 19, .var 20, .var 21, .var 22, .var 23, .var 24, .var 25, .var 26, .var 27, .var 28, .var 29, .var 30, .var 31] 4, .pr (.beq) [.var 32, .var 74], .pr (.neg) [.var 73], .app 2 [.var 65, .var 66, .var 67, .var 68, .var 69, .var 70, .var 71, .var 72] 1, .app 3 [] 4, .app 1 [.var 0, .var 1, .var 2, .var 3, .var 4, .var 5, .var 6, .var 7, .var 8, .var 9, .var 10, .var 11, .var 12, .var 13, .var 14, .var 15, .var 16, .var 17, .var 18, .var 19, .var 20, .var 21, .var 22, .var 23, .var 24, .var 25, .var 26, .var 27, .var 28, .var 29, .var 30, .var 31] 4, .app 0 [.var 0, .var 1, .var 2, .var 3, .var 4, .var 5, .var 6, .var 7, .var 8, .var 9, .var 10, .var 11, .var 12, .var 13, .var 14, .var 15, .var 16, .var 17, .var 18, .var 19, .var 20, .var 21, .var 22, .var 23, .var 24, .var 25, .var 26, .var 27, .var 28, .var 29, .var 30, .var 31] 33], [(.var 75, true)], [.var 112]⟩
def q_fnsset_1 : Path := ⟨[.pr (.beq) [.var 32, .var 74], .pr (.neg) [.var 73], .app 2 [.var 65, .var 66, .var 67, .var 68, .var 69, .var 70, .var 71, .var 72] 1, .app 3 [] 4, .app 1 [.var 0, .var 1, .var 2, .var 3, .var 4, .var 5, .var 6, .var 7, .var 8, .var 9, .var 10, .var 11, .var 12, .var 13, .var 14, .var 15, .var 16, .var 17, .var 18, .var 19, .var 20, .var 21, .var 22, .var 23, .var 24, .var 25, .var 26, .var 27, .var 28, .var 29, .var 30, .var 31] 4, .app 0 [.var 0, .var 1, .var 2, .var 3, .var 4, .var 5, .var 6, .var 7, .var 8, .var 9, .var 10, .var 11, .var 12, .var 13, .var 14, .var 15, .var 16, .var 17, .var 18, .var 19, .var 20, .var 21, .var 22, .var 23, .var 24, .var 25, .var 26, .var 27, .var 28, .var 29, .var 30, .var 31] 33], [(.var 75, false)], [.lit 0]⟩
def ps_fnsset : List Path := [q_fnsset_0, q_fnsset_1]
def G_fnsset : List Entry := [e_sset, e_uof, e_uless, e_order, e_scalarof, e_ub]
def Pre_fnsset (b : List Int) : Prop := Dg 8 b
def F_fnsset (_ : List Int) : List Int := [1]
def e_fnsset : Entry := { f := 4, args := [.agg (List.replicate 32 (some .u8))], res := [.bool], F := F_fnsset, free := false, Pre := Pre_fnsset }
theorem r_fnsset : runFn Try.prog G_fnsset e_fnsset Try.f4.ntmps Try.f4.results.toList (Try.f4.body.getD .skip) = some ([], ps_fnsset) := by kernel_rfl
theorem fnsset_c (e0 e1 e2 e3 e4 e5 : Entry) (b0 b1 b2 b3 b4 b5 b6 b7 b8 b9 b10 b11 b12 b13 b14 b15 b16 b17 b18 b19 b20 b21 b22 b23 b24 b25 b26 b27 b28 b29 b30 b31 : Int) : (SI.var 75).val (runR [e0, e1, e2, e3, e4, e5] q_fnsset_0.defs [b0, b1, b2, b3, b4, b5, b6, b7, b8, b9, b10, b11, b12, b13, b14, b15, b16, b17, b18, b19, b20, b21, b22, b23, b24, b25, b26, b27, b28, b29, b30, b31]) =
    if (((fit 33 (e0.F [b0, b1, b2, b3, b4, b5, b6, b7, b8, b9, b10, b11, b12, b13, b14, b15, b16, b17, b18, b19, b20, b21, b22, b23, b24, b25, b26, b27, b28, b29, b30, b31])).headD 0 != 0) == ((if (fit 1 (e2.F (fit 4 (e1.F [b0, b1, b2, b3, b4, b5, b6, b7, b8, b9, b10, b11, b12, b13, b14, b15, b16, b17, b18, b19, b20, b21, b22, b23, b24, b25, b26, b27, b28, b29, b30, b31]) ++ fit 4 (e3.F [])))).headD 0 = 0 then (1 : Int) else 0) != 0)) = true then 1 else 0 := by kernel_rfl

theorem fnsset_d (e0 e1 e2 e3 e4 e5 : Entry) (b0 b1 b2 b3 b4 b5 b6 b7 b8 b9 b10 b11 b12 b13 b14 b15 b16 b17 b18 b19 b20 b21 b22 b23 b24 b25 b26 b27 b28 b29 b30 b31 : Int) : (SI.var 75).val (runR [e0, e1, e2, e3, e4, e5] q_fnsset_1.defs [b0, b1, b2, b3, b4, b5, b6, b7, b8, b9, b10, b11, b12, b13, b14, b15, b16, b17, b18, b19, b20, b21, b22, b23, b24, b25, b26, b27, b28, b29, b30, b31]) =
    if (((fit 33 (e0.F [b0, b1, b2, b3, b4, b5, b6, b7, b8, b9, b10, b11, b12, b13, b14, b15, b16, b17, b18, b19, b20, b21, b22, b23, b24, b25, b26, b27, b28, b29, b30, b31])).headD 0 != 0) == ((if (fit 1 (e2.F (fit 4 (e1.F [b0, b1, b2, b3, b4, b5, b6, b7, b8, b9, b10, b11, b12, b13, b14, b15, b16, b17, b18, b19, b20, b21, b22, b23, b24, b25, b26, b27, b28, b29, b30, b31]) ++ fit 4 (e3.F [])))).headD 0 = 0 then (1 : Int) else 0) != 0)) = true then 1 else 0 := by kernel_rfl

theorem fnsset_o (e0 e1 e2 e3 e4 e5 : Entry) (b0 b1 b2 b3 b4 b5 b6 b7 b8 b9 b10 b11 b12 b13 b14 b15 b16 b17 b18 b19 b20 b21 b22 b23 b24 b25 b26 b27 b28 b29 b30 b31 : Int) : q_fnsset_0.out [e0, e1, e2, e3, e4, e5] [b0, b1, b2, b3, b4, b5, b6, b7, b8, b9, b10, b11, b12, b13, b14, b15, b16, b17, b18, b19, b20, b21, b22, b23, b24, b25, b26, b27, b28, b29, b30, b31] = [if allEq (List.replicate 32 false) (twine (fit 33 (e0.F [b0, b1, b2, b3, b4, b5, b6, b7, b8, b9, b10, b11, b12, b13, b14, b15, b16, b17, b18, b19, b20, b21, b22, b23, b24, b25, b26, b27, b28, b29, b30, b31])).tail (fit 32 (e5.F (fit 4 (e4.F [b0, b1, b2, b3, b4, b5, b6, b7, b8, b9, b10, b11, b12, b13, b14, b15, b16, b17, b18, b19, b20, b21, b22, b23, b24, b25, b26, b27, b28, b29, b30, b31]))))) = true then 1 else 0] := by kernel_rfl

theorem fnsset_key {bs : List Int} (h : bs.length = 32) (hd : Dg 8 bs) :
    (if (((fit 33 (e_sset.F bs)).headD 0 != 0) == ((if (fit 1 (e_uless.F (fit 4 (e_uof.F bs) ++ fit 4 (e_order.F [])))).headD 0 = 0 then (1 : Int) else 0) != 0)) = true then (1 : Int) else 0) = 1 ∧
    (if allEq (List.replicate 32 false) (twine (fit 33 (e_sset.F bs)).tail (fit 32 (e_ub.F (fit 4 (e_scalarof.F bs))))) = true then (1 : Int) else 0) = 1 := by
  obtain ⟨v0, v1⟩ := be_bounds h hd
  obtain ⟨m0, m1⟩ := mod_bounds (V := be bs) fn_pos fn_lt
  rw [sset_spec h hd, uof_spec h hd, order_spec, fit_eq (n := 33) (by simp [dig_length]), fit_eq (dig_length 64 4 _), fit_eq (dig_length 64 4 _), uless_spec v0 v1 (by decide) fn_lt]
  refine ⟨?_, ?_⟩
  · by_cases hh : fn ≤ be bs
    · have h2 : ¬ be bs < fn := by omega
      simp [b01, fit, hh, h2]
    · have h2 : be bs < fn := by omega
      simp [b01, fit, hh, h2]
  · rw [scalarof_spec h hd, fit_eq (dig_length 64 4 _), ub_spec m0 m1, fit_eq (n := 32) (by simp [dig_length]), List.tail_cons, if_pos (allEq_twine (by simp [dig_length]))]

theorem m_fnsset : Meets Try.prog e_fnsset :=
  meets_of_run mixed (fun e he => by
    simp only [G_fnsset, List.mem_cons, List.not_mem_nil, or_false] at he
    rcases he with rfl | rfl | rfl | rfl | rfl | rfl
    · exact m_sset
    · exact m_uof
    · exact m_uless
    · exact m_order
    · exact m_scalarof
    · exact m_ub) Try.func4 rfl (by kernel_rfl) r_fnsset (fun _ _ _ nd hnd => by cases hnd) fun base hl hpre p hp hasm => by
    have hd : Dg 8 base := hpre rfl
    have hl32 : base.length = 32 := hl
    obtain ⟨k1, k2⟩ := fnsset_key hl32 hd
    obtain ⟨b0, b1, b2, b3, b4, b5, b6, b7, b8, b9, b10, b11, b12, b13, b14, b15, b16, b17, b18, b19, b20, b21, b22, b23, b24, b25, b26, b27, b28, b29, b30, b31, rfl⟩ := len32 hl32
    simp only [ps_fnsset, List.mem_cons, List.not_mem_nil, or_false] at hp
    rcases hp with rfl | rfl
    · have := fnsset_o e_sset e_uof e_uless e_order e_scalarof e_ub b0 b1 b2 b3 b4 b5 b6 b7 b8 b9 b10 b11 b12 b13 b14 b15 b16 b17 b18 b19 b20 b21 b22 b23 b24 b25 b26 b27 b28 b29 b30 b31
      rw [k2] at this
      exact this.symm
    · exfalso
      have h1 := hasm _ List.mem_cons_self
      have h2 := fnsset_d e_sset e_uof e_uless e_order e_scalarof e_ub b0 b1 b2 b3 b4 b5 b6 b7 b8 b9 b10 b11 b12 b13 b14 b15 b16 b17 b18 b19 b20 b21 b22 b23 b24 b25 b26 b27 b28 b29 b30 b31
      rw [k1] at h2
      have h3 : ((SI.var 75).val (runR G_fnsset q_fnsset_1.defs [b0, b1, b2, b3, b4, b5, b6, b7, b8, b9, b10, b11, b12, b13, b14, b15, b16, b17, b18, b19, b20, b21, b22, b23, b24, b25, b26, b27, b28, b29, b30, b31]) != 0) = false := h1
      rw [show runR G_fnsset q_fnsset_1.defs [b0, b1, b2, b3, b4, b5, b6, b7, b8, b9, b10, b11, b12, b13, b14, b15, b16, b17, b18, b19, b20, b21, b22, b23, b24, b25, b26, b27, b28, b29, b30, b31] = runR [e_sset, e_uof, e_uless, e_order, e_scalarof, e_ub] q_fnsset_1.defs [b0, b1, b2, b3, b4, b5, b6, b7, b8, b9, b10, b11, b12, b13, b14, b15, b16, b17, b18, b19, b20, b21, b22, b23, b24, b25, b26, b27, b28, b29, b30, b31] from rfl, h2] at h3
      cases h3

end Go.Proofs.Ytbffnmoklpapiaa.Sx
