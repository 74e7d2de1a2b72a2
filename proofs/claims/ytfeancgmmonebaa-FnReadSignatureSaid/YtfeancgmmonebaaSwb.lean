/-
  Contracts of functions on signatures. Printed by gen.py. Conditions: none; each theorem bears its own.
-/
import Derived.Test.YtfeancgmmonebaaSzj
namespace Go.Proofs.Ytfeancgmmonebaa.Sx
open Go Go.Proofs

def p_fset1 : Path := ⟨[], [], [.var 10, .var 11, .var 12, .var 13, .var 14, .var 15, .var 16, .var 17, .var 18, .var 19]⟩
def G_fset1 : List Entry := []
def e_fset1 : Entry := { f := 54, args := [.ptr (List.replicate 10 (some .u32)) true, .ptr (List.replicate 10 (some .u32)) false], res := [.arg 0], F := p_fset1.out G_fset1 }
theorem r_fset1 : runFn Try.prog G_fset1 e_fset1 Try.f54.ntmps Try.f54.results.toList (Try.f54.body.getD .skip) = some ([], [p_fset1]) := by kernel_rfl
theorem m_fset1 : Meets Try.prog e_fset1 :=
  meets_single mixed (fun e he => by simp [G_fset1] at he) Try.func54 rfl (by kernel_rfl) r_fset1 rfl

def p_sset1 : Path := ⟨[], [], [.var 8, .var 9, .var 10, .var 11, .var 12, .var 13, .var 14, .var 15]⟩
def G_sset1 : List Entry := []
def e_sset1 : Entry := { f := 46, args := [.ptr (List.replicate 8 (some .u32)) true, .ptr (List.replicate 8 (some .u32)) false], res := [.arg 0], F := p_sset1.out G_sset1 }
theorem r_sset1 : runFn Try.prog G_sset1 e_sset1 Try.f46.ntmps Try.f46.results.toList (Try.f46.body.getD .skip) = some ([], [p_sset1]) := by kernel_rfl
theorem m_sset1 : Meets Try.prog e_sset1 :=
  meets_single mixed (fun e he => by simp [G_sset1] at he) Try.func46 rfl (by kernel_rfl) r_sset1 rfl

def p_newsch : Path := ⟨[.app 2 [.lit 0, .lit 0, .lit 0, .lit 0, .lit 0, .lit 0, .lit 0, .lit 0, .var 10, .var 11, .var 12, .var 13, .var 14, .var 15, .var 16, .var 17] 8, .app 1 [.var 18, .var 19, .var 20, .var 21, .var 22, .var 23, .var 24, .var 25, .var 26, .var 27] 10, .app 0 [.lit 0, .lit 0, .lit 0, .lit 0, .lit 0, .lit 0, .lit 0, .lit 0, .lit 0, .lit 0, .var 0, .var 1, .var 2, .var 3, .var 4, .var 5, .var 6, .var 7, .var 8, .var 9] 10], [], [.var 28, .var 29, .var 30, .var 31, .var 32, .var 33, .var 34, .var 35, .var 36, .var 37, .var 38, .var 39, .var 40, .var 41, .var 42, .var 43, .var 44, .var 45]⟩
def G_newsch : List Entry := [e_fset1, e_norm, e_sset1]
def e_newsch : Entry := { f := 38, args := [.ptr (List.replicate 10 (some .u32)) false, .ptr (List.replicate 8 (some .u32)) false], res := [.new (List.replicate 18 (some .u32))], F := p_newsch.out G_newsch }
theorem r_newsch : runFn Try.prog G_newsch e_newsch Try.f38.ntmps Try.f38.results.toList (Try.f38.body.getD .skip) = some ([], [p_newsch]) := by kernel_rfl
theorem m_newsch : Meets Try.prog e_newsch :=
  meets_single mixed (fun e he => by
    simp only [G_newsch, List.mem_cons, List.not_mem_nil, or_false] at he
    rcases he with rfl | rfl | rfl
    · exact m_fset1
    · exact m_norm
    · exact m_sset1) Try.func38 rfl (by kernel_rfl) r_newsch rfl

def p_newsig : Path := ⟨[], [], [.var 0, .var 1, .var 2, .var 3, .var 4, .var 5, .var 6, .var 7, .var 8, .var 9, .var 10, .var 11, .var 12, .var 13, .var 14, .var 15]⟩
def G_newsig : List Entry := []
def e_newsig : Entry := { f := 29, args := [.ptr (List.replicate 8 (some .u32)) false, .ptr (List.replicate 8 (some .u32)) false], res := [.new (List.replicate 16 (some .u32))], F := p_newsig.out G_newsig }
theorem r_newsig : runFn Try.prog G_newsig e_newsig Try.f29.ntmps Try.f29.results.toList (Try.f29.body.getD .skip) = some ([], [p_newsig]) := by kernel_rfl
theorem m_newsig : Meets Try.prog e_newsig :=
  meets_single mixed (fun e he => by simp [G_newsig] at he) Try.func29 rfl (by kernel_rfl) r_newsig rfl

def p_sigR : Path := ⟨[], [], [.var 0, .var 1, .var 2, .var 3, .var 4, .var 5, .var 6, .var 7]⟩
def G_sigR : List Entry := []
def e_sigR : Entry := { f := 42, args := [.ptr (List.replicate 16 (some .u32)) false], res := [.agg (List.replicate 8 (some .u32))], F := p_sigR.out G_sigR }
theorem r_sigR : runFn Try.prog G_sigR e_sigR Try.f42.ntmps Try.f42.results.toList (Try.f42.body.getD .skip) = some ([], [p_sigR]) := by kernel_rfl
theorem m_sigR : Meets Try.prog e_sigR :=
  meets_single mixed (fun e he => by simp [G_sigR] at he) Try.func42 rfl (by kernel_rfl) r_sigR rfl

def p_sigS : Path := ⟨[], [], [.var 8, .var 9, .var 10, .var 11, .var 12, .var 13, .var 14, .var 15]⟩
def G_sigS : List Entry := []
def e_sigS : Entry := { f := 43, args := [.ptr (List.replicate 16 (some .u32)) false], res := [.agg (List.replicate 8 (some .u32))], F := p_sigS.out G_sigS }
theorem r_sigS : runFn Try.prog G_sigS e_sigS Try.f43.ntmps Try.f43.results.toList (Try.f43.body.getD .skip) = some ([], [p_sigS]) := by kernel_rfl
theorem m_sigS : Meets Try.prog e_sigS :=
  meets_single mixed (fun e he => by simp [G_sigS] at he) Try.func43 rfl (by kernel_rfl) r_sigS rfl

def p_numbers : Path := ⟨[.app 2 [.var 24, .var 25, .var 26, .var 27, .var 28, .var 29, .var 30, .var 31] 32, .app 2 [.var 16, .var 17, .var 18, .var 19, .var 20, .var 21, .var 22, .var 23] 32, .app 1 [.var 0, .var 1, .var 2, .var 3, .var 4, .var 5, .var 6, .var 7, .var 8, .var 9, .var 10, .var 11, .var 12, .var 13, .var 14, .var 15] 8, .app 0 [.var 0, .var 1, .var 2, .var 3, .var 4, .var 5, .var 6, .var 7, .var 8, .var 9, .var 10, .var 11, .var 12, .var 13, .var 14, .var 15] 8], [], [.var 32, .var 33, .var 34, .var 35, .var 36, .var 37, .var 38, .var 39, .var 40, .var 41, .var 42, .var 43, .var 44, .var 45, .var 46, .var 47, .var 48, .var 49, .var 50, .var 51, .var 52, .var 53, .var 54, .var 55, .var 56, .var 57, .var 58, .var 59, .var 60, .var 61, .var 62, .var 63, .var 64, .var 65, .var 66, .var 67, .var 68, .var 69, .var 70, .var 71, .var 72, .var 73, .var 74, .var 75, .var 76, .var 77, .var 78, .var 79, .var 80, .var 81, .var 82, .var 83, .var 84, .var 85, .var 86, .var 87, .var 88, .var 89, .var 90, .var 91, .var 92, .var 93, .var 94, .var 95]⟩
def G_numbers : List Entry := [e_sigR, e_sigS, e_sbytes]
def e_numbers : Entry := { f := 27, args := [.ptr (List.replicate 16 (some .u32)) false], res := [.agg (List.replicate 32 (some .u8)), .agg (List.replicate 32 (some .u8))], F := p_numbers.out G_numbers }
theorem r_numbers : runFn Try.prog G_numbers e_numbers Try.f27.ntmps Try.f27.results.toList (Try.f27.body.getD .skip) = some ([], [p_numbers]) := by kernel_rfl
theorem m_numbers : Meets Try.prog e_numbers :=
  meets_single mixed (fun e he => by
    simp only [G_numbers, List.mem_cons, List.not_mem_nil, or_false] at he
    rcases he with rfl | rfl | rfl
    · exact m_sigR
    · exact m_sigS
    · exact m_sbytes) Try.func27 rfl (by kernel_rfl) r_numbers rfl

def p_lscalar : Path := ⟨[.app 2 [.var 32, .var 33, .var 34, .var 35, .var 36, .var 37, .var 38, .var 39] 1, .app 1 [] 4, .app 0 [.var 0, .var 1, .var 2, .var 3, .var 4, .var 5, .var 6, .var 7, .var 8, .var 9, .var 10, .var 11, .var 12, .var 13, .var 14, .var 15, .var 16, .var 17, .var 18, .var 19, .var 20, .var 21, .var 22, .var 23, .var 24, .var 25, .var 26, .var 27, .var 28, .var 29, .var 30, .var 31] 4], [], [.var 40]⟩
def G_lscalar : List Entry := [e_uof, e_order, e_uless]
def e_lscalar : Entry := { f := 6, args := [.agg (List.replicate 32 (some .u8))], res := [.bool], F := p_lscalar.out G_lscalar }
theorem r_lscalar : runFn Try.prog G_lscalar e_lscalar Try.f6.ntmps Try.f6.results.toList (Try.f6.body.getD .skip) = some ([], [p_lscalar]) := by kernel_rfl
theorem m_lscalar : Meets Try.prog e_lscalar :=
  meets_single mixed (fun e he => by
    simp only [G_lscalar, List.mem_cons, List.not_mem_nil, or_false] at he
    rcases he with rfl | rfl | rfl
    · exact m_uof
    · exact m_order
    · exact m_uless) Try.func6 rfl (by kernel_rfl) r_lscalar rfl

def q_ranged_0 : Path := ⟨[.app 2 [.var 32, .var 33, .var 34, .var 35, .var 38, .var 39, .var 40, .var 41] 1, .app 1 [] 4, .pr (.neg) [.var 36], .app 3 [.var 32, .var 33, .var 34, .var 35] 1, .app 0 [.var 0, .var 1, .var 2, .var 3, .var 4, .var 5, .var 6, .var 7, .var 8, .var 9, .var 10, .var 11, .var 12, .var 13, .var 14, .var 15, .var 16, .var 17, .var 18, .var 19, .var 20, .var 21, .var 22, .var 23, .var 24, .var 25, .var 26, .var 27, .var 28, .var 29, .var 30, .var 31] 4], [(.var 37, true)], [.var 42]⟩
def q_ranged_1 : Path := ⟨[.pr (.neg) [.var 36], .app 3 [.var 32, .var 33, .var 34, .var 35] 1, .app 0 [.var 0, .var 1, .var 2, .var 3, .var 4, .var 5, .var 6, .var 7, .var 8, .var 9, .var 10, .var 11, .var 12, .var 13, .var 14, .var 15, .var 16, .var 17, .var 18, .var 19, .var 20, .var 21, .var 22, .var 23, .var 24, .var 25, .var 26, .var 27, .var 28, .var 29, .var 30, .var 31] 4], [(.var 37, false)], [.lit 0]⟩
def ps_ranged : List Path := [q_ranged_0, q_ranged_1]
def G_ranged : List Entry := [e_uof, e_order, e_uless, e_uzer]
def Pre_ranged (b : List Int) : Prop := Dg 8 b
def F_ranged (b : List Int) : List Int := [b01 (decide (0 < be b ∧ be b < fn))]
def e_ranged : Entry := { f := 14, args := [.agg (List.replicate 32 (some .u8))], res := [.bool], F := F_ranged, free := false, Pre := Pre_ranged }
theorem r_ranged : runFn Try.prog G_ranged e_ranged Try.f14.ntmps Try.f14.results.toList (Try.f14.body.getD .skip) = some ([], ps_ranged) := by kernel_rfl
theorem ranged_a (e0 e1 e2 e3 : Entry) (b0 b1 b2 b3 b4 b5 b6 b7 b8 b9 b10 b11 b12 b13 b14 b15 b16 b17 b18 b19 b20 b21 b22 b23 b24 b25 b26 b27 b28 b29 b30 b31 : Int) : (SI.var 37).val (runR [e0, e1, e2, e3] q_ranged_0.defs [b0, b1, b2, b3, b4, b5, b6, b7, b8, b9, b10, b11, b12, b13, b14, b15, b16, b17, b18, b19, b20, b21, b22, b23, b24, b25, b26, b27, b28, b29, b30, b31]) = if (fit 1 (e3.F (fit 4 (e0.F [b0, b1, b2, b3, b4, b5, b6, b7, b8, b9, b10, b11, b12, b13, b14, b15, b16, b17, b18, b19, b20, b21, b22, b23, b24, b25, b26, b27, b28, b29, b30, b31])))).headD 0 = 0 then 1 else 0 := by kernel_rfl
theorem ranged_b (e0 e1 e2 e3 : Entry) (b0 b1 b2 b3 b4 b5 b6 b7 b8 b9 b10 b11 b12 b13 b14 b15 b16 b17 b18 b19 b20 b21 b22 b23 b24 b25 b26 b27 b28 b29 b30 b31 : Int) : (SI.var 37).val (runR [e0, e1, e2, e3] q_ranged_1.defs [b0, b1, b2, b3, b4, b5, b6, b7, b8, b9, b10, b11, b12, b13, b14, b15, b16, b17, b18, b19, b20, b21, b22, b23, b24, b25, b26, b27, b28, b29, b30, b31]) = if (fit 1 (e3.F (fit 4 (e0.F [b0, b1, b2, b3, b4, b5, b6, b7, b8, b9, b10, b11, b12, b13, b14, b15, b16, b17, b18, b19, b20, b21, b22, b23, b24, b25, b26, b27, b28, b29, b30, b31])))).headD 0 = 0 then 1 else 0 := by kernel_rfl
theorem ranged_c (e0 e1 e2 e3 : Entry) (b0 b1 b2 b3 b4 b5 b6 b7 b8 b9 b10 b11 b12 b13 b14 b15 b16 b17 b18 b19 b20 b21 b22 b23 b24 b25 b26 b27 b28 b29 b30 b31 : Int) : (SI.var 42).val (runR [e0, e1, e2, e3] q_ranged_0.defs [b0, b1, b2, b3, b4, b5, b6, b7, b8, b9, b10, b11, b12, b13, b14, b15, b16, b17, b18, b19, b20, b21, b22, b23, b24, b25, b26, b27, b28, b29, b30, b31]) = (fit 1 (e2.F (fit 4 (e0.F [b0, b1, b2, b3, b4, b5, b6, b7, b8, b9, b10, b11, b12, b13, b14, b15, b16, b17, b18, b19, b20, b21, b22, b23, b24, b25, b26, b27, b28, b29, b30, b31]) ++ fit 4 (e1.F [])))).headD 0 := by kernel_rfl

theorem m_ranged : Meets Try.prog e_ranged :=
  meets_of_run mixed (fun e he => by
    simp only [G_ranged, List.mem_cons, List.not_mem_nil, or_false] at he
    rcases he with rfl | rfl | rfl | rfl
    · exact m_uof
    · exact m_order
    · exact m_uless
    · exact m_uzer) Try.func14 rfl (by kernel_rfl) r_ranged (fun _ _ _ nd hnd => by cases hnd) fun base hl hpre p hp hasm => by
    have hd : Dg 8 base := hpre rfl
    have hl32 : base.length = 32 := hl
    obtain ⟨v0, v1⟩ := be_bounds hl32 hd
    have hu := uof_spec hl32 hd
    have hz := uzer_spec v0 v1
    have hlss := uless_spec v0 v1 (show (0 : Int) ≤ fn by decide) fn_lt
    show F_ranged base = _
    unfold F_ranged
    generalize be base = V at *
    obtain ⟨b0, b1, b2, b3, b4, b5, b6, b7, b8, b9, b10, b11, b12, b13, b14, b15, b16, b17, b18, b19, b20, b21, b22, b23, b24, b25, b26, b27, b28, b29, b30, b31, rfl⟩ := len32 hl32
    simp only [ps_ranged, List.mem_cons, List.not_mem_nil, or_false] at hp
    rcases hp with rfl | rfl
    · have h1 : ((SI.var 37).val _ != 0) = true := hasm _ List.mem_cons_self
      have h2 := ranged_a e_uof e_order e_uless e_uzer b0 b1 b2 b3 b4 b5 b6 b7 b8 b9 b10 b11 b12 b13 b14 b15 b16 b17 b18 b19 b20 b21 b22 b23 b24 b25 b26 b27 b28 b29 b30 b31
      have h3 := ranged_c e_uof e_order e_uless e_uzer b0 b1 b2 b3 b4 b5 b6 b7 b8 b9 b10 b11 b12 b13 b14 b15 b16 b17 b18 b19 b20 b21 b22 b23 b24 b25 b26 b27 b28 b29 b30 b31
      show _ = [(SI.var 42).val _]
      rw [show runR G_ranged q_ranged_0.defs [b0, b1, b2, b3, b4, b5, b6, b7, b8, b9, b10, b11, b12, b13, b14, b15, b16, b17, b18, b19, b20, b21, b22, b23, b24, b25, b26, b27, b28, b29, b30, b31] = runR [e_uof, e_order, e_uless, e_uzer] q_ranged_0.defs [b0, b1, b2, b3, b4, b5, b6, b7, b8, b9, b10, b11, b12, b13, b14, b15, b16, b17, b18, b19, b20, b21, b22, b23, b24, b25, b26, b27, b28, b29, b30, b31] from rfl] at h1 ⊢
      rw [h2, hu, fit_eq (dig_length 64 4 V), hz] at h1
      rw [h3, hu, order_spec, fit_eq (dig_length 64 4 V), fit_eq (dig_length 64 4 fn), hlss]
      by_cases hV : V = 0
      · simp [b01, fit, hV] at h1
      · have : (0 < V ∧ V < fn) ↔ V < fn := ⟨fun h => h.2, fun h => ⟨by omega, h⟩⟩
        simp only [this]
        rfl
    · have h1 : ((SI.var 37).val _ != 0) = false := hasm _ List.mem_cons_self
      have h2 := ranged_b e_uof e_order e_uless e_uzer b0 b1 b2 b3 b4 b5 b6 b7 b8 b9 b10 b11 b12 b13 b14 b15 b16 b17 b18 b19 b20 b21 b22 b23 b24 b25 b26 b27 b28 b29 b30 b31
      rw [show runR G_ranged q_ranged_1.defs [b0, b1, b2, b3, b4, b5, b6, b7, b8, b9, b10, b11, b12, b13, b14, b15, b16, b17, b18, b19, b20, b21, b22, b23, b24, b25, b26, b27, b28, b29, b30, b31] = runR [e_uof, e_order, e_uless, e_uzer] q_ranged_1.defs [b0, b1, b2, b3, b4, b5, b6, b7, b8, b9, b10, b11, b12, b13, b14, b15, b16, b17, b18, b19, b20, b21, b22, b23, b24, b25, b26, b27, b28, b29, b30, b31] from rfl] at h1
      rw [h2, hu, fit_eq (dig_length 64 4 V), hz] at h1
      by_cases hV : V = 0
      · subst hV
        rfl
      · simp [b01, fit, hV] at h1

def q_inrange_0 : Path := ⟨[.app 2 [.var 0, .var 1, .var 2, .var 3, .var 6, .var 7, .var 8, .var 9] 1, .app 1 [] 4, .pr (.neg) [.var 4], .app 0 [.var 0, .var 1, .var 2, .var 3] 1], [(.var 5, true)], [.var 10]⟩
def q_inrange_1 : Path := ⟨[.pr (.neg) [.var 4], .app 0 [.var 0, .var 1, .var 2, .var 3] 1], [(.var 5, false)], [.lit 0]⟩
def ps_inrange : List Path := [q_inrange_0, q_inrange_1]
def G_inrange : List Entry := [e_uzer, e_order, e_uless]
def Pre_inrange (b : List Int) : Prop := b.length = 4 ∧ Dg 64 b
def F_inrange (b : List Int) : List Int := [b01 (decide (0 < num 64 b ∧ num 64 b < fn))]
def e_inrange : Entry := { f := 25, args := [.agg (List.replicate 4 (some .u64))], res := [.bool], F := F_inrange, free := false, Pre := Pre_inrange }
theorem r_inrange : runFn Try.prog G_inrange e_inrange Try.f25.ntmps Try.f25.results.toList (Try.f25.body.getD .skip) = some ([], ps_inrange) := by kernel_rfl
theorem inrange_a (e0 e1 e2 : Entry) (a0 a1 a2 a3 : Int) : (SI.var 5).val (runR [e0, e1, e2] q_inrange_0.defs [a0, a1, a2, a3]) = if (fit 1 (e0.F [a0, a1, a2, a3])).headD 0 = 0 then 1 else 0 := by kernel_rfl
theorem inrange_b (e0 e1 e2 : Entry) (a0 a1 a2 a3 : Int) : (SI.var 5).val (runR [e0, e1, e2] q_inrange_1.defs [a0, a1, a2, a3]) = if (fit 1 (e0.F [a0, a1, a2, a3])).headD 0 = 0 then 1 else 0 := by kernel_rfl
theorem inrange_c (e0 e1 e2 : Entry) (a0 a1 a2 a3 : Int) : (SI.var 10).val (runR [e0, e1, e2] q_inrange_0.defs [a0, a1, a2, a3]) = (fit 1 (e2.F ([a0, a1, a2, a3] ++ fit 4 (e1.F [])))).headD 0 := by kernel_rfl

theorem m_inrange : Meets Try.prog e_inrange :=
  meets_of_run mixed (fun e he => by
    simp only [G_inrange, List.mem_cons, List.not_mem_nil, or_false] at he
    rcases he with rfl | rfl | rfl
    · exact m_uzer
    · exact m_order
    · exact m_uless) Try.func25 rfl (by kernel_rfl) r_inrange (fun _ _ _ nd hnd => by cases hnd) fun base hl hpre p hp hasm => by
    obtain ⟨hl4, hd⟩ : Pre_inrange base := hpre rfl
    have hb := num_bounds hd
    rw [hl4] at hb
    have hdig : dig 64 4 (num 64 base) = base := by
      have := dig_num hd
      rwa [hl4] at this
    have v0 := hb.1
    have v1 : num 64 base < 2 ^ 256 := hb.2
    have hz := uzer_spec v0 v1
    have hlss := uless_spec v0 v1 (show (0 : Int) ≤ fn by decide) fn_lt
    show F_inrange base = _
    unfold F_inrange
    generalize num 64 base = V at *
    rw [← hdig] at hasm ⊢
    obtain ⟨a0, a1, a2, a3, hx⟩ : ∃ a0 a1 a2 a3, dig 64 4 V = [a0, a1, a2, a3] := ⟨_, _, _, _, rfl⟩
    rw [hx] at hz hlss hasm ⊢
    simp only [ps_inrange, List.mem_cons, List.not_mem_nil, or_false] at hp
    rcases hp with rfl | rfl
    · have h1 : ((SI.var 5).val _ != 0) = true := hasm _ List.mem_cons_self
      have h2 := inrange_a e_uzer e_order e_uless a0 a1 a2 a3
      have h3 := inrange_c e_uzer e_order e_uless a0 a1 a2 a3
      show _ = [(SI.var 10).val _]
      rw [show runR G_inrange q_inrange_0.defs [a0, a1, a2, a3] = runR [e_uzer, e_order, e_uless] q_inrange_0.defs [a0, a1, a2, a3] from rfl] at h1 ⊢
      rw [h2, hz] at h1
      rw [h3, order_spec, fit_eq (dig_length 64 4 fn), hlss]
      by_cases hV : V = 0
      · simp [b01, fit, hV] at h1
      · have : (0 < V ∧ V < fn) ↔ V < fn := ⟨fun h => h.2, fun h => ⟨by omega, h⟩⟩
        simp only [this]
        rfl
    · have h1 : ((SI.var 5).val _ != 0) = false := hasm _ List.mem_cons_self
      have h2 := inrange_b e_uzer e_order e_uless a0 a1 a2 a3
      rw [show runR G_inrange q_inrange_1.defs [a0, a1, a2, a3] = runR [e_uzer, e_order, e_uless] q_inrange_1.defs [a0, a1, a2, a3] from rfl] at h1
      rw [h2, hz] at h1
      by_cases hV : V = 0
      · subst hV
        rfl
      · simp [b01, fit, hV] at h1

end Go.Proofs.Ytfeancgmmonebaa.Sx
