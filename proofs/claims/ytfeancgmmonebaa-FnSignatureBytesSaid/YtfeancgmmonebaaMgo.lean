/-
  Contracts of functions on signatures. Printed by gen.py. Conditions: none; each theorem bears its own.
-/
import Derived.Test.YtfeancgmmonebaaMgl
import Derived.Test.YtfeancgmmonebaaMgn
import Derived.Deep.Cut
import Derived.LoopTactic
namespace Go.Proofs.Ytfeancgmmonebaa.Sx
open Go Go.Proofs

def p_fset1 : Path := ⟨[], [], [.var 10, .var 11, .var 12, .var 13, .var 14, .var 15, .var 16, .var 17, .var 18, .var 19]⟩
def G_fset1 : List Entry := []
def e_fset1 : Entry := { f := 54, args := [.ptr (List.replicate 10 (some .u32)) true, .ptr (List.replicate 10 (some .u32)) false], res := [.arg 0], F := p_fset1.out G_fset1 }
theorem r_fset1 : runFn Try.prog G_fset1 e_fset1 Try.f54.ntmps Try.f54.results.toList (Try.f54.body.getD .skip) = some ([], [p_fset1]) := by kernel_rfl
theorem m_fset1 : Meets Try.prog e_fset1 :=
  meets_single mixed (fun e he => by simp [G_fset1] at he) Try.func54 rfl (by kernel_rfl) r_fset1 rfl

def p_sset1 : Path := ⟨[], [], [.var 8, .var 9, .var 10, .var 11, .var 12, .var 13, .var 14, .var 15]⟩
def G_sset1 : List Entry := []
def e_sset1 : Entry := { f := 46, args := [.ptr (List.replicate 8 (some .u32)) true, .ptr (List.replicate 8 (some .u32)) false], res := [.arg 0], F := p_sset1.out G_sset1 }
theorem r_sset1 : runFn Try.prog G_sset1 e_sset1 Try.f46.ntmps Try.f46.results.toList (Try.f46.body.getD .skip) = some ([], [p_sset1]) := by kernel_rfl
theorem m_sset1 : Meets Try.prog e_sset1 :=
  meets_single mixed (fun e he => by simp [G_sset1] at he) Try.func46 rfl (by kernel_rfl) r_sset1 rfl

def p_newsch : Path := ⟨[.app 2 [.lit 0, .lit 0, .lit 0, .lit 0, .lit 0, .lit 0, .lit 0, .lit 0, .var 10, .var 11, .var 12, .var 13, .var 14, .var 15, .var 16, .var 17] 8, .app 1 [.var 18, .var 19, .var 20, .var 21, .var 22, .var 23, .var 24, .var 25, .var 26, .var 27] 10, .app 0 [.lit 0, .lit 0, .lit 0, .lit 0, .lit 0, .lit 0, .lit 0, .lit 0, .lit 0, .lit 0, .var 0, .var 1, .var 2, .var 3, .var 4, .var 5, .var 6, .var 7, .var 8, .var 9] 10], [], [.var 28, .var 29, .var 30, .var 31, .var 32, .var 33, .var 34, .var 35, .var 36, .var 37, .var 38, .var 39, .var 40, .var 41, .var 42, .var 43, .var 44, .var 45]⟩
def G_newsch : List Entry := [e_fset1, e_norm, e_sset1]
def e_newsch : Entry := { f := 38, args := [.ptr (List.replicate 10 (some .u32)) false, .ptr (List.replicate 8 (some .u32)) false], res := [.new (List.replicate 18 (some .u32))], F := p_newsch.out G_newsch }
theorem r_newsch : runFn Try.prog G_newsch e_newsch Try.f38.ntmps Try.f38.results.toList (Try.f38.body.getD .skip) = some ([], [p_newsch]) := by kernel_rfl
theorem m_newsch : Meets Try.prog e_newsch :=
  meets_single mixed (fun e he => by
    simp only [G_newsch, List.mem_cons, List.not_mem_nil, or_false] at he
    rcases he with rfl | rfl | rfl
    · exact m_fset1
    · exact m_norm
    · exact m_sset1) Try.func38 rfl (by kernel_rfl) r_newsch rfl

def p_newsig : Path := ⟨[], [], [.var 0, .var 1, .var 2, .var 3, .var 4, .var 5, .var 6, .var 7, .var 8, .var 9, .var 10, .var 11, .var 12, .var 13, .var 14, .var 15]⟩
def G_newsig : List Entry := []
def e_newsig : Entry := { f := 29, args := [.ptr (List.replicate 8 (some .u32)) false, .ptr (List.replicate 8 (some .u32)) false], res := [.new (List.replicate 16 (some .u32))], F := p_newsig.out G_newsig }
theorem r_newsig : runFn Try.prog G_newsig e_newsig Try.f29.ntmps Try.f29.results.toList (Try.f29.body.getD .skip) = some ([], [p_newsig]) := by kernel_rfl
theorem m_newsig : Meets Try.prog e_newsig :=
  meets_single mixed (fun e he => by simp [G_newsig] at he) Try.func29 rfl (by kernel_rfl) r_newsig rfl

def p_sigR : Path := ⟨[], [], [.var 0, .var 1, .var 2, .var 3, .var 4, .var 5, .var 6, .var 7]⟩
def G_sigR : List Entry := []
def e_sigR : Entry := { f := 42, args := [.ptr (List.replicate 16 (some .u32)) false], res := [.agg (List.replicate 8 (some .u32))], F := p_sigR.out G_sigR }
theorem r_sigR : runFn Try.prog G_sigR e_sigR Try.f42.ntmps Try.f42.results.toList (Try.f42.body.getD .skip) = some ([], [p_sigR]) := by kernel_rfl
theorem m_sigR : Meets Try.prog e_sigR :=
  meets_single mixed (fun e he => by simp [G_sigR] at he) Try.func42 rfl (by kernel_rfl) r_sigR rfl

def p_sigS : Path := ⟨[], [], [.var 8, .var 9, .var 10, .var 11, .var 12, .var 13, .var 14, .var 15]⟩
def G_sigS : List Entry := []
def e_sigS : Entry := { f := 43, args := [.ptr (List.replicate 16 (some .u32)) false], res := [.agg (List.replicate 8 (some .u32))], F := p_sigS.out G_sigS }
theorem r_sigS : runFn Try.prog G_sigS e_sigS Try.f43.ntmps Try.f43.results.toList (Try.f43.body.getD .skip) = some ([], [p_sigS]) := by kernel_rfl
theorem m_sigS : Meets Try.prog e_sigS :=
  meets_single mixed (fun e he => by simp [G_sigS] at he) Try.func43 rfl (by kernel_rfl) r_sigS rfl

def p_numbers : Path := ⟨[.app 2 [.var 24, .var 25, .var 26, .var 27, .var 28, .var 29, .var 30, .var 31] 32, .app 2 [.var 16, .var 17, .var 18, .var 19, .var 20, .var 21, .var 22, .var 23] 32, .app 1 [.var 0, .var 1, .var 2, .var 3, .var 4, .var 5, .var 6, .var 7, .var 8, .var 9, .var 10, .var 11, .var 12, .var 13, .var 14, .var 15] 8, .app 0 [.var 0, .var 1, .var 2, .var 3, .var 4, .var 5, .var 6, .var 7, .var 8, .var 9, .var 10, .var 11, .var 12, .var 13, .var 14, .var 15] 8], [], [.var 32, .var 33, .var 34, .var 35, .var 36, .var 37, .var 38, .var 39, .var 40, .var 41, .var 42, .var 43, .var 44, .var 45, .var 46, .var 47, .var 48, .var 49, .var 50, .var 51, .var 52, .var 53, .var 54, .var 55, .var 56, .var 57, .var 58, .var 59, .var 60, .var 61, .var 62, .var 63, .var 64, .var 65, .var 66, .var 67, .var 68, .var 69, .var 70, .var 71, .var 72, .var 73, .var 74, .var 75, .var 76, .var 77, .var 78, .var 79, .var 80, .var 81, .var 82, .var 83, .var 84, .var 85, .var 86, .var 87, .var 88, .var 89, .var 90, .var 91, .var 92, .var 93, .var 94, .var 95]⟩
def G_numbers : List Entry := [e_sigR, e_sigS, e_sbytes]
def e_numbers : Entry := { f := 27, args := [.ptr (List.replicate 16 (some .u32)) false], res := [.agg (List.replicate 32 (some .u8)), .agg (List.replicate 32 (some .u8))], F := p_numbers.out G_numbers }
theorem r_numbers : runFn Try.prog G_numbers e_numbers Try.f27.ntmps Try.f27.results.toList (Try.f27.body.getD .skip) = some ([], [p_numbers]) := by kernel_rfl
theorem m_numbers : Meets Try.prog e_numbers :=
  meets_single mixed (fun e he => by
    simp only [G_numbers, List.mem_cons, List.not_mem_nil, or_false] at he
    rcases he with rfl | rfl | rfl
    · exact m_sigR
    · exact m_sigS
    · exact m_sbytes) Try.func27 rfl (by kernel_rfl) r_numbers rfl

def p_lscalar : Path := ⟨[.app 2 [.var 32, .var 33, .var 34, .var 35, .var 36, .var 37, .var 38, .var 39] 1, .app 1 [] 4, .app 0 [.var 0, .var 1, .var 2, .var 3, .var 4, .var 5, .var 6, .var 7, .var 8, .var 9, .var 10, .var 11, .var 12, .var 13, .var 14, .var 15, .var 16, .var 17, .var 18, .var 19, .var 20, .var 21, .var 22, .var 23, .var 24, .var 25, .var 26, .var 27, .var 28, .var 29, .var 30, .var 31] 4], [], [.var 40]⟩
def G_lscalar : List Entry := [e_uof, e_order, e_uless]
def e_lscalar : Entry := { f := 6, args := [.agg (List.replicate 32 (some .u8))], res := [.bool], F := p_lscalar.out G_lscalar }
theorem r_lscalar : runFn Try.prog G_lscalar e_lscalar Try.f6.ntmps Try.f6.results.toList (Try.f6.body.getD .skip) = some ([], [p_lscalar]) := by kernel_rfl
theorem m_lscalar : Meets Try.prog e_lscalar :=
  meets_single mixed (fun e he => by
    simp only [G_lscalar, List.mem_cons, List.not_mem_nil, or_false] at he
    rcases he with rfl | rfl | rfl
    · exact m_uof
    · exact m_order
    · exact m_uless) Try.func6 rfl (by kernel_rfl) r_lscalar rfl

def q_ranged_0 : Path := ⟨[.app 2 [.var 32, .var 33, .var 34, .var 35, .var 38, .var 39, .var 40, .var 41] 1, .app 1 [] 4, .pr (.neg) [.var 36], .app 3 [.var 32, .var 33, .var 34, .var 35] 1, .app 0 [.var 0, .var 1, .var 2, .var 3, .var 4, .var 5, .var 6, .var 7, .var 8, .var 9, .var 10, .var 11, .var 12, .var 13, .var 14, .var 15, .var 16, .var 17, .var 18, .var 19, .var 20, .var 21, .var 22, .var 23, .var 24, .var 25, .var 26, .var 27, .var 28, .var 29, .var 30, .var 31] 4], [(.var 37, true)], [.var 42]⟩
def q_ranged_1 : Path := ⟨[.pr (.neg) [.var 36], .app 3 [.var 32, .var 33, .var 34, .var 35] 1, .app 0 [.var 0, .var 1, .var 2, .var 3, .var 4, .var 5, .var 6, .var 7, .var 8, .var 9, .var 10, .var 11, .var 12, .var 13, .var 14, .var 15, .var 16, .var 17, .var 18, .var 19, .var 20, .var 21, .var 22, .var 23, .var 24, .var 25, .var 26, .var 27, .var 28, .var 29, .var 30, .var 31] 4], [(.var 37, false)], [.lit 0]⟩
def ps_ranged : List Path := [q_ranged_0, q_ranged_1]
def G_ranged : List Entry := [e_uof, e_order, e_uless, e_uzer]
def Pre_ranged (b : List Int) : Prop := Dg 8 b
def F_ranged (b : List Int) : List Int := [b01 (decide (0 < be b ∧ be b < fn))]
def e_ranged : Entry := { f := 14, args := [.agg (List.replicate 32 (some .u8))], res := [.bool], F := F_ranged, free := false, Pre := Pre_ranged }
theorem r_ranged : runFn Try.prog G_ranged e_ranged Try.f14.ntmps Try.f14.results.toList (Try.f14.body.getD .skip) = some ([], ps_ranged) := by kernel_rfl
theorem ranged_a (e0 e1 e2 e3 : Entry) (b0 b1 b2 b3 b4 b5 b6 b7 b8 b9 b10 b11 b12 b13 b14 b15 b16 b17 b18 b19 b20 b21 b22 b23 b24 b25 b26 b27 b28 b29 b30 b31 : Int) : (SI.var 37).val (runR [e0, e1, e2, e3] q_ranged_0.defs [b0, b1, b2, b3, b4, b5, b6, b7, b8, b9, b10, b11, b12, b13, b14, b15, b16, b17, b18, b19, b20, b21, b22, b23, b24, b25, b26, b27, b28, b29, b30, b31]) = if (fit 1 (e3.F (fit 4 (e0.F [b0, b1, b2, b3, b4, b5, b6, b7, b8, b9, b10, b11, b12, b13, b14, b15, b16, b17, b18, b19, b20, b21, b22, b23, b24, b25, b26, b27, b28, b29, b30, b31])))).headD 0 = 0 then 1 else 0 := by kernel_rfl
theorem ranged_b (e0 e1 e2 e3 : Entry) (b0 b1 b2 b3 b4 b5 b6 b7 b8 b9 b10 b11 b12 b13 b14 b15 b16 b17 b18 b19 b20 b21 b22 b23 b24 b25 b26 b27 b28 b29 b30 b31 : Int) : (SI.var 37).val (runR [e0, e1, e2, e3] q_ranged_1.defs [b0, b1, b2, b3, b4, b5, b6, b7, b8, b9, b10, b11, b12, b13, b14, b15, b16, b17, b18, b19, b20, b21, b22, b23, b24, b25, b26, b27, b28, b29, b30, b31]) = if (fit 1 (e3.F (fit 4 (e0.F [b0, b1, b2, b3, b4, b5, b6, b7, b8, b9, b10, b11, b12, b13, b14, b15, b16, b17, b18, b19, b20, b21, b22, b23, b24, b25, b26, b27, b28, b29, b30, b31])))).headD 0 = 0 then 1 else 0 := by kernel_rfl
theorem ranged_c (e0 e1 e2 e3 : Entry) (b0 b1 b2 b3 b4 b5 b6 b7 b8 b9 b10 b11 b12 b13 b14 b15 b16 b17 b18 b19 b20 b21 b22 b23 b24 b25 b26 b27 b28 b29 b30 b31 : Int) : (SI.var 42).val (runR [e0, e1, e2, e3] q_ranged_0.defs [b0, b1, b2, b3, b4, b5, b6, b7, b8, b9, b10, b11, b12, b13, b14, b15, b16, b17, b18, b19, b20, b21, b22, b23, b24, b25, b26, b27, b28, b29, b30, b31]) = (fit 1 (e2.F (fit 4 (e0.F [b0, b1, b2, b3, b4, b5, b6, b7, b8, b9, b10, b11, b12, b13, b14, b15, b16, b17, b18, b19, b20, b21, b22, b23, b24, b25, b26, b27, b28, b29, b30, b31]) ++ fit 4 (e1.F [])))).headD 0 := by kernel_rfl

theorem m_ranged : Meets Try.prog e_ranged :=
  meets_of_run mixed (fun e he => by
    simp only [G_ranged, List.mem_cons, List.not_mem_nil, or_false] at he
    rcases he with rfl | rfl | rfl | rfl
    · exact m_uof
    · exact m_order
    · exact m_uless
    · exact m_uzer) Try.func14 rfl (by kernel_rfl) r_ranged (fun _ _ _ nd hnd => by cases hnd) fun base hl hpre p hp hasm => by
    have hd : Dg 8 base := hpre rfl
    have hl32 : base.length = 32 := hl
    obtain ⟨v0, v1⟩ := be_bounds hl32 hd
    have hu := uof_spec hl32 hd
    have hz := uzer_spec v0 v1
    have hlss := uless_spec v0 v1 (show (0 : Int) ≤ fn by decide) fn_lt
    show F_ranged base = _
    unfold F_ranged
    generalize be base = V at *
    obtain ⟨b0, b1, b2, b3, b4, b5, b6, b7, b8, b9, b10, b11, b12, b13, b14, b15, b16, b17, b18, b19, b20, b21, b22, b23, b24, b25, b26, b27, b28, b29, b30, b31, rfl⟩ := len32 hl32
    simp only [ps_ranged, List.mem_cons, List.not_mem_nil, or_false] at hp
    rcases hp with rfl | rfl
    · have h1 : ((SI.var 37).val _ != 0) = true := hasm _ List.mem_cons_self
      have h2 := ranged_a e_uof e_order e_uless e_uzer b0 b1 b2 b3 b4 b5 b6 b7 b8 b9 b10 b11 b12 b13 b14 b15 b16 b17 b18 b19 b20 b21 b22 b23 b24 b25 b26 b27 b28 b29 b30 b31
      have h3 := ranged_c e_uof e_order e_uless e_uzer b0 b1 b2 b3 b4 b5 b6 b7 b8 b9 b10 b11 b12 b13 b14 b15 b16 b17 b18 b19 b20 b21 b22 b23 b24 b25 b26 b27 b28 b29 b30 b31
      show _ = [(SI.var 42).val _]
      rw [show runR G_ranged q_ranged_0.defs [b0, b1, b2, b3, b4, b5, b6, b7, b8, b9, b10, b11, b12, b13, b14, b15, b16, b17, b18, b19, b20, b21, b22, b23, b24, b25, b26, b27, b28, b29, b30, b31] = runR [e_uof, e_order, e_uless, e_uzer] q_ranged_0.defs [b0, b1, b2, b3, b4, b5, b6, b7, b8, b9, b10, b11, b12, b13, b14, b15, b16, b17, b18, b19, b20, b21, b22, b23, b24, b25, b26, b27, b28, b29, b30, b31] from rfl] at h1 ⊢
      rw [h2, hu, fit_eq (dig_length 64 4 V), hz] at h1
      rw [h3, hu, order_spec, fit_eq (dig_length 64 4 V), fit_eq (dig_length 64 4 fn), hlss]
      by_cases hV : V = 0
      · simp [b01, fit, hV] at h1
      · have : (0 < V ∧ V < fn) ↔ V < fn := ⟨fun h => h.2, fun h => ⟨by omega, h⟩⟩
        simp only [this]
        rfl
    · have h1 : ((SI.var 37).val _ != 0) = false := hasm _ List.mem_cons_self
      have h2 := ranged_b e_uof e_order e_uless e_uzer b0 b1 b2 b3 b4 b5 b6 b7 b8 b9 b10 b11 b12 b13 b14 b15 b16 b17 b18 b19 b20 b21 b22 b23 b24 b25 b26 b27 b28 b29 b30 b31
      rw [show runR G_ranged q_ranged_1.defs [b0, b1, b2, b3, b4, b5, b6, b7, b8, b9, b10, b11, b12, b13, b14, b15, b16, b17, b18, b19, b20, b21, b22, b23, b24, b25, b26, b27, b28, b29, b30, b31] = runR [e_uof, e_order, e_uless, e_uzer] q_ranged_1.defs [b0, b1, b2, b3, b4, b5, b6, b7, b8, b9, b10, b11, b12, b13, b14, b15, b16, b17, b18, b19, b20, b21, b22, b23, b24, b25, b26, b27, b28, b29, b30, b31] from rfl] at h1
      rw [h2, hu, fit_eq (dig_length 64 4 V), hz] at h1
      by_cases hV : V = 0
      · subst hV
        rfl
      · simp [b01, fit, hV] at h1

def q_inrange_0 : Path := ⟨[.app 2 [.var 0, .var 1, .var 2, .var 3, .var 6, .var 7, .var 8, .var 9] 1, .app 1 [] 4, .pr (.neg) [.var 4], .app 0 [.var 0, .var 1, .var 2, .var 3] 1], [(.var 5, true)], [.var 10]⟩
def q_inrange_1 : Path := ⟨[.pr (.neg) [.var 4], .app 0 [.var 0, .var 1, .var 2, .var 3] 1], [(.var 5, false)], [.lit 0]⟩
def ps_inrange : List Path := [q_inrange_0, q_inrange_1]
def G_inrange : List Entry := [e_uzer, e_order, e_uless]
def Pre_inrange (b : List Int) : Prop := b.length = 4 ∧ Dg 64 b
def F_inrange (b : List Int) : List Int := [b01 (decide (0 < num 64 b ∧ num 64 b < fn))]
def e_inrange : Entry := { f := 25, args := [.agg (List.replicate 4 (some .u64))], res := [.bool], F := F_inrange, free := false, Pre := Pre_inrange }
theorem r_inrange : runFn Try.prog G_inrange e_inrange Try.f25.ntmps Try.f25.results.toList (Try.f25.body.getD .skip) = some ([], ps_inrange) := by kernel_rfl
theorem inrange_a (e0 e1 e2 : Entry) (a0 a1 a2 a3 : Int) : (SI.var 5).val (runR [e0, e1, e2] q_inrange_0.defs [a0, a1, a2, a3]) = if (fit 1 (e0.F [a0, a1, a2, a3])).headD 0 = 0 then 1 else 0 := by kernel_rfl
theorem inrange_b (e0 e1 e2 : Entry) (a0 a1 a2 a3 : Int) : (SI.var 5).val (runR [e0, e1, e2] q_inrange_1.defs [a0, a1, a2, a3]) = if (fit 1 (e0.F [a0, a1, a2, a3])).headD 0 = 0 then 1 else 0 := by kernel_rfl
theorem inrange_c (e0 e1 e2 : Entry) (a0 a1 a2 a3 : Int) : (SI.var 10).val (runR [e0, e1, e2] q_inrange_0.defs [a0, a1, a2, a3]) = (fit 1 (e2.F ([a0, a1, a2, a3] ++ fit 4 (e1.F [])))).headD 0 := by kernel_rfl

theorem m_inrange : Meets Try.prog e_inrange :=
  meets_of_run mixed (fun e he => by
    simp only [G_inrange, List.mem_cons, List.not_mem_nil, or_false] at he
    rcases he with rfl | rfl | rfl
    · exact m_uzer
    · exact m_order
    · exact m_uless) Try.func25 rfl (by kernel_rfl) r_inrange (fun _ _ _ nd hnd => by cases hnd) fun base hl hpre p hp hasm => by
    obtain ⟨hl4, hd⟩ : Pre_inrange base := hpre rfl
    have hb := num_bounds hd
    rw [hl4] at hb
    have hdig : dig 64 4 (num 64 base) = base := by
      have := dig_num hd
      rwa [hl4] at this
    have v0 := hb.1
    have v1 : num 64 base < 2 ^ 256 := hb.2
    have hz := uzer_spec v0 v1
    have hlss := uless_spec v0 v1 (show (0 : Int) ≤ fn by decide) fn_lt
    show F_inrange base = _
    unfold F_inrange
    generalize num 64 base = V at *
    rw [← hdig] at hasm ⊢
    obtain ⟨a0, a1, a2, a3, hx⟩ : ∃ a0 a1 a2 a3, dig 64 4 V = [a0, a1, a2, a3] := ⟨_, _, _, _, rfl⟩
    rw [hx] at hz hlss hasm ⊢
    simp only [ps_inrange, List.mem_cons, List.not_mem_nil, or_false] at hp
    rcases hp with rfl | rfl
    · have h1 : ((SI.var 5).val _ != 0) = true := hasm _ List.mem_cons_self
      have h2 := inrange_a e_uzer e_order e_uless a0 a1 a2 a3
      have h3 := inrange_c e_uzer e_order e_uless a0 a1 a2 a3
      show _ = [(SI.var 10).val _]
      rw [show runR G_inrange q_inrange_0.defs [a0, a1, a2, a3] = runR [e_uzer, e_order, e_uless] q_inrange_0.defs [a0, a1, a2, a3] from rfl] at h1 ⊢
      rw [h2, hz] at h1
      rw [h3, order_spec, fit_eq (dig_length 64 4 fn), hlss]
      by_cases hV : V = 0
      · simp [b01, fit, hV] at h1
      · have : (0 < V ∧ V < fn) ↔ V < fn := ⟨fun h => h.2, fun h => ⟨by omega, h⟩⟩
        simp only [this]
        rfl
    · have h1 : ((SI.var 5).val _ != 0) = false := hasm _ List.mem_cons_self
      have h2 := inrange_b e_uzer e_order e_uless a0 a1 a2 a3
      rw [show runR G_inrange q_inrange_1.defs [a0, a1, a2, a3] = runR [e_uzer, e_order, e_uless] q_inrange_1.defs [a0, a1, a2, a3] from rfl] at h1
      rw [h2, hz] at h1
      by_cases hV : V = 0
      · subst hV
        rfl
      · simp [b01, fit, hV] at h1

end Go.Proofs.Ytfeancgmmonebaa.Sx

/-
  Reading a signature of BIP 340: the calls. Conditions: none; each theorem bears its own.
-/
namespace Go.Proofs.Ytfeancgmmonebaa.Sx
open Go Go.Proofs Go.RowKit

theorem Reads.drop {w : World} {B n : Nat} {A : Option Addr} {xs : List Value} (h : Reads w B A n xs) (k : Nat) : Reads w B (A.map (·.add k)) (n - k) (xs.drop k) := by
  refine ⟨by simp [h.1], fun hk0 => ?_⟩
  obtain ⟨ad, rfl, hb, hc⟩ := h.2 (by omega)
  refine ⟨ad.add k, rfl, by rw [block_of_add]; exact hb, fun j u hu => ?_⟩
  rw [add_of_add]
  exact hc (k + j) u (by rwa [List.getElem?_drop] at hu)

/-- It gives an error, or (where 'ok' holds) a pointer and no error. -/
def ErrOr (ok : Prop) (w : World) (e : Ending) (w' : World) : Prop :=
  ((ok ∧ ∃ a, e = .returned (.tuple #[.pointer (some a), .nilIface])) ∨ (¬ ok ∧ ∃ t x, e = .returned (.tuple #[.pointer none, .iface t x]))) ∧ Below w.heap.size w w'

def AnAgg (w : World) (e : Ending) (w' : World) : Prop := (∃ x, e = .returned (.agg x)) ∧ Below w.heap.size w w'

theorem c_serr (k d : ByteArray) (w : World) : Calls Try.prog 35 #[.string k, .string d] w (AnAgg w) := by
  go_enter Try.func35, Try.ntmps35
  go_wp2_with fail
  exact bodyPost_ret (v := .agg #[.iface 71 (.string k), .string d]) (by simp [results, Try.results35, go_sem]) rfl ⟨⟨_, rfl⟩, (Below.refl _ _).alloc (Nat.le_refl _) _⟩

theorem c_one_nil (w : World) : Calls Try.prog 23 #[.nilIface] w fun e w' => e = .returned (.int .i64 0) ∧ w = w' := by
  go_enter Try.func23, Try.ntmps23
  go_wp2_with fail
  go_ret
  exact ⟨rfl, rfl⟩

theorem c_one_err (t : TypeId) (x : Value) (w : World) : Calls Try.prog 23 #[.iface t x] w fun e w' => e = .returned (.int .i64 1) ∧ w = w' := by
  go_enter Try.func23, Try.ntmps23
  go_wp2_with fail
  go_ret
  exact ⟨rfl, rfl⟩

/-- The bytes are a signature of BIP 340, by their form. -/
def SchnorrOk (n : Nat) (bs : List Int) : Prop := n = 64 ∧ be (bs.take 32) < fp

theorem c_newsch {g h : Nat} {T T' : TypeId} {V1 V2 : Int} {w : World} (hg : w.heap[g]? = some (.cells ((dig 26 10 V1).map (Value.int .u32)).toArray T (0, 0))) (hh : w.heap[h]? = some (.cells ((dig 32 8 V2).map (Value.int .u32)).toArray T' (0, 0))) (hne : g ≠ h) :
    Calls Try.prog 38 #[.pointer (some ⟨g, 0, none⟩), .pointer (some ⟨h, 0, none⟩)] w fun en w' => (∃ a, en = .returned (.pointer (some a))) ∧ Below w.heap.size w w' := by
  refine (m_newsch.calls (by kernel_rfl) (base := dig 26 10 V1 ++ dig 32 8 V2) (bs := [(g, 0), (h, 0)]) (w := w) (by simp [dig_length]; rfl) rfl (fun h => by cases h) ?_ ?_).mono ?_
  · intro o so hso
    match o with
    | 0 =>
      obtain rfl := Option.some.inj hso
      exact ObjOk.whole hg rfl rfl (kcells_at .u32 _ (dig 26 10 V1) [] _ _ 0 10 rfl rfl (dig_length 26 10 _))
    | 1 =>
      obtain rfl := Option.some.inj hso
      exact ObjOk.whole hh rfl rfl (kcells_at .u32 _ (dig 32 8 V2) (dig 26 10 V1) [] _ 10 8 (by simp) (dig_length 26 10 _) (dig_length 32 8 _))
    | o + 2 => cases hso
  · intro o o' so so' hoo h1 h2 h3
    match o, o' with
    | 0, 1 => exact .inl hne
    | 1, 0 => exact .inl hne.symm
    | 0, 0 => exact absurd rfl hoo
    | 1, 1 => exact absurd rfl hoo
    | o + 2, _ => cases h1
    | _, o' + 2 => cases h2
  · rintro en w' ⟨nb, hnb, _, _, hen, _, hfr⟩
    refine ⟨⟨_, hen⟩, hfr.below (Nat.le_refl _) ?_⟩
    rintro k j hk ⟨o, so, hso, hw, _⟩
    match o with
    | 0 =>
      obtain rfl := Option.some.inj hso
      cases hw
    | 1 =>
      obtain rfl := Option.some.inj hso
      cases hw
    | o + 2 => cases hso

set_option maxRecDepth 100000 in
theorem parse_schnorr (n c : Nat) (bs : List Int) (A : Option Addr) (w : World) (hn : n < 2147483648) (hc : n ≤ c) (hr : Reads w w.heap.size A n (bs.map (Value.int .u8))) (hd : Dg 8 bs) :
    Calls Try.prog 21 #[.slice A n c] w (ErrOr (SchnorrOk n bs) w) := by
  have HR := Lib.hid hr
  clear hr
  rcases Nat.lt_trichotomy n 64 with h | h | h
  · have hno : Hid (¬ SchnorrOk n bs) := fun q => by have := q.1; omega
    go_enter Try.func21, Try.ntmps21
    go_wp2_with (refine (c_serr _ _ _).mono ?_; rintro e w1 ⟨⟨x, rfl⟩, hb1⟩)
    go_ret2
    exact ⟨.inr ⟨hno.out, _, _, rfl⟩, hb1⟩
  · subst h
    obtain ⟨ad, rfl, _, _⟩ := HR.out.2 (by omega)
    have q1 : ∀ W, (Instr.sliceAt 22 (.slice (some ad) 64 c) (some (.int .i64 0)) (some (.int .i64 32)) none).run Try.prog W = .ok (.slice (some ad) 32 c) W := fun W => by
      have := run_cut_slice (P := Try.prog) Try.underlying22 (by kernel_rfl) (some ad) 64 c (some 0) (some 32) 0 32 rfl rfl (by omega) (by omega) W
      rw [if_neg (by omega)] at this
      simpa [Addr.add] using this
    have q2 : ∀ W, (Instr.sliceAt 22 (.slice (some ad) 64 c) (some (.int .i64 32)) (some (.int .i64 64)) none).run Try.prog W = .ok (.slice (some (ad.add 32)) 32 (c - 32)) W := fun W => by
      have := run_cut_slice (P := Try.prog) Try.underlying22 (by kernel_rfl) (some ad) 64 c (some 32) (some 64) 32 64 rfl rfl (by omega) (by omega) W
      rw [if_neg (by omega)] at this
      simpa using this
    obtain ⟨Z10, hZ10⟩ : ∃ Z, Z = ((List.replicate 10 (0 : Int)).map (Value.int .u32)).toArray := ⟨_, rfl⟩
    have hF : Calls Try.prog 36 #[.pointer (some ⟨w.heap.size, 0, none⟩), .slice (some ad) 32 c] (w.alloc (.cells ((List.replicate 10 (0 : Int)).map (Value.int .u32)).toArray 75)) fun en w' =>
        en = .returned (.bool (decide (fp ≤ be (bs.take 32)))) ∧ w'.heap[w.heap.size]? = some (.cells ((dig 26 10 (be (bs.take 32))).map (Value.int .u32)).toArray 75 (0, 0)) ∧ Only w.heap.size (w.alloc (.cells ((List.replicate 10 (0 : Int)).map (Value.int .u32)).toArray 75)) w' := by
      have hr1 := (((HR.out.alloc (Nat.le_refl _) (.cells ((List.replicate 10 (0 : Int)).map (Value.int .u32)).toArray 75)).more (B' := (w.alloc (.cells ((List.replicate 10 (0 : Int)).map (Value.int .u32)).toArray 75)).heap.size) (by simp)).take (k := 32) (by omega))
      rw [← List.map_take] at hr1
      have := fbs_calls w.heap.size 32 c _ (List.replicate 10 0) (bs.take 32) (some ad) _ (by simp) (zeros_dg 32 10) (heap_alloc_new w (.cells ((List.replicate 10 (0 : Int)).map (Value.int .u32)).toArray 75)) (by omega) (by omega) hr1 (hd.take 32)
      rw [List.take_take, Nat.min_self] at this
      exact this
    have hS : ∀ w2, Below w.heap.size w w2 → Calls Try.prog 37 #[.pointer (some ⟨w2.heap.size, 0, none⟩), .slice (some (ad.add 32)) 32 (c - 32)] (w2.alloc (.cells ((List.replicate 8 (0 : Int)).map (Value.int .u32)).toArray 78)) fun en w' =>
        (∃ b, en = .returned (.bool b)) ∧ (∃ V, w'.heap[w2.heap.size]? = some (.cells ((dig 32 8 V).map (Value.int .u32)).toArray 78 (0, 0))) ∧ Only w2.heap.size (w2.alloc (.cells ((List.replicate 8 (0 : Int)).map (Value.int .u32)).toArray 78)) w' := fun w2 hb => by
      have hr1 := ((((HR.out.below hb).alloc hb.size (.cells ((List.replicate 8 (0 : Int)).map (Value.int .u32)).toArray 78)).more (B' := (w2.alloc (.cells ((List.replicate 8 (0 : Int)).map (Value.int .u32)).toArray 78)).heap.size) (by have := hb.size; simp; omega)).drop 32)
      rw [← List.map_drop] at hr1
      exact (sbs_calls w2.heap.size 32 (c - 32) _ (List.replicate 8 0) (bs.drop 32) (some (ad.add 32)) _ (by simp) (zeros_dg 32 8) (heap_alloc_new w2 (.cells ((List.replicate 8 (0 : Int)).map (Value.int .u32)).toArray 78)) (by omega) (by omega) hr1 (fun x hx => hd x (List.mem_of_mem_drop hx))).mono fun e w' h => ⟨⟨_, h.1⟩, ⟨_, h.2.1⟩, h.2.2⟩
    have HF := Lib.hid hF
    have HS := Lib.hid hS
    clear hF hS hZ10
    by_cases hV : fp ≤ be (bs.take 32)
    · have hno : Hid (¬ SchnorrOk 64 bs) := fun q => by have := q.2; omega
      have hdec : Hid (decide (fp ≤ be (bs.take 32)) = true) := decide_eq_true hV
      clear hV
      go_enter Try.func21, Try.ntmps21
      go_wp2_with (first
        | (refine Calls.mono HF.out ?_; rintro e w1 ⟨rfl, g1, ho1⟩; rw [hdec.out])
        | (refine (c_serr _ _ _).mono ?_; rintro e w2 ⟨⟨x, rfl⟩, hb2⟩))
      go_ret2
      exact ⟨.inr ⟨hno.out, _, _, rfl⟩, (ho1.below ((Below.refl _ _).alloc (Nat.le_refl _) _) (Nat.le_refl _) (Nat.le_refl _)).trans (hb2.mono (by have := ho1.size; simp at this; omega))⟩
    · have hok : Hid (SchnorrOk 64 bs) := ⟨rfl, by omega⟩
      have hdec : Hid (decide (fp ≤ be (bs.take 32)) = false) := decide_eq_false hV
      clear hV
      go_enter Try.func21, Try.ntmps21
      go_wp2_with (first
        | (refine Calls.mono HF.out ?_; rintro e w1 ⟨rfl, g1, ho1⟩; rw [hdec.out]
           have G1 := Lib.hid g1
           clear g1
           have HB1 : Below w.heap.size w w1 := ho1.below ((Below.refl _ _).alloc (Nat.le_refl _) _) (Nat.le_refl _) (Nat.le_refl _))
        | (refine Calls.mono (HS.out _ HB1) ?_; rintro e w2 ⟨⟨b, rfl⟩, ⟨V, g2⟩, ho2⟩
           have G2 := Lib.hid g2
           clear g2)
        | (refine Calls.mono (c_newsch ((ho2.block w.heap.size (by have := ho1.size; simp at this; simp; omega) (by have := ho1.size; simp at this; omega)).trans ((heap_alloc_old _ _ (by have := ho1.size; simp at this; omega)).trans G1.out)) G2.out (by have := ho1.size; simp at this; omega)) ?_
           rintro e w3 ⟨⟨p, rfl⟩, hb3⟩))
      go_ret2
      exact ⟨.inl ⟨hok.out, p, rfl⟩, (ho2.below (HB1.alloc HB1.size _) (Nat.le_refl _) HB1.size).trans (hb3.mono (by have := ho2.size; have := HB1.size; simp at *; omega))⟩
  · have hno : Hid (¬ SchnorrOk n bs) := fun q => by have := q.1; omega
    go_enter Try.func21, Try.ntmps21
    go_wp2_with (refine (c_serr _ _ _).mono ?_; rintro e w1 ⟨⟨x, rfl⟩, hb1⟩)
    go_ret2
    exact ⟨.inr ⟨hno.out, _, _, rfl⟩, hb1⟩

set_option maxRecDepth 100000 in
theorem read_schnorr (n c : Nat) (bs : List Int) (A : Option Addr) (w : World) (hn : n < 2147483648) (hr : Reads w w.heap.size A n (bs.map (Value.int .u8))) (hd : Dg 8 bs) :
    Calls Try.prog 10 #[.slice A n c] w fun e w' => ((SchnorrOk n bs ∧ e = .returned (.int .i64 0)) ∨ (¬ SchnorrOk n bs ∧ e = .returned (.int .i64 1))) ∧ Below w.heap.size w w' := by
  have hC := c_copied n c bs A w (by omega) hr
  have HC := Lib.hid hC
  have HN := Lib.hid hn
  have hP : ∀ A1 c1 w1, n ≤ c1 → Reads w1 w1.heap.size A1 n (bs.map (Value.int .u8)) → Calls Try.prog 21 #[.slice A1 n c1] w1 (ErrOr (SchnorrOk n bs) w1) := fun A1 c1 w1 h1 h2 => parse_schnorr n c1 bs A1 w1 hn h1 h2 hd
  have HP := Lib.hid hP
  clear hC hP hn hr
  by_cases hok : SchnorrOk n bs
  · have HO := Lib.hid hok
    clear hok
    go_enter Try.func10, Try.ntmps10
    go_wp2_with (first
      | (refine HC.out.mono ?_; rintro e w1 ⟨A1, c1, rfl, hc1, hr1, hA1, hb1⟩)
      | (refine (HP.out _ _ _ (by omega) hr1).mono ?_; rintro e w2 ⟨h2, hb2⟩; obtain ⟨p, rfl⟩ : ∃ a, e = .returned (.tuple #[.pointer (some a), .nilIface]) := by
          rcases h2 with h2 | h2
          · exact h2.2
          · exact absurd HO.out h2.1
         clear h2)
      | (refine (c_one_nil _).mono ?_; rintro e w3 ⟨rfl, rfl⟩))
    go_ret
    exact ⟨.inl ⟨HO.out, rfl⟩, hb1.trans (hb2.mono hb1.size)⟩
  · have HO := Lib.hid hok
    clear hok
    go_enter Try.func10, Try.ntmps10
    go_wp2_with (first
      | (refine HC.out.mono ?_; rintro e w1 ⟨A1, c1, rfl, hc1, hr1, hA1, hb1⟩)
      | (refine (HP.out _ _ _ (by omega) hr1).mono ?_; rintro e w2 ⟨h2, hb2⟩; obtain ⟨t, x, rfl⟩ : ∃ t x, e = .returned (.tuple #[.pointer none, .iface t x]) := by
          rcases h2 with h2 | h2
          · exact absurd h2.1 HO.out
          · exact h2.2
         clear h2)
      | (refine (c_one_err _ _ _).mono ?_; rintro e w3 ⟨rfl, rfl⟩))
    go_ret
    exact ⟨.inr ⟨HO.out, rfl⟩, hb1.trans (hb2.mono hb1.size)⟩

end Go.Proofs.Ytfeancgmmonebaa.Sx

/-
  Calls of the reference's small functions; the statement FnReadSchnorr: what its function gives. Conditions: none; each theorem bears its own.
-/
namespace Go.Proofs.Ytfeancgmmonebaa.Sx
open Go Go.Proofs Go.RowKit

theorem c_fprime (w : World) : Calls Try.prog 9 #[] w fun en w' => en = .returned (.agg ((dig 64 4 fp).map (Value.int .u64)).toArray) ∧ Below w.heap.size w w' :=
  m_fprime.pure (by kernel_rfl) (base := []) rfl rfl (fun h => by cases h) fprime_spec (args := []) rfl
    (fun nb => by
      show (SV.one (.agg (kcells 0 (List.replicate 4 (some .u64))))).den ⟨[] ++ fit 4 _, nb⟩ = _
      rw [fit_eq (dig_length 64 4 _)]
      exact agg_at .u64 nb (pre := []) (post := []) (by simp) rfl (dig_length 64 4 _)) w

theorem c_order (w : World) : Calls Try.prog 20 #[] w fun en w' => en = .returned (.agg ((dig 64 4 fn).map (Value.int .u64)).toArray) ∧ Below w.heap.size w w' :=
  m_order.pure (by kernel_rfl) (base := []) rfl rfl (fun h => by cases h) order_spec (args := []) rfl
    (fun nb => by
      show (SV.one (.agg (kcells 0 (List.replicate 4 (some .u64))))).den ⟨[] ++ fit 4 _, nb⟩ = _
      rw [fit_eq (dig_length 64 4 _)]
      exact agg_at .u64 nb (pre := []) (post := []) (by simp) rfl (dig_length 64 4 _)) w

theorem c_uless {A B : Int} (a0 : 0 ≤ A) (a1 : A < 2 ^ 256) (b0 : 0 ≤ B) (b1 : B < 2 ^ 256) (w : World) :
    Calls Try.prog 8 #[.agg ((dig 64 4 A).map (Value.int .u64)).toArray, .agg ((dig 64 4 B).map (Value.int .u64)).toArray] w fun en w' => en = .returned (.bool (decide (A < B))) ∧ Below w.heap.size w w' :=
  m_uless.pure (by kernel_rfl) (base := dig 64 4 A ++ dig 64 4 B) (by simp [dig_length]; rfl) rfl (fun h => by cases h) (uless_spec a0 a1 b0 b1) (args := [.agg ((dig 64 4 A).map (Value.int .u64)).toArray, .agg ((dig 64 4 B).map (Value.int .u64)).toArray])
    (by
      show [(SV.one (.agg (kcells 0 (List.replicate 4 (some .u64))))).den ⟨dig 64 4 A ++ dig 64 4 B, []⟩, (SV.one (.agg (kcells 4 (List.replicate 4 (some .u64))))).den ⟨dig 64 4 A ++ dig 64 4 B, []⟩] = _
      rw [agg_at .u64 [] (l := dig 64 4 A) (pre := []) (post := dig 64 4 B) (n := 0) (by simp) rfl (dig_length 64 4 _), agg_at .u64 [] (l := dig 64 4 B) (pre := dig 64 4 A) (post := []) (n := 4) (by simp) (dig_length 64 4 _) (dig_length 64 4 _)])
    (fun nb => by
      show Value.bool (b01 (decide (A < B)) != 0) = _
      cases decide (A < B) <;> rfl) w

theorem lscalar_out' (e0 e1 e2 : Entry) (b0 b1 b2 b3 b4 b5 b6 b7 b8 b9 b10 b11 b12 b13 b14 b15 b16 b17 b18 b19 b20 b21 b22 b23 b24 b25 b26 b27 b28 b29 b30 b31 : Int) :
    p_lscalar.out [e0, e1, e2] [b0, b1, b2, b3, b4, b5, b6, b7, b8, b9, b10, b11, b12, b13, b14, b15, b16, b17, b18, b19, b20, b21, b22, b23, b24, b25, b26, b27, b28, b29, b30, b31] =
      fit 1 (e2.F (fit 4 (e0.F [b0, b1, b2, b3, b4, b5, b6, b7, b8, b9, b10, b11, b12, b13, b14, b15, b16, b17, b18, b19, b20, b21, b22, b23, b24, b25, b26, b27, b28, b29, b30, b31]) ++ fit 4 (e1.F []))) := by kernel_rfl

theorem lscalar_spec {bs : List Int} (h : bs.length = 32) (hd : Dg 8 bs) : e_lscalar.F bs = [b01 (decide (be bs < fn))] := by
  obtain ⟨v0, v1⟩ := be_bounds h hd
  have hu := uof_spec h hd
  have : e_lscalar.F bs = fit 1 (e_uless.F (fit 4 (e_uof.F bs) ++ fit 4 (e_order.F []))) := by
    obtain ⟨b0, b1, b2, b3, b4, b5, b6, b7, b8, b9, b10, b11, b12, b13, b14, b15, b16, b17, b18, b19, b20, b21, b22, b23, b24, b25, b26, b27, b28, b29, b30, b31, rfl⟩ := len32 h
    exact lscalar_out' e_uof e_order e_uless b0 b1 b2 b3 b4 b5 b6 b7 b8 b9 b10 b11 b12 b13 b14 b15 b16 b17 b18 b19 b20 b21 b22 b23 b24 b25 b26 b27 b28 b29 b30 b31
  rw [this, hu, order_spec, fit_eq (dig_length 64 4 _), fit_eq (dig_length 64 4 _), uless_spec v0 v1 (by decide) fn_lt]
  rfl

theorem c_lscalar {bs : List Int} (hl : bs.length = 32) (hd : Dg 8 bs) (w : World) :
    Calls Try.prog 6 #[.agg (bs.map (Value.int .u8)).toArray] w fun en w' => en = .returned (.bool (decide (be bs < fn))) ∧ Below w.heap.size w w' :=
  m_lscalar.pure (by kernel_rfl) (base := bs) hl rfl (fun h => by cases h) (lscalar_spec hl hd) (args := [.agg (bs.map (Value.int .u8)).toArray])
    (by
      show [(SV.one (.agg (kcells 0 (List.replicate 32 (some .u8))))).den ⟨bs, []⟩] = _
      rw [agg_at .u8 [] (l := bs) (pre := []) (post := []) (n := 0) (by simp) rfl hl])
    (fun nb => by
      show Value.bool (List.getD (bs ++ fit 1 [b01 (decide (be bs < fn))]) 32 0 != 0) = _
      rw [List.getD, List.getElem?_append_right (by omega), hl]
      show Value.bool (b01 (decide (be bs < fn)) != 0) = _
      cases decide (be bs < fn) <;> rfl) w

section
variable {P : Program} {w w' : World} {ops : Array Oper} {rest : List Oper} {o : Oper} {a : Act} {Q : Exit → Act → World → Prop} {v : Value}
/-- An operation that is wanted, and whose run is known. -/
theorem wpList_runw (hw : Region.wanted o (yielded ops a.tmps) = true) (hrun : (execOp a.eval o).run P w = .ok (.value v) w') (h : wpList P ops Q rest (a.put o.dst v) w') : wpList P ops Q (o :: rest) a w := by
  unfold wpList
  rw [if_pos hw]
  refine .inl ?_
  unfold Oper.wp
  rw [hrun]
  exact h
end

theorem load_op {ρ : Operand → Value} {dst : Option Nat} {T ty : TypeId} {x : Operand} {pos : String} {after : Array Edge} {g : Option (Nat × Bool)} {P : Program} {w w' : World} {v : Value} (h : (Instr.loadAt T (ρ x)).run P w = .ok v w') :
    (execOp ρ ⟨dst, .load T x, ty, pos, after, g⟩).run P w = .ok (.value v) w' := by simp [execOp, h]

/-- 32 bytes are loaded. -/
theorem run_load32 {w : World} {ad : Addr} {xs : List Value} (hl : xs.length = 32) (hc : ∀ j v, xs[j]? = some v → w.cell? (ad.add j) = some v) :
    (Instr.loadAt 24 (.pointer (some ad))).run Try.prog w = .ok (.agg xs.toArray) w := by
  have := run_loadCells_list (P := Try.prog) w ad xs hc
  rw [hl] at this
  simp [Instr.loadAt, Instr.sureAddr, loadVar, run_isAggB (P := Try.prog) (t := 24) (b := true) (by kernel_rfl), run_szOf (P := Try.prog) (t := 24) (n := 32) (by kernel_rfl), this]

set_option maxRecDepth 100000 in
set_option maxHeartbeats 1000000 in
theorem law_schnorr (n c : Nat) (bs : List Int) (A : Option Addr) (w : World) (hm : n ≤ 9223372036854775807) (hc : n ≤ c) (hr : Reads w w.heap.size A n (bs.map (Value.int .u8))) (hd : Dg 8 bs) :
    Calls Try.prog 3 #[.slice A n c] w fun en w' => en = .returned (.bool true) ∧ Below w.heap.size w w' := by
  have HR := Lib.hid hr
  clear hr
  by_cases h10 : (n : Int) ≤ 10000
  · have hn : n < 2147483648 := by omega
    clear hm
    have hS : ∀ W, Below w.heap.size w W → Calls Try.prog 10 #[.slice A n c] W fun e w' => ((SchnorrOk n bs ∧ e = .returned (.int .i64 0)) ∨ (¬ SchnorrOk n bs ∧ e = .returned (.int .i64 1))) ∧ Below W.heap.size W w' := fun W hb =>
      read_schnorr n c bs A W hn ((HR.out.below hb).more hb.size) hd
    by_cases h64 : n = 64
    · subst h64
      obtain ⟨ad, rfl, _, _⟩ := HR.out.2 (by omega)
      have hbl : bs.length = 64 := by have h : (bs.map (Value.int .u8)).length = 64 := HR.out.1; simpa using h
      have q1 : ∀ W, (Instr.sliceAt 22 (.slice (some ad) 64 c) (some (.int .i64 32)) none none).run Try.prog W = .ok (.slice (some (ad.add 32)) 32 (c - 32)) W := fun W => by
        have := run_cut_slice (P := Try.prog) Try.underlying22 (by kernel_rfl) (some ad) 64 c (some 32) none 32 64 rfl rfl (by omega) (by omega) W
        rw [if_neg (by omega)] at this
        simpa using this
      have q2 : ∀ W, (Instr.sliceAt 22 (.slice (some ad) 64 c) none (some (.int .i64 32)) none).run Try.prog W = .ok (.slice (some ad) 32 c) W := fun W => by
        have := run_cut_slice (P := Try.prog) Try.underlying22 (by kernel_rfl) (some ad) 64 c none (some 32) 0 32 rfl rfl (by omega) (by omega) W
        rw [if_neg (by omega)] at this
        simpa [Addr.add] using this
      have hl : (Instr.loadAt 24 (.pointer (some (ad.add 32)))).run Try.prog w = .ok (.agg ((bs.drop 32).map (Value.int .u8)).toArray) w := by
        have hr1 := HR.out.drop 32
        rw [← List.map_drop] at hr1
        obtain ⟨ad', e, _, hcell⟩ := hr1.2 (by omega)
        obtain rfl : ad.add 32 = ad' := Option.some.inj e
        exact run_load32 (by simp [hbl]) hcell
      have HLd := Lib.hid hl
      have q3 : ∀ W, (Instr.arrayAt 24 (.slice (some ⟨ad.block, ad.off + 32, none⟩) 32 (c - 32))).run Try.prog W = .ok (.pointer (some ⟨ad.block, ad.off + 32, none⟩)) W := fun W => by
        simp [Instr.arrayAt, run_underlying Try.underlying24]
      have hsc : ∀ W, Calls Try.prog 6 #[.agg ((bs.drop 32).map (Value.int .u8)).toArray] W fun en w' => en = .returned (.bool (decide (be (bs.drop 32) < fn))) ∧ Below W.heap.size W w' := fun W =>
        c_lscalar (by simp [hbl]) (fun x hx => hd x (List.mem_of_mem_drop hx)) W
      have hnu : ∀ W, Below w.heap.size w W → Calls Try.prog 7 #[.slice (some ad) 32 c] W fun en w' => en = .returned (.agg ((dig 64 4 (be (bs.take 32))).map (Value.int .u64)).toArray) ∧ Below W.heap.size W w' := fun W hb => by
        have hr1 := ((HR.out.below hb).more hb.size).take (k := 32) (by omega)
        rw [← List.map_take] at hr1
        have := n256_calls 32 c (bs.take 32) (some ad) W (by omega) hr1 (hd.take 32)
        rwa [List.take_take, Nat.min_self] at this
      have HSC := Lib.hid hsc
      have HNU := Lib.hid hnu
      obtain ⟨v0, v1⟩ := be_any (hd.take 32) (by simp <;> omega)
      have HV := Lib.hid (And.intro v0 v1)
      clear hl hsc hnu v0 v1 hbl
      obtain ⟨D, hD⟩ : ∃ D, D = ((bs.drop 32).map (Value.int .u8)).toArray := ⟨_, rfl⟩
      rw [← hD] at HSC HLd
      clear hD
      by_cases hs : be (bs.drop 32) < fn
      · have hdec : Hid (decide (be (bs.drop 32) < fn) = true) := decide_eq_true hs
        by_cases hok : be (bs.take 32) < fp
        · have hS1 : ∀ W, Below w.heap.size w W → Calls Try.prog 10 #[.slice (some ad) 64 c] W fun e w' => e = .returned (.int .i64 0) ∧ Below W.heap.size W w' := fun W hb =>
            (hS W hb).mono fun e w' h => ⟨h.1.elim (fun q => q.2) (fun q => absurd ⟨rfl, hok⟩ q.1), h.2⟩
          have HS := Lib.hid hS1
          have hdo : Hid (decide (be (bs.take 32) < fp) = true) := decide_eq_true hok
          clear hS hS1 hs hok
          go_enter Try.func3, Try.ntmps3
          go_wp2_with ((with_reducible refine (show wpList _ _ _ ((⟨some 17, _, _, _, _, _⟩ : Oper) :: _) _ _ from ?_)); refine Halt.of ?_)
          show wpList _ _ _ _ _ _
          refine wpList_runw (by go_simp) (load_op HLd.out) ?_
          go_wp2_with (first
            | (refine (HSC.out _).mono ?_; rintro e w1 ⟨rfl, hb1⟩; rw [hdec.out])
            | (refine (HNU.out _ hb1).mono ?_; rintro e w2 ⟨rfl, hb2⟩)
            | (refine (c_fprime _).mono ?_; rintro e w3 ⟨rfl, hb3⟩)
            | (refine (c_uless HV.out.1 HV.out.2 (by decide) fp_lt _).mono ?_; rintro e w4 ⟨rfl, hb4⟩; rw [hdo.out])
            | (refine (HS.out _ (by exact ((hb1.trans (hb2.mono hb1.size)).trans (hb3.mono (by have := hb1.size; have := hb2.size; omega))).trans (hb4.mono (by have := hb1.size; have := hb2.size; have := hb3.size; omega)))).mono ?_; rintro e w5 ⟨rfl, hb5⟩))
          go_ret
          exact ⟨rfl, ((((hb1.trans (hb2.mono hb1.size)).trans (hb3.mono (by have := hb1.size; have := hb2.size; omega))).trans (hb4.mono (by have := hb1.size; have := hb2.size; have := hb3.size; omega))).trans (hb5.mono (by have := hb1.size; have := hb2.size; have := hb3.size; have := hb4.size; omega)))⟩
        · have hS1 : ∀ W, Below w.heap.size w W → Calls Try.prog 10 #[.slice (some ad) 64 c] W fun e w' => e = .returned (.int .i64 1) ∧ Below W.heap.size W w' := fun W hb =>
            (hS W hb).mono fun e w' h => ⟨h.1.elim (fun q => absurd q.1.2 hok) (fun q => q.2), h.2⟩
          have HS := Lib.hid hS1
          have hdo : Hid (decide (be (bs.take 32) < fp) = false) := decide_eq_false hok
          clear hS hS1 hs hok
          go_enter Try.func3, Try.ntmps3
          go_wp2_with ((with_reducible refine (show wpList _ _ _ ((⟨some 17, _, _, _, _, _⟩ : Oper) :: _) _ _ from ?_)); refine Halt.of ?_)
          show wpList _ _ _ _ _ _
          refine wpList_runw (by go_simp) (load_op HLd.out) ?_
          go_wp2_with (first
            | (refine (HSC.out _).mono ?_; rintro e w1 ⟨rfl, hb1⟩; rw [hdec.out])
            | (refine (HNU.out _ hb1).mono ?_; rintro e w2 ⟨rfl, hb2⟩)
            | (refine (c_fprime _).mono ?_; rintro e w3 ⟨rfl, hb3⟩)
            | (refine (c_uless HV.out.1 HV.out.2 (by decide) fp_lt _).mono ?_; rintro e w4 ⟨rfl, hb4⟩; rw [hdo.out])
            | (refine (HS.out _ (by exact ((hb1.trans (hb2.mono hb1.size)).trans (hb3.mono (by have := hb1.size; have := hb2.size; omega))).trans (hb4.mono (by have := hb1.size; have := hb2.size; have := hb3.size; omega)))).mono ?_; rintro e w5 ⟨rfl, hb5⟩))
          go_ret
          exact ⟨rfl, ((((hb1.trans (hb2.mono hb1.size)).trans (hb3.mono (by have := hb1.size; have := hb2.size; omega))).trans (hb4.mono (by have := hb1.size; have := hb2.size; have := hb3.size; omega))).trans (hb5.mono (by have := hb1.size; have := hb2.size; have := hb3.size; have := hb4.size; omega)))⟩
      · have hdec : Hid (decide (be (bs.drop 32) < fn) = false) := decide_eq_false hs
        clear hS hs
        go_enter Try.func3, Try.ntmps3
        go_wp2_with ((with_reducible refine (show wpList _ _ _ ((⟨some 17, _, _, _, _, _⟩ : Oper) :: _) _ _ from ?_)); refine Halt.of ?_)
        show wpList _ _ _ _ _ _
        refine wpList_runw (by go_simp) (load_op HLd.out) ?_
        go_wp2_with (refine (HSC.out _).mono ?_; rintro e w1 ⟨rfl, hb1⟩; rw [hdec.out])
        go_ret
        exact ⟨rfl, hb1⟩
    · have hne : ((n : Int) == 64) = false := by simp; omega
      have hS1 : ∀ W, Below w.heap.size w W → Calls Try.prog 10 #[.slice A n c] W fun e w' => e = .returned (.int .i64 1) ∧ Below W.heap.size W w' := fun W hb =>
        (hS W hb).mono fun e w' h => ⟨h.1.elim (fun q => absurd q.1.1 h64) (fun q => q.2), h.2⟩
      have HS := Lib.hid hS1
      clear hS hS1 h64
      go_enter Try.func3, Try.ntmps3
      go_wp2_with (refine (HS.out _ (Below.refl _ _)).mono ?_; rintro e w1 ⟨rfl, hb1⟩)
      go_ret
      exact ⟨rfl, hb1⟩
  · go_enter Try.func3, Try.ntmps3
    go_wp2_with fail
    all_goals (go_ret; exact ⟨rfl, Below.refl _ _⟩)

end Go.Proofs.Ytfeancgmmonebaa.Sx

/-
  Reading a signature's bytes (DER): the walk. Conditions: none; each theorem bears its own.
-/
namespace Go.Proofs.Ytfeancgmmonebaa.Sx
open Go Go.Proofs Go.RowKit

theorem c_eserr (k d : ByteArray) (w : World) : Calls Try.prog 40 #[.string k, .string d] w (AnAgg w) := by
  go_enter Try.func40, Try.ntmps40
  go_wp2_with fail
  exact bodyPost_ret (v := .agg #[.iface 83 (.string k), .string d]) (by simp [results, Try.results40, go_sem]) rfl ⟨⟨_, rfl⟩, (Below.refl _ _).alloc (Nat.le_refl _) _⟩

def IsErrRes (w : World) (e : Ending) (w' : World) : Prop := (∃ t x, e = .returned (.tuple #[.pointer none, .iface t x])) ∧ Below w.heap.size w w'

/-- The bytes' first places, as memory has them. -/
structure DerCells (w : World) (ad : Addr) (n rl sl : Nat) (x0 x1 x2 x4 x5 xs y0 y1 : Int) : Prop where
  k0 : w.cell? ad = some (.int .u8 x0)
  k1 : w.cell? ⟨ad.block, ad.off + 1, none⟩ = some (.int .u8 x1)
  k2 : w.cell? ⟨ad.block, ad.off + 2, none⟩ = some (.int .u8 x2)
  k3 : w.cell? ⟨ad.block, ad.off + 3, none⟩ = some (.int .u8 rl)
  k4 : w.cell? ⟨ad.block, ad.off + 4, none⟩ = some (.int .u8 x4)
  k5 : w.cell? ⟨ad.block, ad.off + 5, none⟩ = some (.int .u8 x5)
  m0 : 4 + rl < n → w.cell? (ad.add (4 + rl)) = some (.int .u8 xs)
  m1 : 5 + rl < n → w.cell? ⟨ad.block, ad.off + (4 + rl + 1), none⟩ = some (.int .u8 sl)
  m2 : 6 + rl < n → w.cell? ⟨ad.block, ad.off + (4 + rl + 1 + 1), none⟩ = some (.int .u8 y0)
  m3 : 7 + rl < n → w.cell? ⟨ad.block, ad.off + (4 + rl + 1 + 1 + 1), none⟩ = some (.int .u8 y1)
  b1 : 0 ≤ x1
  b1' : x1 < 256
  b3 : rl < 256
  bs : sl < 256

set_option maxRecDepth 1000000 in
set_option maxHeartbeats 4000000 in
theorem der_short (n c : Nat) (A : Option Addr) (w : World) (h : n < 8 ∨ (72 < n ∧ n < 2147483648)) : Calls Try.prog 26 #[.slice A n c] w (IsErrRes w) := by
  rcases h with h | ⟨h, h'⟩
  · go_enter Try.func26, Try.ntmps26
    go_wp2_with ((with_reducible refine (c_eserr _ _ _).mono ?_); rintro e w1 ⟨⟨x, rfl⟩, hb1⟩)
    go_ret2
    exact ⟨⟨_, _, rfl⟩, hb1⟩
  · go_enter Try.func26, Try.ntmps26
    go_wp2_with ((with_reducible refine (c_eserr _ _ _).mono ?_); rintro e w1 ⟨⟨x, rfl⟩, hb1⟩)
    go_ret2
    exact ⟨⟨_, _, rfl⟩, hb1⟩

set_option maxRecDepth 1000000 in
set_option maxHeartbeats 4000000 in
/-- Lengths that do not fit. -/
theorem der_bad (n c rl sl : Nat) (ad : Addr) (w : World) (x0 x1 x2 x4 x5 xs y0 y1 : Int) (C : DerCells w ad n rl sl x0 x1 x2 x4 x5 xs y0 y1) (hn8 : 8 ≤ n) (hn72 : n ≤ 72) (hbad : n ≤ 4 + rl ∨ n = 5 + rl ∨ (6 + rl ≤ n ∧ (n ≠ 6 + rl + sl ∨ rl = 0 ∨ sl = 0))) :
    Calls Try.prog 26 #[.slice (some ad) n c] w (IsErrRes w) := by
  have HC := Lib.hid C
  obtain ⟨k0, k1, k2, k3, k4, k5, m0, m1, m2, m3, b1, b1', b3, bs⟩ := C
  clear m0 m1 m2 m3
  rcases hbad with h | h | ⟨h, h'⟩
  · go_enter Try.func26, Try.ntmps26
    go_wp2_with ((with_reducible refine (c_eserr _ _ _).mono ?_); rintro e w1 ⟨⟨x, rfl⟩, hb1⟩)
    all_goals (go_ret2; exact ⟨⟨_, _, rfl⟩, hb1⟩)
  · have h4 : 4 + (rl : Int) < n := by omega
    have h5 : (n : Int) ≤ 4 + rl + 1 := by omega
    clear h
    go_enter Try.func26, Try.ntmps26
    go_wp2_with ((with_reducible refine (c_eserr _ _ _).mono ?_); rintro e w1 ⟨⟨x, rfl⟩, hb1⟩)
    all_goals (go_ret2; exact ⟨⟨_, _, rfl⟩, hb1⟩)
  · have h4 : 4 + (rl : Int) < n := by omega
    have h5 : 4 + (rl : Int) + 1 < n := by omega
    have m0 := HC.out.m0 (by omega)
    have m1 := HC.out.m1 (by omega)
    by_cases hq : n = 6 + rl + sl
    · have hq1 : ((4 + (rl : Int) + 1 + 1 + sl != n) = false) := by simp; omega
      have h'' : rl = 0 ∨ sl = 0 := h'.resolve_left (fun q => q hq)
      clear h' hq
      rcases h'' with h'' | h''
      · have hz : ((rl : Int) == 0) = true := by simp [h'']
        have HZ := Lib.hid h''
        clear h''
        go_enter Try.func26, Try.ntmps26
        go_wp2_with ((with_reducible refine (c_eserr _ _ _).mono ?_); rintro e w1 ⟨⟨x, rfl⟩, hb1⟩)
        all_goals (go_ret2; exact ⟨⟨_, _, rfl⟩, hb1⟩)
      · have hz : ((sl : Int) == 0) = true := by simp [h'']
        have HZ := Lib.hid h''
        clear h''
        go_enter Try.func26, Try.ntmps26
        go_wp2_with ((with_reducible refine (c_eserr _ _ _).mono ?_); rintro e w1 ⟨⟨x, rfl⟩, hb1⟩)
        all_goals (go_ret2; exact ⟨⟨_, _, rfl⟩, hb1⟩)
    · have hq1 : ((4 + (rl : Int) + 1 + 1 + sl != n) = true) := by simp; omega
      clear h' hq
      go_enter Try.func26, Try.ntmps26
      go_wp2_with ((with_reducible refine (c_eserr _ _ _).mono ?_); rintro e w1 ⟨⟨x, rfl⟩, hb1⟩)
      all_goals (go_ret2; exact ⟨⟨_, _, rfl⟩, hb1⟩)

/-- What is asked of the bytes, told at their places. -/
structure DerAt (n rl sl : Nat) (x0 x1 x2 x4 x5 xs y0 y1 R S : Int) : Prop where
  x0 : x0 = 48
  x1 : x1 = n - 2
  x2 : x2 = 2
  xs : xs = 2
  tot : n = 6 + rl + sl
  r0 : 0 < rl
  r1 : x4 < 128
  r2 : ¬ (1 < rl ∧ x4 = 0 ∧ x5 < 128)
  s0 : 0 < sl
  s1 : y0 < 128
  s2 : ¬ (1 < sl ∧ y0 = 0 ∧ y1 < 128)
  R0 : 0 < R
  R1 : R < fn
  S0 : 0 < S
  S1 : S < fn

theorem and128 {x : Int} (h0 : 0 ≤ x) (h1 : x < 256) : bits .and .u8 x 128 = if x < 128 then 0 else 128 := by
  rw [bits_and (k := .u8) (b := 8) rfl h0 h1 (by omega) (by omega)]
  obtain ⟨k, rfl⟩ := Int.eq_ofNat_of_zero_le h0
  have hk : k < 256 := by omega
  rw [Int.toNat_natCast]
  have key : ∀ k : Nat, k < 256 → (((k &&& 128 : Nat)) : Int) = if (k : Int) < 128 then 0 else 128 := by decide +kernel
  exact key k hk

/-- Bytes of which nothing ahead is needed: what is left, and its number. -/
def Rest (w : World) (B : Nat) (v : Value) (V : Int) : Prop :=
  ∃ (A : Option Addr) (m c : Nat) (l : List Int), v = .slice A m c ∧ m ≤ c ∧ m ≤ 72 ∧ Reads w B A m (l.map (Value.int .u8)) ∧ Dg 8 l ∧ be l = V

theorem be_cons_zero (l : List Int) : be (0 :: l) = be l := be_pad 1 l

theorem Rest.open {w : World} {B : Nat} {A : Option Addr} {m : Nat} {l : List Int} (h : Reads w B A m (l.map (Value.int .u8))) (hm : 0 < m) : ∃ ad y r, A = some ad ∧ l = y :: r ∧ w.cell? ad = some (.int .u8 y) := by
  obtain ⟨ad, rfl, _, hc⟩ := h.2 hm
  match l, h.1 with
  | [], h1 => simp at h1; omega
  | y :: r, _ =>
    have := hc 0 (.int .u8 y) rfl
    rw [show ad.add 0 = ad by unfold Addr.add; simp] at this
    exact ⟨ad, y, r, rfl, rfl, this⟩

/-- The cut that leaves out the first byte. -/
theorem run_cut1 (ad : Addr) {m c : Nat} (hm : 0 < m) (hc : m ≤ c) (w : World) :
    (Instr.sliceAt 22 (.slice (some ad) m c) (some (.int .i64 1)) none none).run Try.prog w = .ok (.slice (if c = 1 then some ad else some (ad.add 1)) (m - 1) (c - 1)) w := by
  have := run_cut_slice (P := Try.prog) Try.underlying22 (by kernel_rfl) (some ad) m c (some 1) none 1 m rfl rfl (by omega) hc w
  simpa using this

theorem Reads.tail1 {w : World} {B : Nat} {ad : Addr} {m c : Nat} {y : Int} {r : List Int} (h : Reads w B (some ad) m ((y :: r).map (Value.int .u8))) (hc : m ≤ c) : Reads w B (if c = 1 then some ad else some (ad.add 1)) (m - 1) (r.map (Value.int .u8)) := by
  have h1 := h.drop 1
  by_cases hq : c = 1
  · rw [if_pos hq]
    refine ⟨by simpa using h1.1, fun h0 => by omega⟩
  · rw [if_neg hq]
    exact h1

end Go.Proofs.Ytfeancgmmonebaa.Sx
