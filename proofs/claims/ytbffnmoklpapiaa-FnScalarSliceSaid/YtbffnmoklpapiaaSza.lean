/-
  Contracts of functions, each from one symbolic run that the kernel goes over. Printed by gen.py. Conditions: none; each theorem bears its own.
-/
import Derived.Test.YtbffnmoklpapiaaSye
namespace Go.Proofs.Ytbffnmoklpapiaa.Sx
open Go Go.Proofs

theorem mixed : Try.prog.follows .mixedOrders = true := by kernel_rfl

def e_sub : Entry := eSub 61
theorem m_sub : Meets Try.prog e_sub := meets_extern3 Try.func61 rfl rfl rfl (x := subX) rfl (fun a b c h w => run_subX a b c h w)

theorem sub1 (l : List Int) : ((fit 2 (subF l)).getD 1 0).toNat ≤ 1 := by
  unfold subF
  split
  · simp only [fit, List.headD_cons, List.tail_cons, List.getD_cons_succ, List.getD_cons_zero]
    split <;> decide
  · decide

def p_eq : Path := ⟨[.pr (.conv .u32) [.var 5], .pr (.bin .shr .u64) [.var 4, .lit 63], .pr (.bin .sub .u64) [.var 3, .lit 1], .pr (.conv .u64) [.var 2], .pr (.bin .xor .u32) [.var 0, .var 1]], [], [.var 6]⟩
def G_eq : List Entry := []
def e_eq : Entry := { f := 60, args := [.int .u32, .int .u32], res := [.int .u32], F := p_eq.out G_eq }
theorem r_eq : runFn Try.prog G_eq e_eq Try.f60.ntmps Try.f60.results.toList (Try.f60.body.getD .skip) = some ([], [p_eq]) := by kernel_rfl
theorem m_eq : Meets Try.prog e_eq :=
  meets_single mixed (fun e he => by simp [G_eq] at he) Try.func60 rfl (by kernel_rfl) r_eq rfl

def p_lt : Path := ⟨[.pr (.conv .u32) [.var 5], .pr (.bin .shr .u64) [.var 4, .lit 63], .pr (.bin .sub .u64) [.var 2, .var 3], .pr (.conv .u64) [.var 1], .pr (.conv .u64) [.var 0]], [], [.var 6]⟩
def G_lt : List Entry := []
def e_lt : Entry := { f := 71, args := [.int .u32, .int .u32], res := [.int .u32], F := p_lt.out G_lt }
theorem r_lt : runFn Try.prog G_lt e_lt Try.f71.ntmps Try.f71.results.toList (Try.f71.body.getD .skip) = some ([], [p_lt]) := by kernel_rfl
theorem m_lt : Meets Try.prog e_lt :=
  meets_single mixed (fun e he => by simp [G_lt] at he) Try.func71 rfl (by kernel_rfl) r_lt rfl

def p_le : Path := ⟨[.pr (.conv .u32) [.var 6], .pr (.bin .shr .u64) [.var 5, .lit 63], .pr (.bin .sub .u64) [.var 4, .lit 1], .pr (.bin .sub .u64) [.var 2, .var 3], .pr (.conv .u64) [.var 1], .pr (.conv .u64) [.var 0]], [], [.var 7]⟩
def G_le : List Entry := []
def e_le : Entry := { f := 72, args := [.int .u32, .int .u32], res := [.int .u32], F := p_le.out G_le }
theorem r_le : runFn Try.prog G_le e_le Try.f72.ntmps Try.f72.results.toList (Try.f72.body.getD .skip) = some ([], [p_le]) := by kernel_rfl
theorem m_le : Meets Try.prog e_le :=
  meets_single mixed (fun e he => by simp [G_le] at he) Try.func72 rfl (by kernel_rfl) r_le rfl

def p_gt : Path := ⟨[.app 0 [.var 1, .var 0] 1], [], [.var 2]⟩
def G_gt : List Entry := [e_lt]
def e_gt : Entry := { f := 59, args := [.int .u32, .int .u32], res := [.int .u32], F := p_gt.out G_gt }
theorem r_gt : runFn Try.prog G_gt e_gt Try.f59.ntmps Try.f59.results.toList (Try.f59.body.getD .skip) = some ([], [p_gt]) := by kernel_rfl
theorem m_gt : Meets Try.prog e_gt :=
  meets_single mixed (fun e he => by
    simp only [G_gt, List.mem_cons, List.not_mem_nil, or_false] at he
    rcases he with rfl
    · exact m_lt) Try.func59 rfl (by kernel_rfl) r_gt rfl

def p_ge : Path := ⟨[.app 0 [.var 1, .var 0] 1], [], [.var 2]⟩
def G_ge : List Entry := [e_le]
def e_ge : Entry := { f := 64, args := [.int .u32, .int .u32], res := [.int .u32], F := p_ge.out G_ge }
theorem r_ge : runFn Try.prog G_ge e_ge Try.f64.ntmps Try.f64.results.toList (Try.f64.body.getD .skip) = some ([], [p_ge]) := by kernel_rfl
theorem m_ge : Meets Try.prog e_ge :=
  meets_single mixed (fun e he => by
    simp only [G_ge, List.mem_cons, List.not_mem_nil, or_false] at he
    rcases he with rfl
    · exact m_le) Try.func64 rfl (by kernel_rfl) r_ge rfl

def p_uof : Path := ⟨[.pr (.bin .add .u64) [.var 121, .var 122], .pr (.conv .u64) [.var 31], .pr (.bin .shl .u64) [.var 120, .lit 8], .pr (.bin .add .u64) [.var 118, .var 119], .pr (.conv .u64) [.var 30], .pr (.bin .shl .u64) [.var 117, .lit 8], .pr (.bin .add .u64) [.var 115, .var 116], .pr (.conv .u64) [.var 29], .pr (.bin .shl .u64) [.var 114, .lit 8], .pr (.bin .add .u64) [.var 112, .var 113], .pr (.conv .u64) [.var 28], .pr (.bin .shl .u64) [.var 111, .lit 8], .pr (.bin .add .u64) [.var 109, .var 110], .pr (.conv .u64) [.var 27], .pr (.bin .shl .u64) [.var 108, .lit 8], .pr (.bin .add .u64) [.var 106, .var 107], .pr (.conv .u64) [.var 26], .pr (.bin .shl .u64) [.var 105, .lit 8], .pr (.bin .add .u64) [.var 103, .var 104], .pr (.conv .u64) [.var 25], .pr (.bin .shl .u64) [.var 102, .lit 8], .pr (.bin .add .u64) [.lit 0, .var 101], .pr (.conv .u64) [.var 24], .pr (.bin .add .u64) [.var 98, .var 99], .pr (.conv .u64) [.var 23], .pr (.bin .shl .u64) [.var 97, .lit 8], .pr (.bin .add .u64) [.var 95, .var 96], .pr (.conv .u64) [.var 22], .pr (.bin .shl .u64) [.var 94, .lit 8], .pr (.bin .add .u64) [.var 92, .var 93], .pr (.conv .u64) [.var 21], .pr (.bin .shl .u64) [.var 91, .lit 8], .pr (.bin .add .u64) [.var 89, .var 90], .pr (.conv .u64) [.var 20], .pr (.bin .shl .u64) [.var 88, .lit 8], .pr (.bin .add .u64) [.var 86, .var 87], .pr (.conv .u64) [.var 19], .pr (.bin .shl .u64) [.var 85, .lit 8], .pr (.bin .add .u64) [.var 83, .var 84], .pr (.conv .u64) [.var 18], .pr (.bin .shl .u64) [.var 82, .lit 8], .pr (.bin .add .u64) [.var 80, .var 81], .pr (.conv .u64) [.var 17], .pr (.bin .shl .u64) [.var 79, .lit 8], .pr (.bin .add .u64) [.lit 0, .var 78], .pr (.conv .u64) [.var 16], .pr (.bin .add .u64) [.var 75, .var 76], .pr (.conv .u64) [.var 15], .pr (.bin .shl .u64) [.var 74, .lit 8], .pr (.bin .add .u64) [.var 72, .var 73], .pr (.conv .u64) [.var 14], .pr (.bin .shl .u64) [.var 71, .lit 8], .pr (.bin .add .u64) [.var 69, .var 70], .pr (.conv .u64) [.var 13], .pr (.bin .shl .u64) [.var 68, .lit 8], .pr (.bin .add .u64) [.var 66, .var 67], .pr (.conv .u64) [.var 12], .pr (.bin .shl .u64) [.var 65, .lit 8], .pr (.bin .add .u64) [.var 63, .var 64], .pr (.conv .u64) [.var 11], .pr (.bin .shl .u64) [.var 62, .lit 8], .pr (.bin .add .u64) [.var 60, .var 61], .pr (.conv .u64) [.var 10], .pr (.bin .shl .u64) [.var 59, .lit 8], .pr (.bin .add .u64) [.var 57, .var 58], .pr (.conv .u64) [.var 9], .pr (.bin .shl .u64) [.var 56, .lit 8], .pr (.bin .add .u64) [.lit 0, .var 55], .pr (.conv .u64) [.var 8], .pr (.bin .add .u64) [.var 52, .var 53], .pr (.conv .u64) [.var 7], .pr (.bin .shl .u64) [.var 51, .lit 8], .pr (.bin .add .u64) [.var 49, .var 50], .pr (.conv .u64) [.var 6], .pr (.bin .shl .u64) [.var 48, .lit 8], .pr (.bin .add .u64) [.var 46, .var 47], .pr (.conv .u64) [.var 5], .pr (.bin .shl .u64) [.var 45, .lit 8], .pr (.bin .add .u64) [.var 43, .var 44], .pr (.conv .u64) [.var 4], .pr (.bin .shl .u64) [.var 42, .lit 8], .pr (.bin .add .u64) [.var 40, .var 41], .pr (.conv .u64) [.var 3], .pr (.bin .shl .u64) [.var 39, .lit 8], .pr (.bin .add .u64) [.var 37, .var 38], .pr (.conv .u64) [.var 2], .pr (.bin .shl .u64) [.var 36, .lit 8], .pr (.bin .add .u64) [.var 34, .var 35], .pr (.conv .u64) [.var 1], .pr (.bin .shl .u64) [.var 33, .lit 8], .pr (.bin .add .u64) [.lit 0, .var 32], .pr (.conv .u64) [.var 0]], [], [.var 123, .var 100, .var 77, .var 54]⟩
def G_uof : List Entry := []
def e_uof : Entry := { f := 15, args := [.agg (List.replicate 32 (some .u8))], res := [.agg (List.replicate 4 (some .u64))], F := p_uof.out G_uof }
theorem r_uof : runFn Try.prog G_uof e_uof Try.f15.ntmps Try.f15.results.toList (Try.f15.body.getD .skip) = some ([], [p_uof]) := by kernel_rfl
theorem m_uof : Meets Try.prog e_uof :=
  meets_single mixed (fun e he => by simp [G_uof] at he) Try.func15 rfl (by kernel_rfl) r_uof rfl

def p_ub : Path := ⟨[.pr (.conv .u8) [.var 66], .pr (.bin .shr .u64) [.var 0, .lit 0], .pr (.conv .u8) [.var 64], .pr (.bin .shr .u64) [.var 0, .lit 8], .pr (.conv .u8) [.var 62], .pr (.bin .shr .u64) [.var 0, .lit 16], .pr (.conv .u8) [.var 60], .pr (.bin .shr .u64) [.var 0, .lit 24], .pr (.conv .u8) [.var 58], .pr (.bin .shr .u64) [.var 0, .lit 32], .pr (.conv .u8) [.var 56], .pr (.bin .shr .u64) [.var 0, .lit 40], .pr (.conv .u8) [.var 54], .pr (.bin .shr .u64) [.var 0, .lit 48], .pr (.conv .u8) [.var 52], .pr (.bin .shr .u64) [.var 0, .lit 56], .pr (.conv .u8) [.var 50], .pr (.bin .shr .u64) [.var 1, .lit 0], .pr (.conv .u8) [.var 48], .pr (.bin .shr .u64) [.var 1, .lit 8], .pr (.conv .u8) [.var 46], .pr (.bin .shr .u64) [.var 1, .lit 16], .pr (.conv .u8) [.var 44], .pr (.bin .shr .u64) [.var 1, .lit 24], .pr (.conv .u8) [.var 42], .pr (.bin .shr .u64) [.var 1, .lit 32], .pr (.conv .u8) [.var 40], .pr (.bin .shr .u64) [.var 1, .lit 40], .pr (.conv .u8) [.var 38], .pr (.bin .shr .u64) [.var 1, .lit 48], .pr (.conv .u8) [.var 36], .pr (.bin .shr .u64) [.var 1, .lit 56], .pr (.conv .u8) [.var 34], .pr (.bin .shr .u64) [.var 2, .lit 0], .pr (.conv .u8) [.var 32], .pr (.bin .shr .u64) [.var 2, .lit 8], .pr (.conv .u8) [.var 30], .pr (.bin .shr .u64) [.var 2, .lit 16], .pr (.conv .u8) [.var 28], .pr (.bin .shr .u64) [.var 2, .lit 24], .pr (.conv .u8) [.var 26], .pr (.bin .shr .u64) [.var 2, .lit 32], .pr (.conv .u8) [.var 24], .pr (.bin .shr .u64) [.var 2, .lit 40], .pr (.conv .u8) [.var 22], .pr (.bin .shr .u64) [.var 2, .lit 48], .pr (.conv .u8) [.var 20], .pr (.bin .shr .u64) [.var 2, .lit 56], .pr (.conv .u8) [.var 18], .pr (.bin .shr .u64) [.var 3, .lit 0], .pr (.conv .u8) [.var 16], .pr (.bin .shr .u64) [.var 3, .lit 8], .pr (.conv .u8) [.var 14], .pr (.bin .shr .u64) [.var 3, .lit 16], .pr (.conv .u8) [.var 12], .pr (.bin .shr .u64) [.var 3, .lit 24], .pr (.conv .u8) [.var 10], .pr (.bin .shr .u64) [.var 3, .lit 32], .pr (.conv .u8) [.var 8], .pr (.bin .shr .u64) [.var 3, .lit 40], .pr (.conv .u8) [.var 6], .pr (.bin .shr .u64) [.var 3, .lit 48], .pr (.conv .u8) [.var 4], .pr (.bin .shr .u64) [.var 3, .lit 56]], [], [.var 5, .var 7, .var 9, .var 11, .var 13, .var 15, .var 17, .var 19, .var 21, .var 23, .var 25, .var 27, .var 29, .var 31, .var 33, .var 35, .var 37, .var 39, .var 41, .var 43, .var 45, .var 47, .var 49, .var 51, .var 53, .var 55, .var 57, .var 59, .var 61, .var 63, .var 65, .var 67]⟩
def G_ub : List Entry := []
def e_ub : Entry := { f := 19, args := [.agg (List.replicate 4 (some .u64))], res := [.agg (List.replicate 32 (some .u8))], F := p_ub.out G_ub }
theorem r_ub : runFn Try.prog G_ub e_ub Try.f19.ntmps Try.f19.results.toList (Try.f19.body.getD .skip) = some ([], [p_ub]) := by kernel_rfl
theorem m_ub : Meets Try.prog e_ub :=
  meets_single mixed (fun e he => by simp [G_ub] at he) Try.func19 rfl (by kernel_rfl) r_ub rfl

def q_uless_0 : Path := ⟨[.pr (.bin .lss .u64) [.var 3, .var 7], .pr (.bin .neq .u64) [.var 3, .var 7]], [(.var 8, true)], [.var 9]⟩
def q_uless_1 : Path := ⟨[.pr (.bin .lss .u64) [.var 2, .var 6], .pr (.bin .neq .u64) [.var 2, .var 6], .pr (.bin .neq .u64) [.var 3, .var 7]], [(.var 9, true), (.var 8, false)], [.var 10]⟩
def q_uless_2 : Path := ⟨[.pr (.bin .lss .u64) [.var 1, .var 5], .pr (.bin .neq .u64) [.var 1, .var 5], .pr (.bin .neq .u64) [.var 2, .var 6], .pr (.bin .neq .u64) [.var 3, .var 7]], [(.var 10, true), (.var 9, false), (.var 8, false)], [.var 11]⟩
def q_uless_3 : Path := ⟨[.pr (.bin .lss .u64) [.var 0, .var 4], .pr (.bin .neq .u64) [.var 0, .var 4], .pr (.bin .neq .u64) [.var 1, .var 5], .pr (.bin .neq .u64) [.var 2, .var 6], .pr (.bin .neq .u64) [.var 3, .var 7]], [(.var 11, true), (.var 10, false), (.var 9, false), (.var 8, false)], [.var 12]⟩
def q_uless_4 : Path := ⟨[.pr (.bin .neq .u64) [.var 0, .var 4], .pr (.bin .neq .u64) [.var 1, .var 5], .pr (.bin .neq .u64) [.var 2, .var 6], .pr (.bin .neq .u64) [.var 3, .var 7]], [(.var 11, false), (.var 10, false), (.var 9, false), (.var 8, false)], [.lit 0]⟩
def ps_uless : List Path := [q_uless_0, q_uless_1, q_uless_2, q_uless_3, q_uless_4]
def G_uless : List Entry := []
def F_uless (b : List Int) : List Int :=
  [if b.getD 3 0 = b.getD 7 0 then if b.getD 2 0 = b.getD 6 0 then if b.getD 1 0 = b.getD 5 0 then if b.getD 0 0 = b.getD 4 0 then 0
    else (if b.getD 0 0 < b.getD 4 0 then 1 else 0) else (if b.getD 1 0 < b.getD 5 0 then 1 else 0) else (if b.getD 2 0 < b.getD 6 0 then 1 else 0) else (if b.getD 3 0 < b.getD 7 0 then 1 else 0)]
def e_uless : Entry := { f := 16, args := [.agg (List.replicate 4 (some .u64)), .agg (List.replicate 4 (some .u64))], res := [.bool], F := F_uless }
theorem r_uless : runFn Try.prog G_uless e_uless Try.f16.ntmps Try.f16.results.toList (Try.f16.body.getD .skip) = some ([], ps_uless) := by kernel_rfl
theorem len8 {b : List Int} (h : b.length = 8) : ∃ a0 a1 a2 a3 a4 a5 a6 a7, b = [a0, a1, a2, a3, a4, a5, a6, a7] := by
  match b, h with
  | [a0, a1, a2, a3, a4, a5, a6, a7], _ => exact ⟨a0, a1, a2, a3, a4, a5, a6, a7, rfl⟩

theorem m_uless : Meets Try.prog e_uless :=
  meets_of_run mixed (fun e he => by simp [G_uless] at he) Try.func16 rfl (by kernel_rfl) r_uless (fun _ _ _ nd hnd => by cases hnd) fun base hl _ p hp hasm => by
    obtain ⟨a0, a1, a2, a3, a4, a5, a6, a7, rfl⟩ := len8 hl
    simp only [ps_uless, List.mem_cons, List.not_mem_nil, or_false] at hp
    rcases hp with rfl | rfl | rfl | rfl | rfl <;>
      simp [q_uless_0, q_uless_1, q_uless_2, q_uless_3, q_uless_4, asmHolds, runR, Def.ev, Pr.ev, binEv, SI.val, G_uless] at hasm ⊢ <;> simp [e_uless, F_uless, hasm]

def p_lof : Path := ⟨[.app 0 [.var 3, .var 7, .var 13] 2, .app 0 [.var 2, .var 6, .var 11] 2, .app 0 [.var 1, .var 5, .var 9] 2, .app 0 [.var 0, .var 4, .lit 0] 2], [], [.var 8, .var 10, .var 12, .var 14]⟩
def nd_lof : List Need := [⟨[], [], 0, [.var 0, .var 4, .lit 0]⟩,
  ⟨[.app 0 [.var 0, .var 4, .lit 0] 2], [], 0, [.var 1, .var 5, .var 9]⟩,
  ⟨[.app 0 [.var 1, .var 5, .var 9] 2, .app 0 [.var 0, .var 4, .lit 0] 2], [], 0, [.var 2, .var 6, .var 11]⟩,
  ⟨[.app 0 [.var 2, .var 6, .var 11] 2, .app 0 [.var 1, .var 5, .var 9] 2, .app 0 [.var 0, .var 4, .lit 0] 2], [], 0, [.var 3, .var 7, .var 13]⟩]
def G_lof : List Entry := [e_sub]

def e_lof : Entry := { f := 42, args := [.agg (List.replicate 4 (some .u64)), .agg (List.replicate 4 (some .u64))], res := [.agg (List.replicate 4 (some .u64))], F := p_lof.out G_lof }
theorem r_lof : runFn Try.prog G_lof e_lof Try.f42.ntmps Try.f42.results.toList (Try.f42.body.getD .skip) = some (nd_lof, [p_lof]) := by kernel_rfl
theorem m_lof : Meets Try.prog e_lof :=
  meets_of_run mixed (fun e he => by
    simp only [G_lof, List.mem_cons, List.not_mem_nil, or_false] at he
    subst he
    exact m_sub) Try.func42 rfl (by kernel_rfl) r_lof (fun base hl _ nd hnd _ => by
    obtain ⟨a0, a1, a2, a3, a4, a5, a6, a7, rfl⟩ := len8 hl
    simp only [nd_lof, List.mem_cons, List.not_mem_nil, or_false] at hnd
    rcases hnd with rfl | rfl | rfl | rfl
    · exact Nat.zero_le _
    · exact sub1 [a0, a4, 0]
    · exact sub1 [a1, a5, (fit 2 (subF [a0, a4, 0])).getD 1 0]
    · exact sub1 [a2, a6, (fit 2 (subF [a1, a5, (fit 2 (subF [a0, a4, 0])).getD 1 0])).getD 1 0]) fun base _ _ p hp _ => by
    simp only [List.mem_cons, List.not_mem_nil, or_false] at hp
    subst hp
    rfl

def p_fprime : Path := ⟨[], [], [.lit 18446744069414583343, .lit 18446744073709551615, .lit 18446744073709551615, .lit 18446744073709551615]⟩
def G_fprime : List Entry := []
def e_fprime : Entry := { f := 28, args := [], res := [.agg (List.replicate 4 (some .u64))], F := p_fprime.out G_fprime }
theorem r_fprime : runFn Try.prog G_fprime e_fprime Try.f28.ntmps Try.f28.results.toList (Try.f28.body.getD .skip) = some ([], [p_fprime]) := by kernel_rfl
theorem m_fprime : Meets Try.prog e_fprime :=
  meets_single mixed (fun e he => by simp [G_fprime] at he) Try.func28 rfl (by kernel_rfl) r_fprime rfl

def p_order : Path := ⟨[], [], [.lit 13822214165235122497, .lit 13451932020343611451, .lit 18446744073709551614, .lit 18446744073709551615]⟩
def G_order : List Entry := []
def e_order : Entry := { f := 17, args := [], res := [.agg (List.replicate 4 (some .u64))], F := p_order.out G_order }
theorem r_order : runFn Try.prog G_order e_order Try.f17.ntmps Try.f17.results.toList (Try.f17.body.getD .skip) = some ([], [p_order]) := by kernel_rfl
theorem m_order : Meets Try.prog e_order :=
  meets_single mixed (fun e he => by simp [G_order] at he) Try.func17 rfl (by kernel_rfl) r_order rfl

def q_red_0 : Path := ⟨[.app 0 [.var 0, .var 1, .var 2, .var 3, .var 4, .var 5, .var 6, .var 7] 1], [(.var 8, true)], [.var 0, .var 1, .var 2, .var 3]⟩
def q_red_1 : Path := ⟨[.app 1 [.var 0, .var 1, .var 2, .var 3, .var 4, .var 5, .var 6, .var 7] 4, .app 0 [.var 0, .var 1, .var 2, .var 3, .var 4, .var 5, .var 6, .var 7] 1], [(.var 8, false)], [.var 9, .var 10, .var 11, .var 12]⟩
def ps_red : List Path := [q_red_0, q_red_1]
def G_red : List Entry := [e_uless, e_lof]
def F_red (b : List Int) : List Int :=
  if (e_uless.F b).getD 0 0 = 0 then fit 4 (e_lof.F b) else b.take 4
def e_red : Entry := { f := 26, args := [.agg (List.replicate 4 (some .u64)), .agg (List.replicate 4 (some .u64))], res := [.agg (List.replicate 4 (some .u64))], F := F_red }
theorem r_red : runFn Try.prog G_red e_red Try.f26.ntmps Try.f26.results.toList (Try.f26.body.getD .skip) = some ([], ps_red) := by kernel_rfl
theorem m_red : Meets Try.prog e_red :=
  meets_of_run mixed (fun e he => by
    simp only [G_red, List.mem_cons, List.not_mem_nil, or_false] at he
    rcases he with rfl | rfl
    · exact m_uless
    · exact m_lof) Try.func26 rfl (by kernel_rfl) r_red (fun _ _ _ nd hnd => by cases hnd) fun base hl _ p hp hasm => by
    obtain ⟨a0, a1, a2, a3, a4, a5, a6, a7, rfl⟩ := len8 hl
    have hc : ∀ (l : List Int) (b : Bool), asmHolds ([a0, a1, a2, a3, a4, a5, a6, a7] ++ fit 1 l) [(.var 8, b)] → (l.getD 0 0 != 0) = b := fun l b h => by
      have := h _ List.mem_cons_self
      cases l <;> simpa [SI.val, fit] using this
    simp only [ps_red, List.mem_cons, List.not_mem_nil, or_false] at hp
    rcases hp with rfl | rfl
    · have h1 := hc (e_uless.F [a0, a1, a2, a3, a4, a5, a6, a7]) true hasm
      have h2 : ¬ (e_uless.F [a0, a1, a2, a3, a4, a5, a6, a7]).getD 0 0 = 0 := by simpa using h1
      show F_red _ = _
      unfold F_red
      rw [if_neg h2]
      rfl
    · have h1 : ((e_uless.F [a0, a1, a2, a3, a4, a5, a6, a7]).getD 0 0 != 0) = false := by
        have := hasm _ List.mem_cons_self
        cases hF : e_uless.F [a0, a1, a2, a3, a4, a5, a6, a7] with
        | nil => rfl
        | cons x r =>
          have e : ((SI.var 8).val (runR G_red q_red_1.defs [a0, a1, a2, a3, a4, a5, a6, a7])) = (fit 1 (e_uless.F [a0, a1, a2, a3, a4, a5, a6, a7])).getD 0 0 := rfl
          rw [e, hF] at this
          simpa [fit] using this
      have h2 : (e_uless.F [a0, a1, a2, a3, a4, a5, a6, a7]).getD 0 0 = 0 := by simpa using h1
      show F_red _ = _
      unfold F_red
      rw [if_pos h2]
      rfl

def p_fieldof : Path := ⟨[.app 1 [.var 32, .var 33, .var 34, .var 35, .var 36, .var 37, .var 38, .var 39] 4, .app 2 [] 4, .app 0 [.var 0, .var 1, .var 2, .var 3, .var 4, .var 5, .var 6, .var 7, .var 8, .var 9, .var 10, .var 11, .var 12, .var 13, .var 14, .var 15, .var 16, .var 17, .var 18, .var 19, .var 20, .var 21, .var 22, .var 23, .var 24, .var 25, .var 26, .var 27, .var 28, .var 29, .var 30, .var 31] 4], [], [.var 40, .var 41, .var 42, .var 43]⟩
def G_fieldof : List Entry := [e_uof, e_red, e_fprime]
def e_fieldof : Entry := { f := 29, args := [.agg (List.replicate 32 (some .u8))], res := [.agg (List.replicate 4 (some .u64))], F := p_fieldof.out G_fieldof }
theorem r_fieldof : runFn Try.prog G_fieldof e_fieldof Try.f29.ntmps Try.f29.results.toList (Try.f29.body.getD .skip) = some ([], [p_fieldof]) := by kernel_rfl
theorem m_fieldof : Meets Try.prog e_fieldof :=
  meets_single mixed (fun e he => by
    simp only [G_fieldof, List.mem_cons, List.not_mem_nil, or_false] at he
    rcases he with rfl | rfl | rfl
    · exact m_uof
    · exact m_red
    · exact m_fprime) Try.func29 rfl (by kernel_rfl) r_fieldof rfl

def p_scalarof : Path := ⟨[.app 1 [.var 32, .var 33, .var 34, .var 35, .var 36, .var 37, .var 38, .var 39] 4, .app 2 [] 4, .app 0 [.var 0, .var 1, .var 2, .var 3, .var 4, .var 5, .var 6, .var 7, .var 8, .var 9, .var 10, .var 11, .var 12, .var 13, .var 14, .var 15, .var 16, .var 17, .var 18, .var 19, .var 20, .var 21, .var 22, .var 23, .var 24, .var 25, .var 26, .var 27, .var 28, .var 29, .var 30, .var 31] 4], [], [.var 40, .var 41, .var 42, .var 43]⟩
def G_scalarof : List Entry := [e_uof, e_red, e_order]
def e_scalarof : Entry := { f := 18, args := [.agg (List.replicate 32 (some .u8))], res := [.agg (List.replicate 4 (some .u64))], F := p_scalarof.out G_scalarof }
theorem r_scalarof : runFn Try.prog G_scalarof e_scalarof Try.f18.ntmps Try.f18.results.toList (Try.f18.body.getD .skip) = some ([], [p_scalarof]) := by kernel_rfl
theorem m_scalarof : Meets Try.prog e_scalarof :=
  meets_single mixed (fun e he => by
    simp only [G_scalarof, List.mem_cons, List.not_mem_nil, or_false] at he
    rcases he with rfl | rfl | rfl
    · exact m_uof
    · exact m_red
    · exact m_order) Try.func18 rfl (by kernel_rfl) r_scalarof rfl

def p_setb : Path := ⟨[.pr (.bin .or .u32) [.var 169, .var 173], .pr (.bin .and .u32) [.var 171, .var 172], .app 2 [.var 52, .lit 67107887] 1, .pr (.bin .and .u32) [.var 167, .var 170], .app 0 [.var 64, .lit 67108799] 1, .pr (.bin .and .u32) [.var 167, .var 168], .app 1 [.var 64, .lit 67108799] 1, .pr (.bin .and .u32) [.var 165, .var 166], .app 0 [.var 76, .lit 67108863] 1, .pr (.bin .and .u32) [.var 163, .var 164], .app 0 [.var 87, .lit 67108863] 1, .pr (.bin .and .u32) [.var 161, .var 162], .app 0 [.var 98, .lit 67108863] 1, .pr (.bin .and .u32) [.var 159, .var 160], .app 0 [.var 110, .lit 67108863] 1, .pr (.bin .and .u32) [.var 157, .var 158], .app 0 [.var 122, .lit 67108863] 1, .pr (.bin .and .u32) [.var 155, .var 156], .app 0 [.var 133, .lit 67108863] 1, .pr (.bin .and .u32) [.var 153, .var 154], .app 0 [.var 144, .lit 67108863] 1, .app 0 [.var 152, .lit 4194303] 1, .pr (.bin .or .u32) [.var 149, .var 151], .pr (.bin .shl .u32) [.var 150, .lit 14], .pr (.conv .u32) [.var 10], .pr (.bin .or .u32) [.var 146, .var 148], .pr (.bin .shl .u32) [.var 147, .lit 6], .pr (.conv .u32) [.var 11], .pr (.bin .shr .u32) [.var 145, .lit 2], .pr (.conv .u32) [.var 12], .pr (.bin .or .u32) [.var 140, .var 143], .pr (.bin .shl .u32) [.var 142, .lit 24], .pr (.bin .and .u32) [.var 141, .lit 3], .pr (.conv .u32) [.var 12], .pr (.bin .or .u32) [.var 137, .var 139], .pr (.bin .shl .u32) [.var 138, .lit 16], .pr (.conv .u32) [.var 13], .pr (.bin .or .u32) [.var 134, .var 136], .pr (.bin .shl .u32) [.var 135, .lit 8], .pr (.conv .u32) [.var 14], .pr (.conv .u32) [.var 15], .pr (.bin .or .u32) [.var 130, .var 132], .pr (.bin .shl .u32) [.var 131, .lit 18], .pr (.conv .u32) [.var 16], .pr (.bin .or .u32) [.var 127, .var 129], .pr (.bin .shl .u32) [.var 128, .lit 10], .pr (.conv .u32) [.var 17], .pr (.bin .or .u32) [.var 124, .var 126], .pr (.bin .shl .u32) [.var 125, .lit 2], .pr (.conv .u32) [.var 18], .pr (.bin .shr .u32) [.var 123, .lit 6], .pr (.conv .u32) [.var 19], .pr (.bin .or .u32) [.var 118, .var 121], .pr (.bin .shl .u32) [.var 120, .lit 20], .pr (.bin .and .u32) [.var 119, .lit 63], .pr (.conv .u32) [.var 19], .pr (.bin .or .u32) [.var 115, .var 117], .pr (.bin .shl .u32) [.var 116, .lit 12], .pr (.conv .u32) [.var 20], .pr (.bin .or .u32) [.var 112, .var 114], .pr (.bin .shl .u32) [.var 113, .lit 4], .pr (.conv .u32) [.var 21], .pr (.bin .shr .u32) [.var 111, .lit 4], .pr (.conv .u32) [.var 22], .pr (.bin .or .u32) [.var 106, .var 109], .pr (.bin .shl .u32) [.var 108, .lit 22], .pr (.bin .and .u32) [.var 107, .lit 15], .pr (.conv .u32) [.var 22], .pr (.bin .or .u32) [.var 103, .var 105], .pr (.bin .shl .u32) [.var 104, .lit 14], .pr (.conv .u32) [.var 23], .pr (.bin .or .u32) [.var 100, .var 102], .pr (.bin .shl .u32) [.var 101, .lit 6], .pr (.conv .u32) [.var 24], .pr (.bin .shr .u32) [.var 99, .lit 2], .pr (.conv .u32) [.var 25], .pr (.bin .or .u32) [.var 94, .var 97], .pr (.bin .shl .u32) [.var 96, .lit 24], .pr (.bin .and .u32) [.var 95, .lit 3], .pr (.conv .u32) [.var 25], .pr (.bin .or .u32) [.var 91, .var 93], .pr (.bin .shl .u32) [.var 92, .lit 16], .pr (.conv .u32) [.var 26], .pr (.bin .or .u32) [.var 88, .var 90], .pr (.bin .shl .u32) [.var 89, .lit 8], .pr (.conv .u32) [.var 27], .pr (.conv .u32) [.var 28], .pr (.bin .or .u32) [.var 84, .var 86], .pr (.bin .shl .u32) [.var 85, .lit 18], .pr (.conv .u32) [.var 29], .pr (.bin .or .u32) [.var 81, .var 83], .pr (.bin .shl .u32) [.var 82, .lit 10], .pr (.conv .u32) [.var 30], .pr (.bin .or .u32) [.var 78, .var 80], .pr (.bin .shl .u32) [.var 79, .lit 2], .pr (.conv .u32) [.var 31], .pr (.bin .shr .u32) [.var 77, .lit 6], .pr (.conv .u32) [.var 32], .pr (.bin .or .u32) [.var 72, .var 75], .pr (.bin .shl .u32) [.var 74, .lit 20], .pr (.bin .and .u32) [.var 73, .lit 63], .pr (.conv .u32) [.var 32], .pr (.bin .or .u32) [.var 69, .var 71], .pr (.bin .shl .u32) [.var 70, .lit 12], .pr (.conv .u32) [.var 33], .pr (.bin .or .u32) [.var 66, .var 68], .pr (.bin .shl .u32) [.var 67, .lit 4], .pr (.conv .u32) [.var 34], .pr (.bin .shr .u32) [.var 65, .lit 4], .pr (.conv .u32) [.var 35], .pr (.bin .or .u32) [.var 60, .var 63], .pr (.bin .shl .u32) [.var 62, .lit 22], .pr (.bin .and .u32) [.var 61, .lit 15], .pr (.conv .u32) [.var 35], .pr (.bin .or .u32) [.var 57, .var 59], .pr (.bin .shl .u32) [.var 58, .lit 14], .pr (.conv .u32) [.var 36], .pr (.bin .or .u32) [.var 54, .var 56], .pr (.bin .shl .u32) [.var 55, .lit 6], .pr (.conv .u32) [.var 37], .pr (.bin .shr .u32) [.var 53, .lit 2], .pr (.conv .u32) [.var 38], .pr (.bin .or .u32) [.var 48, .var 51], .pr (.bin .shl .u32) [.var 50, .lit 24], .pr (.bin .and .u32) [.var 49, .lit 3], .pr (.conv .u32) [.var 38], .pr (.bin .or .u32) [.var 45, .var 47], .pr (.bin .shl .u32) [.var 46, .lit 16], .pr (.conv .u32) [.var 39], .pr (.bin .or .u32) [.var 42, .var 44], .pr (.bin .shl .u32) [.var 43, .lit 8], .pr (.conv .u32) [.var 40], .pr (.conv .u32) [.var 41]], [], [.var 52, .var 64, .var 76, .var 87, .var 98, .var 110, .var 122, .var 133, .var 144, .var 152, .var 174]⟩
def G_setb : List Entry := [e_eq, e_gt, e_ge]
def e_setb : Entry := { f := 44, args := [.ptr (List.replicate 10 (some .u32)) true, .ptr (List.replicate 32 (some .u8)) false], res := [.int .u32], F := p_setb.out G_setb }
theorem r_setb : runFn Try.prog G_setb e_setb Try.f44.ntmps Try.f44.results.toList (Try.f44.body.getD .skip) = some ([], [p_setb]) := by kernel_rfl
theorem m_setb : Meets Try.prog e_setb :=
  meets_single mixed (fun e he => by
    simp only [G_setb, List.mem_cons, List.not_mem_nil, or_false] at he
    rcases he with rfl | rfl | rfl
    · exact m_eq
    · exact m_gt
    · exact m_ge) Try.func44 rfl (by kernel_rfl) r_setb rfl

def p_norm : Path := ⟨[.pr (.bin .and .u32) [.var 89, .lit 4194303], .pr (.bin .and .u32) [.var 86, .lit 67108863], .pr (.bin .add .u32) [.var 88, .var 41], .pr (.bin .shr .u32) [.var 86, .lit 26], .pr (.bin .and .u32) [.var 83, .lit 67108863], .pr (.bin .add .u32) [.var 85, .var 42], .pr (.bin .shr .u32) [.var 83, .lit 26], .pr (.bin .and .u32) [.var 80, .lit 67108863], .pr (.bin .add .u32) [.var 82, .var 39], .pr (.bin .shr .u32) [.var 80, .lit 26], .pr (.bin .and .u32) [.var 77, .lit 67108863], .pr (.bin .add .u32) [.var 79, .var 36], .pr (.bin .shr .u32) [.var 77, .lit 26], .pr (.bin .and .u32) [.var 74, .lit 67108863], .pr (.bin .add .u32) [.var 76, .var 33], .pr (.bin .shr .u32) [.var 74, .lit 26], .pr (.bin .and .u32) [.var 71, .lit 67108863], .pr (.bin .add .u32) [.var 73, .var 30], .pr (.bin .shr .u32) [.var 71, .lit 26], .pr (.bin .and .u32) [.var 68, .lit 67108863], .pr (.bin .add .u32) [.var 70, .var 27], .pr (.bin .shr .u32) [.var 68, .lit 26], .pr (.bin .and .u32) [.var 65, .lit 67108863], .pr (.bin .add .u32) [.var 67, .var 24], .pr (.bin .shr .u32) [.var 65, .lit 26], .pr (.bin .and .u32) [.var 61, .lit 67108863], .pr (.bin .add .u32) [.var 63, .var 64], .pr (.bin .shl .u32) [.var 59, .lit 6], .pr (.bin .add .u32) [.var 62, .var 21], .pr (.bin .shr .u32) [.var 61, .lit 26], .pr (.bin .add .u32) [.var 18, .var 60], .pr (.bin .mul .u32) [.var 59, .lit 977], .pr (.bin .or .u32) [.var 57, .var 58], .pr (.bin .shr .u32) [.var 41, .lit 22], .pr (.bin .and .u32) [.var 51, .var 56], .app 1 [.var 55, .lit 67108863] 1, .pr (.bin .add .u32) [.var 52, .var 54], .pr (.bin .shr .u32) [.var 53, .lit 26], .pr (.bin .add .u32) [.var 18, .lit 977], .pr (.bin .add .u32) [.var 21, .lit 64], .pr (.bin .and .u32) [.var 43, .var 50], .app 0 [.var 49, .lit 67108863] 1, .pr (.bin .and .u32) [.var 48, .var 24], .pr (.bin .and .u32) [.var 47, .var 27], .pr (.bin .and .u32) [.var 46, .var 30], .pr (.bin .and .u32) [.var 45, .var 33], .pr (.bin .and .u32) [.var 44, .var 36], .pr (.bin .and .u32) [.var 42, .var 39], .app 0 [.var 41, .lit 4194303] 1, .pr (.bin .and .u32) [.var 38, .lit 67108863], .pr (.bin .add .u32) [.var 40, .var 11], .pr (.bin .shr .u32) [.var 38, .lit 26], .pr (.bin .and .u32) [.var 35, .lit 67108863], .pr (.bin .add .u32) [.var 37, .var 8], .pr (.bin .shr .u32) [.var 35, .lit 26], .pr (.bin .and .u32) [.var 32, .lit 67108863], .pr (.bin .add .u32) [.var 34, .var 7], .pr (.bin .shr .u32) [.var 32, .lit 26], .pr (.bin .and .u32) [.var 29, .lit 67108863], .pr (.bin .add .u32) [.var 31, .var 6], .pr (.bin .shr .u32) [.var 29, .lit 26], .pr (.bin .and .u32) [.var 26, .lit 67108863], .pr (.bin .add .u32) [.var 28, .var 5], .pr (.bin .shr .u32) [.var 26, .lit 26], .pr (.bin .and .u32) [.var 23, .lit 67108863], .pr (.bin .add .u32) [.var 25, .var 4], .pr (.bin .shr .u32) [.var 23, .lit 26], .pr (.bin .and .u32) [.var 20, .lit 67108863], .pr (.bin .add .u32) [.var 22, .var 3], .pr (.bin .shr .u32) [.var 20, .lit 26], .pr (.bin .and .u32) [.var 17, .lit 67108863], .pr (.bin .add .u32) [.var 19, .var 2], .pr (.bin .shr .u32) [.var 17, .lit 26], .pr (.bin .and .u32) [.var 13, .lit 67108863], .pr (.bin .add .u32) [.var 15, .var 16], .pr (.bin .shl .u32) [.var 10, .lit 6], .pr (.bin .add .u32) [.var 14, .var 1], .pr (.bin .shr .u32) [.var 13, .lit 26], .pr (.bin .add .u32) [.var 0, .var 12], .pr (.bin .mul .u32) [.var 10, .lit 977], .pr (.bin .and .u32) [.var 9, .lit 4194303], .pr (.bin .shr .u32) [.var 9, .lit 22]], [], [.var 66, .var 69, .var 72, .var 75, .var 78, .var 81, .var 84, .var 87, .var 90, .var 91]⟩
def G_norm : List Entry := [e_eq, e_gt]
def e_norm : Entry := { f := 65, args := [.ptr (List.replicate 10 (some .u32)) true], res := [.arg 0], F := p_norm.out G_norm }
theorem r_norm : runFn Try.prog G_norm e_norm Try.f65.ntmps Try.f65.results.toList (Try.f65.body.getD .skip) = some ([], [p_norm]) := by kernel_rfl
theorem m_norm : Meets Try.prog e_norm :=
  meets_single mixed (fun e he => by
    simp only [G_norm, List.mem_cons, List.not_mem_nil, or_false] at he
    rcases he with rfl | rfl
    · exact m_eq
    · exact m_gt) Try.func65 rfl (by kernel_rfl) r_norm rfl

def p_putb : Path := ⟨[.pr (.conv .u8) [.var 154], .pr (.bin .and .u32) [.var 153, .lit 255], .pr (.bin .shr .u32) [.var 9, .lit 14], .pr (.conv .u8) [.var 151], .pr (.bin .and .u32) [.var 150, .lit 255], .pr (.bin .shr .u32) [.var 9, .lit 6], .pr (.conv .u8) [.var 148], .pr (.bin .or .u32) [.var 145, .var 147], .pr (.bin .shl .u32) [.var 146, .lit 2], .pr (.bin .and .u32) [.var 9, .lit 63], .pr (.bin .and .u32) [.var 144, .lit 3], .pr (.bin .shr .u32) [.var 8, .lit 24], .pr (.conv .u8) [.var 142], .pr (.bin .and .u32) [.var 141, .lit 255], .pr (.bin .shr .u32) [.var 8, .lit 16], .pr (.conv .u8) [.var 139], .pr (.bin .and .u32) [.var 138, .lit 255], .pr (.bin .shr .u32) [.var 8, .lit 8], .pr (.conv .u8) [.var 136], .pr (.bin .and .u32) [.var 8, .lit 255], .pr (.conv .u8) [.var 134], .pr (.bin .and .u32) [.var 133, .lit 255], .pr (.bin .shr .u32) [.var 7, .lit 18], .pr (.conv .u8) [.var 131], .pr (.bin .and .u32) [.var 130, .lit 255], .pr (.bin .shr .u32) [.var 7, .lit 10], .pr (.conv .u8) [.var 128], .pr (.bin .and .u32) [.var 127, .lit 255], .pr (.bin .shr .u32) [.var 7, .lit 2], .pr (.conv .u8) [.var 125], .pr (.bin .or .u32) [.var 122, .var 124], .pr (.bin .shl .u32) [.var 123, .lit 6], .pr (.bin .and .u32) [.var 7, .lit 3], .pr (.bin .and .u32) [.var 121, .lit 63], .pr (.bin .shr .u32) [.var 6, .lit 20], .pr (.conv .u8) [.var 119], .pr (.bin .and .u32) [.var 118, .lit 255], .pr (.bin .shr .u32) [.var 6, .lit 12], .pr (.conv .u8) [.var 116], .pr (.bin .and .u32) [.var 115, .lit 255], .pr (.bin .shr .u32) [.var 6, .lit 4], .pr (.conv .u8) [.var 113], .pr (.bin .or .u32) [.var 110, .var 112], .pr (.bin .shl .u32) [.var 111, .lit 4], .pr (.bin .and .u32) [.var 6, .lit 15], .pr (.bin .and .u32) [.var 109, .lit 15], .pr (.bin .shr .u32) [.var 5, .lit 22], .pr (.conv .u8) [.var 107], .pr (.bin .and .u32) [.var 106, .lit 255], .pr (.bin .shr .u32) [.var 5, .lit 14], .pr (.conv .u8) [.var 104], .pr (.bin .and .u32) [.var 103, .lit 255], .pr (.bin .shr .u32) [.var 5, .lit 6], .pr (.conv .u8) [.var 101], .pr (.bin .or .u32) [.var 98, .var 100], .pr (.bin .shl .u32) [.var 99, .lit 2], .pr (.bin .and .u32) [.var 5, .lit 63], .pr (.bin .and .u32) [.var 97, .lit 3], .pr (.bin .shr .u32) [.var 4, .lit 24], .pr (.conv .u8) [.var 95], .pr (.bin .and .u32) [.var 94, .lit 255], .pr (.bin .shr .u32) [.var 4, .lit 16], .pr (.conv .u8) [.var 92], .pr (.bin .and .u32) [.var 91, .lit 255], .pr (.bin .shr .u32) [.var 4, .lit 8], .pr (.conv .u8) [.var 89], .pr (.bin .and .u32) [.var 4, .lit 255], .pr (.conv .u8) [.var 87], .pr (.bin .and .u32) [.var 86, .lit 255], .pr (.bin .shr .u32) [.var 3, .lit 18], .pr (.conv .u8) [.var 84], .pr (.bin .and .u32) [.var 83, .lit 255], .pr (.bin .shr .u32) [.var 3, .lit 10], .pr (.conv .u8) [.var 81], .pr (.bin .and .u32) [.var 80, .lit 255], .pr (.bin .shr .u32) [.var 3, .lit 2], .pr (.conv .u8) [.var 78], .pr (.bin .or .u32) [.var 75, .var 77], .pr (.bin .shl .u32) [.var 76, .lit 6], .pr (.bin .and .u32) [.var 3, .lit 3], .pr (.bin .and .u32) [.var 74, .lit 63], .pr (.bin .shr .u32) [.var 2, .lit 20], .pr (.conv .u8) [.var 72], .pr (.bin .and .u32) [.var 71, .lit 255], .pr (.bin .shr .u32) [.var 2, .lit 12], .pr (.conv .u8) [.var 69], .pr (.bin .and .u32) [.var 68, .lit 255], .pr (.bin .shr .u32) [.var 2, .lit 4], .pr (.conv .u8) [.var 66], .pr (.bin .or .u32) [.var 63, .var 65], .pr (.bin .shl .u32) [.var 64, .lit 4], .pr (.bin .and .u32) [.var 2, .lit 15], .pr (.bin .and .u32) [.var 62, .lit 15], .pr (.bin .shr .u32) [.var 1, .lit 22], .pr (.conv .u8) [.var 60], .pr (.bin .and .u32) [.var 59, .lit 255], .pr (.bin .shr .u32) [.var 1, .lit 14], .pr (.conv .u8) [.var 57], .pr (.bin .and .u32) [.var 56, .lit 255], .pr (.bin .shr .u32) [.var 1, .lit 6], .pr (.conv .u8) [.var 54], .pr (.bin .or .u32) [.var 51, .var 53], .pr (.bin .shl .u32) [.var 52, .lit 2], .pr (.bin .and .u32) [.var 1, .lit 63], .pr (.bin .and .u32) [.var 50, .lit 3], .pr (.bin .shr .u32) [.var 0, .lit 24], .pr (.conv .u8) [.var 48], .pr (.bin .and .u32) [.var 47, .lit 255], .pr (.bin .shr .u32) [.var 0, .lit 16], .pr (.conv .u8) [.var 45], .pr (.bin .and .u32) [.var 44, .lit 255], .pr (.bin .shr .u32) [.var 0, .lit 8], .pr (.conv .u8) [.var 42], .pr (.bin .and .u32) [.var 0, .lit 255]], [], [.var 155, .var 152, .var 149, .var 143, .var 140, .var 137, .var 135, .var 132, .var 129, .var 126, .var 120, .var 117, .var 114, .var 108, .var 105, .var 102, .var 96, .var 93, .var 90, .var 88, .var 85, .var 82, .var 79, .var 73, .var 70, .var 67, .var 61, .var 58, .var 55, .var 49, .var 46, .var 43]⟩
def G_putb : List Entry := []
def e_putb : Entry := { f := 73, args := [.ptr (List.replicate 10 (some .u32)) false, .slice (List.replicate 32 (some .u8)) 32 true], res := [], F := p_putb.out G_putb }
theorem r_putb : runFn Try.prog G_putb e_putb Try.f73.ntmps Try.f73.results.toList (Try.f73.body.getD .skip) = some ([], [p_putb]) := by kernel_rfl
theorem m_putb : Meets Try.prog e_putb :=
  meets_single mixed (fun e he => by simp [G_putb] at he) Try.func73 rfl (by kernel_rfl) r_putb rfl

def p_bytes : Path := ⟨[.app 0 [.var 0, .var 1, .var 2, .var 3, .var 4, .var 5, .var 6, .var 7, .var 8, .var 9, .lit 0, .lit 0, .lit 0, .lit 0, .lit 0, .lit 0, .lit 0, .lit 0, .lit 0, .lit 0, .lit 0, .lit 0, .lit 0, .lit 0, .lit 0, .lit 0, .lit 0, .lit 0, .lit 0, .lit 0, .lit 0, .lit 0, .lit 0, .lit 0, .lit 0, .lit 0, .lit 0, .lit 0, .lit 0, .lit 0, .lit 0, .lit 0] 32], [], [.var 10, .var 11, .var 12, .var 13, .var 14, .var 15, .var 16, .var 17, .var 18, .var 19, .var 20, .var 21, .var 22, .var 23, .var 24, .var 25, .var 26, .var 27, .var 28, .var 29, .var 30, .var 31, .var 32, .var 33, .var 34, .var 35, .var 36, .var 37, .var 38, .var 39, .var 40, .var 41]⟩
def G_bytes : List Entry := [e_putb]
def e_bytes : Entry := { f := 66, args := [.ptr (List.replicate 10 (some .u32)) false], res := [.new (List.replicate 32 (some .u8))], F := p_bytes.out G_bytes }
theorem r_bytes : runFn Try.prog G_bytes e_bytes Try.f66.ntmps Try.f66.results.toList (Try.f66.body.getD .skip) = some ([], [p_bytes]) := by kernel_rfl
theorem m_bytes : Meets Try.prog e_bytes :=
  meets_single mixed (fun e he => by
    simp only [G_bytes, List.mem_cons, List.not_mem_nil, or_false] at he
    rcases he with rfl
    · exact m_putb) Try.func66 rfl (by kernel_rfl) r_bytes rfl

def p_number : Path := ⟨[.app 1 [.var 10, .var 11, .var 12, .var 13, .var 14, .var 15, .var 16, .var 17, .var 18, .var 19] 32, .app 0 [.var 0, .var 1, .var 2, .var 3, .var 4, .var 5, .var 6, .var 7, .var 8, .var 9] 10], [], [.var 10, .var 11, .var 12, .var 13, .var 14, .var 15, .var 16, .var 17, .var 18, .var 19, .var 20, .var 21, .var 22, .var 23, .var 24, .var 25, .var 26, .var 27, .var 28, .var 29, .var 30, .var 31, .var 32, .var 33, .var 34, .var 35, .var 36, .var 37, .var 38, .var 39, .var 40, .var 41, .var 42, .var 43, .var 44, .var 45, .var 46, .var 47, .var 48, .var 49, .var 50, .var 51]⟩
def G_number : List Entry := [e_norm, e_bytes]
def e_number : Entry := { f := 45, args := [.ptr (List.replicate 10 (some .u32)) true], res := [.agg (List.replicate 32 (some .u8))], F := p_number.out G_number }
theorem r_number : runFn Try.prog G_number e_number Try.f45.ntmps Try.f45.results.toList (Try.f45.body.getD .skip) = some ([], [p_number]) := by kernel_rfl
theorem m_number : Meets Try.prog e_number :=
  meets_single mixed (fun e he => by
    simp only [G_number, List.mem_cons, List.not_mem_nil, or_false] at he
    rcases he with rfl | rfl
    · exact m_norm
    · exact m_bytes) Try.func45 rfl (by kernel_rfl) r_number rfl

def p_fset : Path := ⟨[.app 1 [.var 32, .var 33, .var 34, .var 35, .var 36, .var 37, .var 38, .var 39, .var 40, .var 41] 42, .pr (.bin .neq .u32) [.var 42, .lit 0], .app 0 [.lit 0, .lit 0, .lit 0, .lit 0, .lit 0, .lit 0, .lit 0, .lit 0, .lit 0, .lit 0, .var 0, .var 1, .var 2, .var 3, .var 4, .var 5, .var 6, .var 7, .var 8, .var 9, .var 10, .var 11, .var 12, .var 13, .var 14, .var 15, .var 16, .var 17, .var 18, .var 19, .var 20, .var 21, .var 22, .var 23, .var 24, .var 25, .var 26, .var 27, .var 28, .var 29, .var 30, .var 31] 11], [], [.var 43, .var 54, .var 55, .var 56, .var 57, .var 58, .var 59, .var 60, .var 61, .var 62, .var 63, .var 64, .var 65, .var 66, .var 67, .var 68, .var 69, .var 70, .var 71, .var 72, .var 73, .var 74, .var 75, .var 76, .var 77, .var 78, .var 79, .var 80, .var 81, .var 82, .var 83, .var 84, .var 85]⟩
def G_fset : List Entry := [e_setb, e_number]
def e_fset : Entry := { f := 27, args := [.agg (List.replicate 32 (some .u8))], res := [.bool, .agg (List.replicate 32 (some .u8))], F := p_fset.out G_fset }
theorem r_fset : runFn Try.prog G_fset e_fset Try.f27.ntmps Try.f27.results.toList (Try.f27.body.getD .skip) = some ([], [p_fset]) := by kernel_rfl
theorem m_fset : Meets Try.prog e_fset :=
  meets_single mixed (fun e he => by
    simp only [G_fset, List.mem_cons, List.not_mem_nil, or_false] at he
    rcases he with rfl | rfl
    · exact m_setb
    · exact m_number) Try.func27 rfl (by kernel_rfl) r_fset rfl

def p_over : Path := ⟨[.pr (.bin .or .u32) [.var 29, .var 33], .pr (.bin .and .u32) [.var 31, .var 32], .app 2 [.var 0, .lit 3493216577] 1, .pr (.bin .and .u32) [.var 26, .var 30], .app 0 [.var 1, .lit 3218235020] 1, .pr (.bin .or .u32) [.var 24, .var 28], .pr (.bin .and .u32) [.var 26, .var 27], .app 1 [.var 1, .lit 3218235020] 1, .pr (.bin .and .u32) [.var 21, .var 25], .app 0 [.var 2, .lit 2940772411] 1, .pr (.bin .or .u32) [.var 19, .var 23], .pr (.bin .and .u32) [.var 21, .var 22], .app 1 [.var 2, .lit 2940772411] 1, .pr (.bin .and .u32) [.var 16, .var 20], .app 0 [.var 3, .lit 3132021990] 1, .pr (.bin .or .u32) [.var 14, .var 18], .pr (.bin .and .u32) [.var 16, .var 17], .app 1 [.var 3, .lit 3132021990] 1, .pr (.bin .and .u32) [.var 12, .var 15], .app 0 [.var 4, .lit 4294967294] 1, .pr (.bin .and .u32) [.var 12, .var 13], .app 1 [.var 4, .lit 4294967294] 1, .pr (.bin .and .u32) [.var 10, .var 11], .app 0 [.var 5, .lit 4294967295] 1, .pr (.bin .and .u32) [.var 8, .var 9], .app 0 [.var 6, .lit 4294967295] 1, .app 0 [.var 7, .lit 4294967295] 1], [], [.var 34]⟩
def G_over : List Entry := [e_eq, e_gt, e_ge]
def e_over : Entry := { f := 56, args := [.ptr (List.replicate 8 (some .u32)) false], res := [.int .u32], F := p_over.out G_over }
theorem r_over : runFn Try.prog G_over e_over Try.f56.ntmps Try.f56.results.toList (Try.f56.body.getD .skip) = some ([], [p_over]) := by kernel_rfl
theorem m_over : Meets Try.prog e_over :=
  meets_single mixed (fun e he => by
    simp only [G_over, List.mem_cons, List.not_mem_nil, or_false] at he
    rcases he with rfl | rfl | rfl
    · exact m_eq
    · exact m_gt
    · exact m_ge) Try.func56 rfl (by kernel_rfl) r_over rfl

def p_redu : Path := ⟨[.pr (.conv .u32) [.var 55], .pr (.bin .and .u64) [.var 54, .lit 4294967295], .pr (.bin .add .u64) [.var 52, .var 53], .pr (.conv .u64) [.var 7], .pr (.bin .shr .u64) [.var 49, .lit 32], .pr (.conv .u32) [.var 50], .pr (.bin .and .u64) [.var 49, .lit 4294967295], .pr (.bin .add .u64) [.var 47, .var 48], .pr (.conv .u64) [.var 6], .pr (.bin .shr .u64) [.var 44, .lit 32], .pr (.conv .u32) [.var 45], .pr (.bin .and .u64) [.var 44, .lit 4294967295], .pr (.bin .add .u64) [.var 42, .var 43], .pr (.conv .u64) [.var 5], .pr (.bin .shr .u64) [.var 39, .lit 32], .pr (.conv .u32) [.var 40], .pr (.bin .and .u64) [.var 39, .lit 4294967295], .pr (.bin .add .u64) [.var 38, .var 9], .pr (.bin .add .u64) [.var 36, .var 37], .pr (.conv .u64) [.var 4], .pr (.bin .shr .u64) [.var 33, .lit 32], .pr (.conv .u32) [.var 34], .pr (.bin .and .u64) [.var 33, .lit 4294967295], .pr (.bin .add .u64) [.var 31, .var 32], .pr (.bin .mul .u64) [.var 9, .lit 1162945305], .pr (.bin .add .u64) [.var 29, .var 30], .pr (.conv .u64) [.var 3], .pr (.bin .shr .u64) [.var 26, .lit 32], .pr (.conv .u32) [.var 27], .pr (.bin .and .u64) [.var 26, .lit 4294967295], .pr (.bin .add .u64) [.var 24, .var 25], .pr (.bin .mul .u64) [.var 9, .lit 1354194884], .pr (.bin .add .u64) [.var 22, .var 23], .pr (.conv .u64) [.var 2], .pr (.bin .shr .u64) [.var 19, .lit 32], .pr (.conv .u32) [.var 20], .pr (.bin .and .u64) [.var 19, .lit 4294967295], .pr (.bin .add .u64) [.var 17, .var 18], .pr (.bin .mul .u64) [.var 9, .lit 1076732275], .pr (.bin .add .u64) [.var 15, .var 16], .pr (.conv .u64) [.var 1], .pr (.bin .shr .u64) [.var 12, .lit 32], .pr (.conv .u32) [.var 13], .pr (.bin .and .u64) [.var 12, .lit 4294967295], .pr (.bin .add .u64) [.var 10, .var 11], .pr (.bin .mul .u64) [.var 9, .lit 801750719], .pr (.conv .u64) [.var 0], .pr (.conv .u64) [.var 8]], [], [.var 14, .var 21, .var 28, .var 35, .var 41, .var 46, .var 51, .var 56]⟩
def G_redu : List Entry := []
def e_redu : Entry := { f := 57, args := [.ptr (List.replicate 8 (some .u32)) true, .int .u32], res := [], F := p_redu.out G_redu }
theorem r_redu : runFn Try.prog G_redu e_redu Try.f57.ntmps Try.f57.results.toList (Try.f57.body.getD .skip) = some ([], [p_redu]) := by kernel_rfl
theorem m_redu : Meets Try.prog e_redu :=
  meets_single mixed (fun e he => by simp [G_redu] at he) Try.func57 rfl (by kernel_rfl) r_redu rfl

def p_ssetb : Path := ⟨[.app 1 [.var 49, .var 59, .var 69, .var 79, .var 89, .var 99, .var 109, .var 119, .var 120] 8, .app 0 [.var 49, .var 59, .var 69, .var 79, .var 89, .var 99, .var 109, .var 119] 1, .pr (.bin .or .u32) [.var 116, .var 118], .pr (.bin .shl .u32) [.var 117, .lit 24], .pr (.conv .u32) [.var 8], .pr (.bin .or .u32) [.var 113, .var 115], .pr (.bin .shl .u32) [.var 114, .lit 16], .pr (.conv .u32) [.var 9], .pr (.bin .or .u32) [.var 110, .var 112], .pr (.bin .shl .u32) [.var 111, .lit 8], .pr (.conv .u32) [.var 10], .pr (.conv .u32) [.var 11], .pr (.bin .or .u32) [.var 106, .var 108], .pr (.bin .shl .u32) [.var 107, .lit 24], .pr (.conv .u32) [.var 12], .pr (.bin .or .u32) [.var 103, .var 105], .pr (.bin .shl .u32) [.var 104, .lit 16], .pr (.conv .u32) [.var 13], .pr (.bin .or .u32) [.var 100, .var 102], .pr (.bin .shl .u32) [.var 101, .lit 8], .pr (.conv .u32) [.var 14], .pr (.conv .u32) [.var 15], .pr (.bin .or .u32) [.var 96, .var 98], .pr (.bin .shl .u32) [.var 97, .lit 24], .pr (.conv .u32) [.var 16], .pr (.bin .or .u32) [.var 93, .var 95], .pr (.bin .shl .u32) [.var 94, .lit 16], .pr (.conv .u32) [.var 17], .pr (.bin .or .u32) [.var 90, .var 92], .pr (.bin .shl .u32) [.var 91, .lit 8], .pr (.conv .u32) [.var 18], .pr (.conv .u32) [.var 19], .pr (.bin .or .u32) [.var 86, .var 88], .pr (.bin .shl .u32) [.var 87, .lit 24], .pr (.conv .u32) [.var 20], .pr (.bin .or .u32) [.var 83, .var 85], .pr (.bin .shl .u32) [.var 84, .lit 16], .pr (.conv .u32) [.var 21], .pr (.bin .or .u32) [.var 80, .var 82], .pr (.bin .shl .u32) [.var 81, .lit 8], .pr (.conv .u32) [.var 22], .pr (.conv .u32) [.var 23], .pr (.bin .or .u32) [.var 76, .var 78], .pr (.bin .shl .u32) [.var 77, .lit 24], .pr (.conv .u32) [.var 24], .pr (.bin .or .u32) [.var 73, .var 75], .pr (.bin .shl .u32) [.var 74, .lit 16], .pr (.conv .u32) [.var 25], .pr (.bin .or .u32) [.var 70, .var 72], .pr (.bin .shl .u32) [.var 71, .lit 8], .pr (.conv .u32) [.var 26], .pr (.conv .u32) [.var 27], .pr (.bin .or .u32) [.var 66, .var 68], .pr (.bin .shl .u32) [.var 67, .lit 24], .pr (.conv .u32) [.var 28], .pr (.bin .or .u32) [.var 63, .var 65], .pr (.bin .shl .u32) [.var 64, .lit 16], .pr (.conv .u32) [.var 29], .pr (.bin .or .u32) [.var 60, .var 62], .pr (.bin .shl .u32) [.var 61, .lit 8], .pr (.conv .u32) [.var 30], .pr (.conv .u32) [.var 31], .pr (.bin .or .u32) [.var 56, .var 58], .pr (.bin .shl .u32) [.var 57, .lit 24], .pr (.conv .u32) [.var 32], .pr (.bin .or .u32) [.var 53, .var 55], .pr (.bin .shl .u32) [.var 54, .lit 16], .pr (.conv .u32) [.var 33], .pr (.bin .or .u32) [.var 50, .var 52], .pr (.bin .shl .u32) [.var 51, .lit 8], .pr (.conv .u32) [.var 34], .pr (.conv .u32) [.var 35], .pr (.bin .or .u32) [.var 46, .var 48], .pr (.bin .shl .u32) [.var 47, .lit 24], .pr (.conv .u32) [.var 36], .pr (.bin .or .u32) [.var 43, .var 45], .pr (.bin .shl .u32) [.var 44, .lit 16], .pr (.conv .u32) [.var 37], .pr (.bin .or .u32) [.var 40, .var 42], .pr (.bin .shl .u32) [.var 41, .lit 8], .pr (.conv .u32) [.var 38], .pr (.conv .u32) [.var 39]], [], [.var 121, .var 122, .var 123, .var 124, .var 125, .var 126, .var 127, .var 128, .var 120]⟩
def G_ssetb : List Entry := [e_over, e_redu]
def e_ssetb : Entry := { f := 34, args := [.ptr (List.replicate 8 (some .u32)) true, .ptr (List.replicate 32 (some .u8)) false], res := [.int .u32], F := p_ssetb.out G_ssetb }
theorem r_ssetb : runFn Try.prog G_ssetb e_ssetb Try.f34.ntmps Try.f34.results.toList (Try.f34.body.getD .skip) = some ([], [p_ssetb]) := by kernel_rfl
theorem m_ssetb : Meets Try.prog e_ssetb :=
  meets_single mixed (fun e he => by
    simp only [G_ssetb, List.mem_cons, List.not_mem_nil, or_false] at he
    rcases he with rfl | rfl
    · exact m_over
    · exact m_redu) Try.func34 rfl (by kernel_rfl) r_ssetb rfl

def p_sputb : Path := ⟨[.pr (.conv .u8) [.var 94], .pr (.bin .shr .u32) [.var 7, .lit 24], .pr (.conv .u8) [.var 92], .pr (.bin .shr .u32) [.var 7, .lit 16], .pr (.conv .u8) [.var 90], .pr (.bin .shr .u32) [.var 7, .lit 8], .pr (.conv .u8) [.var 7], .pr (.conv .u8) [.var 87], .pr (.bin .shr .u32) [.var 6, .lit 24], .pr (.conv .u8) [.var 85], .pr (.bin .shr .u32) [.var 6, .lit 16], .pr (.conv .u8) [.var 83], .pr (.bin .shr .u32) [.var 6, .lit 8], .pr (.conv .u8) [.var 6], .pr (.conv .u8) [.var 80], .pr (.bin .shr .u32) [.var 5, .lit 24], .pr (.conv .u8) [.var 78], .pr (.bin .shr .u32) [.var 5, .lit 16], .pr (.conv .u8) [.var 76], .pr (.bin .shr .u32) [.var 5, .lit 8], .pr (.conv .u8) [.var 5], .pr (.conv .u8) [.var 73], .pr (.bin .shr .u32) [.var 4, .lit 24], .pr (.conv .u8) [.var 71], .pr (.bin .shr .u32) [.var 4, .lit 16], .pr (.conv .u8) [.var 69], .pr (.bin .shr .u32) [.var 4, .lit 8], .pr (.conv .u8) [.var 4], .pr (.conv .u8) [.var 66], .pr (.bin .shr .u32) [.var 3, .lit 24], .pr (.conv .u8) [.var 64], .pr (.bin .shr .u32) [.var 3, .lit 16], .pr (.conv .u8) [.var 62], .pr (.bin .shr .u32) [.var 3, .lit 8], .pr (.conv .u8) [.var 3], .pr (.conv .u8) [.var 59], .pr (.bin .shr .u32) [.var 2, .lit 24], .pr (.conv .u8) [.var 57], .pr (.bin .shr .u32) [.var 2, .lit 16], .pr (.conv .u8) [.var 55], .pr (.bin .shr .u32) [.var 2, .lit 8], .pr (.conv .u8) [.var 2], .pr (.conv .u8) [.var 52], .pr (.bin .shr .u32) [.var 1, .lit 24], .pr (.conv .u8) [.var 50], .pr (.bin .shr .u32) [.var 1, .lit 16], .pr (.conv .u8) [.var 48], .pr (.bin .shr .u32) [.var 1, .lit 8], .pr (.conv .u8) [.var 1], .pr (.conv .u8) [.var 45], .pr (.bin .shr .u32) [.var 0, .lit 24], .pr (.conv .u8) [.var 43], .pr (.bin .shr .u32) [.var 0, .lit 16], .pr (.conv .u8) [.var 41], .pr (.bin .shr .u32) [.var 0, .lit 8], .pr (.conv .u8) [.var 0]], [], [.var 95, .var 93, .var 91, .var 89, .var 88, .var 86, .var 84, .var 82, .var 81, .var 79, .var 77, .var 75, .var 74, .var 72, .var 70, .var 68, .var 67, .var 65, .var 63, .var 61, .var 60, .var 58, .var 56, .var 54, .var 53, .var 51, .var 49, .var 47, .var 46, .var 44, .var 42, .var 40]⟩
def G_sputb : List Entry := []
def e_sputb : Entry := { f := 58, args := [.ptr (List.replicate 8 (some .u32)) false, .slice (List.replicate 32 (some .u8)) 32 true], res := [], F := p_sputb.out G_sputb }
theorem r_sputb : runFn Try.prog G_sputb e_sputb Try.f58.ntmps Try.f58.results.toList (Try.f58.body.getD .skip) = some ([], [p_sputb]) := by kernel_rfl
theorem m_sputb : Meets Try.prog e_sputb :=
  meets_single mixed (fun e he => by simp [G_sputb] at he) Try.func58 rfl (by kernel_rfl) r_sputb rfl

def p_sbytes : Path := ⟨[.app 0 [.var 0, .var 1, .var 2, .var 3, .var 4, .var 5, .var 6, .var 7, .lit 0, .lit 0, .lit 0, .lit 0, .lit 0, .lit 0, .lit 0, .lit 0, .lit 0, .lit 0, .lit 0, .lit 0, .lit 0, .lit 0, .lit 0, .lit 0, .lit 0, .lit 0, .lit 0, .lit 0, .lit 0, .lit 0, .lit 0, .lit 0, .lit 0, .lit 0, .lit 0, .lit 0, .lit 0, .lit 0, .lit 0, .lit 0] 32], [], [.var 8, .var 9, .var 10, .var 11, .var 12, .var 13, .var 14, .var 15, .var 16, .var 17, .var 18, .var 19, .var 20, .var 21, .var 22, .var 23, .var 24, .var 25, .var 26, .var 27, .var 28, .var 29, .var 30, .var 31, .var 32, .var 33, .var 34, .var 35, .var 36, .var 37, .var 38, .var 39]⟩
def G_sbytes : List Entry := [e_sputb]
def e_sbytes : Entry := { f := 35, args := [.ptr (List.replicate 8 (some .u32)) false], res := [.agg (List.replicate 32 (some .u8))], F := p_sbytes.out G_sbytes }
theorem r_sbytes : runFn Try.prog G_sbytes e_sbytes Try.f35.ntmps Try.f35.results.toList (Try.f35.body.getD .skip) = some ([], [p_sbytes]) := by kernel_rfl
theorem m_sbytes : Meets Try.prog e_sbytes :=
  meets_single mixed (fun e he => by
    simp only [G_sbytes, List.mem_cons, List.not_mem_nil, or_false] at he
    rcases he with rfl
    · exact m_sputb) Try.func35 rfl (by kernel_rfl) r_sbytes rfl

def p_sset : Path := ⟨[.app 1 [.var 32, .var 33, .var 34, .var 35, .var 36, .var 37, .var 38, .var 39] 32, .pr (.bin .neq .u32) [.var 40, .lit 0], .app 0 [.lit 0, .lit 0, .lit 0, .lit 0, .lit 0, .lit 0, .lit 0, .lit 0, .var 0, .var 1, .var 2, .var 3, .var 4, .var 5, .var 6, .var 7, .var 8, .var 9, .var 10, .var 11, .var 12, .var 13, .var 14, .var 15, .var 16, .var 17, .var 18, .var 19, .var 20, .var 21, .var 22, .var 23, .var 24, .var 25, .var 26, .var 27, .var 28, .var 29, .var 30, .var 31] 9], [], [.var 41, .var 42, .var 43, .var 44, .var 45, .var 46, .var 47, .var 48, .var 49, .var 50, .var 51, .var 52, .var 53, .var 54, .var 55, .var 56, .var 57, .var 58, .var 59, .var 60, .var 61, .var 62, .var 63, .var 64, .var 65, .var 66, .var 67, .var 68, .var 69, .var 70, .var 71, .var 72, .var 73]⟩
def G_sset : List Entry := [e_ssetb, e_sbytes]
def e_sset : Entry := { f := 14, args := [.agg (List.replicate 32 (some .u8))], res := [.bool, .agg (List.replicate 32 (some .u8))], F := p_sset.out G_sset }
theorem r_sset : runFn Try.prog G_sset e_sset Try.f14.ntmps Try.f14.results.toList (Try.f14.body.getD .skip) = some ([], [p_sset]) := by kernel_rfl
theorem m_sset : Meets Try.prog e_sset :=
  meets_single mixed (fun e he => by
    simp only [G_sset, List.mem_cons, List.not_mem_nil, or_false] at he
    rcases he with rfl | rfl
    · exact m_ssetb
    · exact m_sbytes) Try.func14 rfl (by kernel_rfl) r_sset rfl

end Go.Proofs.Ytbffnmoklpapiaa.Sx
