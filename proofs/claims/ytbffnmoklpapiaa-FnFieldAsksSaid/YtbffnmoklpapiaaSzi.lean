/-
  Contracts of functions that ask. Printed by gen.py. Conditions: none; each theorem bears its own.
-/
import Derived.Test.YtbffnmoklpapiaaSzg
namespace Go.Proofs.Ytbffnmoklpapiaa.Sx
open Go Go.Proofs

def p_field : Path := ⟨[.app 1 [.var 32, .var 33, .var 34, .var 35, .var 36, .var 37, .var 38, .var 39, .var 40, .var 41] 10, .app 0 [.lit 0, .lit 0, .lit 0, .lit 0, .lit 0, .lit 0, .lit 0, .lit 0, .lit 0, .lit 0, .var 0, .var 1, .var 2, .var 3, .var 4, .var 5, .var 6, .var 7, .var 8, .var 9, .var 10, .var 11, .var 12, .var 13, .var 14, .var 15, .var 16, .var 17, .var 18, .var 19, .var 20, .var 21, .var 22, .var 23, .var 24, .var 25, .var 26, .var 27, .var 28, .var 29, .var 30, .var 31] 11], [], [.var 43, .var 44, .var 45, .var 46, .var 47, .var 48, .var 49, .var 50, .var 51, .var 52]⟩
def G_field : List Entry := [e_setb, e_norm]
def e_field : Entry := { f := 47, args := [.agg (List.replicate 32 (some .u8))], res := [.new (List.replicate 10 (some .u32))], F := p_field.out G_field }
theorem r_field : runFn Try.prog G_field e_field Try.f47.ntmps Try.f47.results.toList (Try.f47.body.getD .skip) = some ([], [p_field]) := by kernel_rfl
theorem m_field : Meets Try.prog e_field :=
  meets_single mixed (fun e he => by
    simp only [G_field, List.mem_cons, List.not_mem_nil, or_false] at he
    rcases he with rfl | rfl
    · exact m_setb
    · exact m_norm) Try.func47 rfl (by kernel_rfl) r_field rfl

def p_scalar : Path := ⟨[.app 0 [.lit 0, .lit 0, .lit 0, .lit 0, .lit 0, .lit 0, .lit 0, .lit 0, .var 0, .var 1, .var 2, .var 3, .var 4, .var 5, .var 6, .var 7, .var 8, .var 9, .var 10, .var 11, .var 12, .var 13, .var 14, .var 15, .var 16, .var 17, .var 18, .var 19, .var 20, .var 21, .var 22, .var 23, .var 24, .var 25, .var 26, .var 27, .var 28, .var 29, .var 30, .var 31] 9], [], [.var 32, .var 33, .var 34, .var 35, .var 36, .var 37, .var 38, .var 39]⟩
def G_scalar : List Entry := [e_ssetb]
def e_scalar : Entry := { f := 36, args := [.agg (List.replicate 32 (some .u8))], res := [.new (List.replicate 8 (some .u32))], F := p_scalar.out G_scalar }
theorem r_scalar : runFn Try.prog G_scalar e_scalar Try.f36.ntmps Try.f36.results.toList (Try.f36.body.getD .skip) = some ([], [p_scalar]) := by kernel_rfl
theorem m_scalar : Meets Try.prog e_scalar :=
  meets_single mixed (fun e he => by
    simp only [G_scalar, List.mem_cons, List.not_mem_nil, or_false] at he
    rcases he with rfl
    · exact m_ssetb) Try.func36 rfl (by kernel_rfl) r_scalar rfl

def p_isz : Path := ⟨[.pr (.bin .eql .u32) [.var 18, .lit 0], .pr (.bin .or .u32) [.var 17, .var 9], .pr (.bin .or .u32) [.var 16, .var 8], .pr (.bin .or .u32) [.var 15, .var 7], .pr (.bin .or .u32) [.var 14, .var 6], .pr (.bin .or .u32) [.var 13, .var 5], .pr (.bin .or .u32) [.var 12, .var 4], .pr (.bin .or .u32) [.var 11, .var 3], .pr (.bin .or .u32) [.var 10, .var 2], .pr (.bin .or .u32) [.var 0, .var 1]], [], [.var 19]⟩
def G_isz : List Entry := []
def e_isz : Entry := { f := 48, args := [.ptr (List.replicate 10 (some .u32)) false], res := [.bool], F := p_isz.out G_isz }
theorem r_isz : runFn Try.prog G_isz e_isz Try.f48.ntmps Try.f48.results.toList (Try.f48.body.getD .skip) = some ([], [p_isz]) := by kernel_rfl
theorem m_isz : Meets Try.prog e_isz :=
  meets_single mixed (fun e he => by simp [G_isz] at he) Try.func48 rfl (by kernel_rfl) r_isz rfl

def p_iso : Path := ⟨[.pr (.bin .eql .u32) [.var 19, .lit 0], .pr (.bin .or .u32) [.var 18, .var 9], .pr (.bin .or .u32) [.var 17, .var 8], .pr (.bin .or .u32) [.var 16, .var 7], .pr (.bin .or .u32) [.var 15, .var 6], .pr (.bin .or .u32) [.var 14, .var 5], .pr (.bin .or .u32) [.var 13, .var 4], .pr (.bin .or .u32) [.var 12, .var 3], .pr (.bin .or .u32) [.var 11, .var 2], .pr (.bin .or .u32) [.var 10, .var 1], .pr (.bin .xor .u32) [.var 0, .lit 1]], [], [.var 20]⟩
def G_iso : List Entry := []
def e_iso : Entry := { f := 49, args := [.ptr (List.replicate 10 (some .u32)) false], res := [.bool], F := p_iso.out G_iso }
theorem r_iso : runFn Try.prog G_iso e_iso Try.f49.ntmps Try.f49.results.toList (Try.f49.body.getD .skip) = some ([], [p_iso]) := by kernel_rfl
theorem m_iso : Meets Try.prog e_iso :=
  meets_single mixed (fun e he => by simp [G_iso] at he) Try.func49 rfl (by kernel_rfl) r_iso rfl

def p_isd : Path := ⟨[.pr (.bin .eql .u32) [.var 10, .lit 1], .pr (.bin .and .u32) [.var 0, .lit 1]], [], [.var 11]⟩
def G_isd : List Entry := []
def e_isd : Entry := { f := 50, args := [.ptr (List.replicate 10 (some .u32)) false], res := [.bool], F := p_isd.out G_isd }
theorem r_isd : runFn Try.prog G_isd e_isd Try.f50.ntmps Try.f50.results.toList (Try.f50.body.getD .skip) = some ([], [p_isd]) := by kernel_rfl
theorem m_isd : Meets Try.prog e_isd :=
  meets_single mixed (fun e he => by simp [G_isd] at he) Try.func50 rfl (by kernel_rfl) r_isd rfl

def p_equ : Path := ⟨[.pr (.bin .eql .u32) [.var 38, .lit 0], .pr (.bin .or .u32) [.var 36, .var 37], .pr (.bin .xor .u32) [.var 9, .var 19], .pr (.bin .or .u32) [.var 34, .var 35], .pr (.bin .xor .u32) [.var 8, .var 18], .pr (.bin .or .u32) [.var 32, .var 33], .pr (.bin .xor .u32) [.var 7, .var 17], .pr (.bin .or .u32) [.var 30, .var 31], .pr (.bin .xor .u32) [.var 6, .var 16], .pr (.bin .or .u32) [.var 28, .var 29], .pr (.bin .xor .u32) [.var 5, .var 15], .pr (.bin .or .u32) [.var 26, .var 27], .pr (.bin .xor .u32) [.var 4, .var 14], .pr (.bin .or .u32) [.var 24, .var 25], .pr (.bin .xor .u32) [.var 3, .var 13], .pr (.bin .or .u32) [.var 22, .var 23], .pr (.bin .xor .u32) [.var 2, .var 12], .pr (.bin .or .u32) [.var 20, .var 21], .pr (.bin .xor .u32) [.var 1, .var 11], .pr (.bin .xor .u32) [.var 0, .var 10]], [], [.var 39]⟩
def G_equ : List Entry := []
def e_equ : Entry := { f := 51, args := [.ptr (List.replicate 10 (some .u32)) false, .ptr (List.replicate 10 (some .u32)) false], res := [.bool], F := p_equ.out G_equ }
theorem r_equ : runFn Try.prog G_equ e_equ Try.f51.ntmps Try.f51.results.toList (Try.f51.body.getD .skip) = some ([], [p_equ]) := by kernel_rfl
theorem m_equ : Meets Try.prog e_equ :=
  meets_single mixed (fun e he => by simp [G_equ] at he) Try.func51 rfl (by kernel_rfl) r_equ rfl

def p_far : Path := ⟨[.pr (.bin .neq .u32) [.var 54, .lit 0], .pr (.bin .or .u32) [.var 49, .var 53], .pr (.bin .and .u32) [.var 51, .var 52], .app 2 [.var 0, .lit 63552238] 1, .pr (.bin .and .u32) [.var 46, .var 50], .app 0 [.var 1, .lit 57171083] 1, .pr (.bin .or .u32) [.var 44, .var 48], .pr (.bin .and .u32) [.var 46, .var 47], .app 1 [.var 1, .lit 57171083] 1, .pr (.bin .and .u32) [.var 41, .var 45], .app 0 [.var 2, .lit 33309698] 1, .pr (.bin .or .u32) [.var 39, .var 43], .pr (.bin .and .u32) [.var 41, .var 42], .app 1 [.var 2, .lit 33309698] 1, .pr (.bin .and .u32) [.var 36, .var 40], .app 0 [.var 3, .lit 6636253] 1, .pr (.bin .or .u32) [.var 34, .var 38], .pr (.bin .and .u32) [.var 36, .var 37], .app 1 [.var 3, .lit 6636253] 1, .pr (.bin .and .u32) [.var 31, .var 35], .app 0 [.var 4, .lit 21319971] 1, .pr (.bin .or .u32) [.var 29, .var 33], .pr (.bin .and .u32) [.var 31, .var 32], .app 1 [.var 4, .lit 21319971] 1, .pr (.bin .and .u32) [.var 26, .var 30], .app 0 [.var 5, .lit 0] 1, .pr (.bin .or .u32) [.var 24, .var 28], .pr (.bin .and .u32) [.var 26, .var 27], .app 1 [.var 5, .lit 0] 1, .pr (.bin .and .u32) [.var 21, .var 25], .app 0 [.var 6, .lit 0] 1, .pr (.bin .or .u32) [.var 19, .var 23], .pr (.bin .and .u32) [.var 21, .var 22], .app 1 [.var 6, .lit 0] 1, .pr (.bin .and .u32) [.var 16, .var 20], .app 0 [.var 7, .lit 0] 1, .pr (.bin .or .u32) [.var 14, .var 18], .pr (.bin .and .u32) [.var 16, .var 17], .app 1 [.var 7, .lit 0] 1, .pr (.bin .and .u32) [.var 11, .var 15], .app 0 [.var 8, .lit 0] 1, .pr (.bin .or .u32) [.var 10, .var 13], .pr (.bin .and .u32) [.var 11, .var 12], .app 1 [.var 8, .lit 0] 1, .app 0 [.var 9, .lit 0] 1, .app 1 [.var 9, .lit 0] 1], [], [.var 55]⟩
def G_far : List Entry := [e_eq, e_gt, e_ge]
def e_far : Entry := { f := 52, args := [.ptr (List.replicate 10 (some .u32)) false], res := [.bool], F := p_far.out G_far }
theorem r_far : runFn Try.prog G_far e_far Try.f52.ntmps Try.f52.results.toList (Try.f52.body.getD .skip) = some ([], [p_far]) := by kernel_rfl
theorem m_far : Meets Try.prog e_far :=
  meets_single mixed (fun e he => by
    simp only [G_far, List.mem_cons, List.not_mem_nil, or_false] at he
    rcases he with rfl | rfl | rfl
    · exact m_eq
    · exact m_gt
    · exact m_ge) Try.func52 rfl (by kernel_rfl) r_far rfl

def p_sisz : Path := ⟨[.pr (.bin .eql .u32) [.var 14, .lit 0], .pr (.bin .or .u32) [.var 13, .var 7], .pr (.bin .or .u32) [.var 12, .var 6], .pr (.bin .or .u32) [.var 11, .var 5], .pr (.bin .or .u32) [.var 10, .var 4], .pr (.bin .or .u32) [.var 9, .var 3], .pr (.bin .or .u32) [.var 8, .var 2], .pr (.bin .or .u32) [.var 0, .var 1]], [], [.var 15]⟩
def G_sisz : List Entry := []
def e_sisz : Entry := { f := 37, args := [.ptr (List.replicate 8 (some .u32)) false], res := [.bool], F := p_sisz.out G_sisz }
theorem r_sisz : runFn Try.prog G_sisz e_sisz Try.f37.ntmps Try.f37.results.toList (Try.f37.body.getD .skip) = some ([], [p_sisz]) := by kernel_rfl
theorem m_sisz : Meets Try.prog e_sisz :=
  meets_single mixed (fun e he => by simp [G_sisz] at he) Try.func37 rfl (by kernel_rfl) r_sisz rfl

def p_sisd : Path := ⟨[.pr (.bin .eql .u32) [.var 8, .lit 1], .pr (.bin .and .u32) [.var 0, .lit 1]], [], [.var 9]⟩
def G_sisd : List Entry := []
def e_sisd : Entry := { f := 38, args := [.ptr (List.replicate 8 (some .u32)) false], res := [.bool], F := p_sisd.out G_sisd }
theorem r_sisd : runFn Try.prog G_sisd e_sisd Try.f38.ntmps Try.f38.results.toList (Try.f38.body.getD .skip) = some ([], [p_sisd]) := by kernel_rfl
theorem m_sisd : Meets Try.prog e_sisd :=
  meets_single mixed (fun e he => by simp [G_sisd] at he) Try.func38 rfl (by kernel_rfl) r_sisd rfl

def p_sequ : Path := ⟨[.pr (.bin .eql .u32) [.var 30, .lit 0], .pr (.bin .or .u32) [.var 28, .var 29], .pr (.bin .xor .u32) [.var 7, .var 15], .pr (.bin .or .u32) [.var 26, .var 27], .pr (.bin .xor .u32) [.var 6, .var 14], .pr (.bin .or .u32) [.var 24, .var 25], .pr (.bin .xor .u32) [.var 5, .var 13], .pr (.bin .or .u32) [.var 22, .var 23], .pr (.bin .xor .u32) [.var 4, .var 12], .pr (.bin .or .u32) [.var 20, .var 21], .pr (.bin .xor .u32) [.var 3, .var 11], .pr (.bin .or .u32) [.var 18, .var 19], .pr (.bin .xor .u32) [.var 2, .var 10], .pr (.bin .or .u32) [.var 16, .var 17], .pr (.bin .xor .u32) [.var 1, .var 9], .pr (.bin .xor .u32) [.var 0, .var 8]], [], [.var 31]⟩
def G_sequ : List Entry := []
def e_sequ : Entry := { f := 40, args := [.ptr (List.replicate 8 (some .u32)) false, .ptr (List.replicate 8 (some .u32)) false], res := [.bool], F := p_sequ.out G_sequ }
theorem r_sequ : runFn Try.prog G_sequ e_sequ Try.f40.ntmps Try.f40.results.toList (Try.f40.body.getD .skip) = some ([], [p_sequ]) := by kernel_rfl
theorem m_sequ : Meets Try.prog e_sequ :=
  meets_single mixed (fun e he => by simp [G_sequ] at he) Try.func40 rfl (by kernel_rfl) r_sequ rfl

def p_shi : Path := ⟨[.pr (.bin .neq .u32) [.var 33, .lit 0], .pr (.bin .or .u32) [.var 28, .var 32], .pr (.bin .and .u32) [.var 30, .var 31], .app 1 [.var 0, .lit 1746608288] 1, .pr (.bin .and .u32) [.var 25, .var 29], .app 0 [.var 1, .lit 3756601158] 1, .pr (.bin .or .u32) [.var 23, .var 27], .pr (.bin .and .u32) [.var 25, .var 26], .app 1 [.var 1, .lit 3756601158] 1, .pr (.bin .and .u32) [.var 20, .var 24], .app 0 [.var 2, .lit 1470386205] 1, .pr (.bin .or .u32) [.var 18, .var 22], .pr (.bin .and .u32) [.var 20, .var 21], .app 1 [.var 2, .lit 1470386205] 1, .pr (.bin .and .u32) [.var 15, .var 19], .app 0 [.var 3, .lit 1566010995] 1, .pr (.bin .or .u32) [.var 8, .var 17], .pr (.bin .and .u32) [.var 15, .var 16], .app 1 [.var 3, .lit 1566010995] 1, .pr (.bin .and .u32) [.var 13, .var 14], .app 0 [.var 4, .lit 4294967295] 1, .pr (.bin .and .u32) [.var 11, .var 12], .app 0 [.var 5, .lit 4294967295] 1, .pr (.bin .and .u32) [.var 9, .var 10], .app 0 [.var 6, .lit 4294967295] 1, .app 0 [.var 7, .lit 2147483647] 1, .app 1 [.var 7, .lit 2147483647] 1], [], [.var 34]⟩
def G_shi : List Entry := [e_eq, e_gt, e_ge]
def e_shi : Entry := { f := 39, args := [.ptr (List.replicate 8 (some .u32)) false], res := [.bool], F := p_shi.out G_shi }
theorem r_shi : runFn Try.prog G_shi e_shi Try.f39.ntmps Try.f39.results.toList (Try.f39.body.getD .skip) = some ([], [p_shi]) := by kernel_rfl
theorem m_shi : Meets Try.prog e_shi :=
  meets_single mixed (fun e he => by
    simp only [G_shi, List.mem_cons, List.not_mem_nil, or_false] at he
    rcases he with rfl | rfl | rfl
    · exact m_eq
    · exact m_gt
    · exact m_ge) Try.func39 rfl (by kernel_rfl) r_shi rfl

def p_uzer : Path := ⟨[.pr (.eqs [false, false, false, false]) [.var 0, .lit 0, .var 1, .lit 0, .var 2, .lit 0, .var 3, .lit 0]], [], [.var 4]⟩
def G_uzer : List Entry := []
def e_uzer : Entry := { f := 21, args := [.agg (List.replicate 4 (some .u64))], res := [.bool], F := p_uzer.out G_uzer }
theorem r_uzer : runFn Try.prog G_uzer e_uzer Try.f21.ntmps Try.f21.results.toList (Try.f21.body.getD .skip) = some ([], [p_uzer]) := by kernel_rfl
theorem m_uzer : Meets Try.prog e_uzer :=
  meets_single mixed (fun e he => by simp [G_uzer] at he) Try.func21 rfl (by kernel_rfl) r_uzer rfl

def p_uodd : Path := ⟨[.pr (.bin .eql .u64) [.var 4, .lit 1], .pr (.bin .rem .u64) [.var 0, .lit 2]], [], [.var 5]⟩
def G_uodd : List Entry := []
def e_uodd : Entry := { f := 22, args := [.agg (List.replicate 4 (some .u64))], res := [.bool], F := p_uodd.out G_uodd }
theorem r_uodd : runFn Try.prog G_uodd e_uodd Try.f22.ntmps Try.f22.results.toList (Try.f22.body.getD .skip) = some ([], [p_uodd]) := by kernel_rfl
theorem m_uodd : Meets Try.prog e_uodd :=
  meets_single mixed (fun e he => by simp [G_uodd] at he) Try.func22 rfl (by kernel_rfl) r_uodd rfl

def p_half : Path := ⟨[.pr (.bin .or .u64) [.var 14, .var 15], .pr (.bin .shl .u64) [.var 4, .lit 63], .pr (.bin .shr .u64) [.var 3, .lit 1], .pr (.bin .or .u64) [.var 11, .var 12], .pr (.bin .shl .u64) [.var 3, .lit 63], .pr (.bin .shr .u64) [.var 2, .lit 1], .pr (.bin .or .u64) [.var 8, .var 9], .pr (.bin .shl .u64) [.var 2, .lit 63], .pr (.bin .shr .u64) [.var 1, .lit 1], .pr (.bin .or .u64) [.var 5, .var 6], .pr (.bin .shl .u64) [.var 1, .lit 63], .pr (.bin .shr .u64) [.var 0, .lit 1]], [], [.var 7, .var 10, .var 13, .var 16]⟩
def G_half : List Entry := []
def e_half : Entry := { f := 41, args := [.agg (List.replicate 4 (some .u64)), .int .u64], res := [.agg (List.replicate 4 (some .u64))], F := p_half.out G_half }
theorem r_half : runFn Try.prog G_half e_half Try.f41.ntmps Try.f41.results.toList (Try.f41.body.getD .skip) = some ([], [p_half]) := by kernel_rfl
theorem m_half : Meets Try.prog e_half :=
  meets_single mixed (fun e he => by simp [G_half] at he) Try.func41 rfl (by kernel_rfl) r_half rfl

def p_low : Path := ⟨[.pr (.neg) [.var 16], .app 3 [.var 12, .var 13, .var 14, .var 15, .var 0, .var 1, .var 2, .var 3] 1, .app 2 [.var 8, .var 9, .var 10, .var 11, .lit 0] 4, .app 1 [.var 4, .var 5, .var 6, .var 7, .lit 1, .lit 0, .lit 0, .lit 0] 4, .app 0 [] 4], [], [.var 17]⟩
def G_low : List Entry := [e_order, e_lof, e_half, e_uless]
def e_low : Entry := { f := 23, args := [.agg (List.replicate 4 (some .u64))], res := [.bool], F := p_low.out G_low }
theorem r_low : runFn Try.prog G_low e_low Try.f23.ntmps Try.f23.results.toList (Try.f23.body.getD .skip) = some ([], [p_low]) := by kernel_rfl
theorem m_low : Meets Try.prog e_low :=
  meets_single mixed (fun e he => by
    simp only [G_low, List.mem_cons, List.not_mem_nil, or_false] at he
    rcases he with rfl | rfl | rfl | rfl
    · exact m_order
    · exact m_lof
    · exact m_half
    · exact m_uless) Try.func23 rfl (by kernel_rfl) r_low rfl

def p_fasks : Path := ⟨[.app 5 [.var 64, .var 65, .var 66, .var 67, .var 68, .var 69, .var 70, .var 71, .var 72, .var 73] 1, .app 4 [.var 64, .var 65, .var 66, .var 67, .var 68, .var 69, .var 70, .var 71, .var 72, .var 73, .var 74, .var 75, .var 76, .var 77, .var 78, .var 79, .var 80, .var 81, .var 82, .var 83] 1, .app 3 [.var 64, .var 65, .var 66, .var 67, .var 68, .var 69, .var 70, .var 71, .var 72, .var 73] 1, .app 2 [.var 64, .var 65, .var 66, .var 67, .var 68, .var 69, .var 70, .var 71, .var 72, .var 73] 1, .app 1 [.var 64, .var 65, .var 66, .var 67, .var 68, .var 69, .var 70, .var 71, .var 72, .var 73] 1, .app 0 [.var 32, .var 33, .var 34, .var 35, .var 36, .var 37, .var 38, .var 39, .var 40, .var 41, .var 42, .var 43, .var 44, .var 45, .var 46, .var 47, .var 48, .var 49, .var 50, .var 51, .var 52, .var 53, .var 54, .var 55, .var 56, .var 57, .var 58, .var 59, .var 60, .var 61, .var 62, .var 63] 10, .app 0 [.var 0, .var 1, .var 2, .var 3, .var 4, .var 5, .var 6, .var 7, .var 8, .var 9, .var 10, .var 11, .var 12, .var 13, .var 14, .var 15, .var 16, .var 17, .var 18, .var 19, .var 20, .var 21, .var 22, .var 23, .var 24, .var 25, .var 26, .var 27, .var 28, .var 29, .var 30, .var 31] 10], [], [.var 84, .var 85, .var 86, .var 87, .var 88]⟩
def G_fasks : List Entry := [e_field, e_isz, e_iso, e_isd, e_equ, e_far]
def e_fasks : Entry := { f := 31, args := [.agg (List.replicate 32 (some .u8)), .agg (List.replicate 32 (some .u8))], res := [.bool, .bool, .bool, .bool, .bool], F := p_fasks.out G_fasks }
theorem r_fasks : runFn Try.prog G_fasks e_fasks Try.f31.ntmps Try.f31.results.toList (Try.f31.body.getD .skip) = some ([], [p_fasks]) := by kernel_rfl
theorem m_fasks : Meets Try.prog e_fasks :=
  meets_single mixed (fun e he => by
    simp only [G_fasks, List.mem_cons, List.not_mem_nil, or_false] at he
    rcases he with rfl | rfl | rfl | rfl | rfl | rfl
    · exact m_field
    · exact m_isz
    · exact m_iso
    · exact m_isd
    · exact m_equ
    · exact m_far) Try.func31 rfl (by kernel_rfl) r_fasks rfl

def p_sasks : Path := ⟨[.app 3 [.var 64, .var 65, .var 66, .var 67, .var 68, .var 69, .var 70, .var 71, .var 72, .var 73, .var 74, .var 75, .var 76, .var 77, .var 78, .var 79] 1, .app 4 [.var 64, .var 65, .var 66, .var 67, .var 68, .var 69, .var 70, .var 71] 1, .app 2 [.var 64, .var 65, .var 66, .var 67, .var 68, .var 69, .var 70, .var 71] 1, .app 1 [.var 64, .var 65, .var 66, .var 67, .var 68, .var 69, .var 70, .var 71] 1, .app 0 [.var 32, .var 33, .var 34, .var 35, .var 36, .var 37, .var 38, .var 39, .var 40, .var 41, .var 42, .var 43, .var 44, .var 45, .var 46, .var 47, .var 48, .var 49, .var 50, .var 51, .var 52, .var 53, .var 54, .var 55, .var 56, .var 57, .var 58, .var 59, .var 60, .var 61, .var 62, .var 63] 8, .app 0 [.var 0, .var 1, .var 2, .var 3, .var 4, .var 5, .var 6, .var 7, .var 8, .var 9, .var 10, .var 11, .var 12, .var 13, .var 14, .var 15, .var 16, .var 17, .var 18, .var 19, .var 20, .var 21, .var 22, .var 23, .var 24, .var 25, .var 26, .var 27, .var 28, .var 29, .var 30, .var 31] 8], [], [.var 80, .var 81, .var 82, .var 83]⟩
def G_sasks : List Entry := [e_scalar, e_sisz, e_sisd, e_sequ, e_shi]
def e_sasks : Entry := { f := 20, args := [.agg (List.replicate 32 (some .u8)), .agg (List.replicate 32 (some .u8))], res := [.bool, .bool, .bool, .bool], F := p_sasks.out G_sasks }
theorem r_sasks : runFn Try.prog G_sasks e_sasks Try.f20.ntmps Try.f20.results.toList (Try.f20.body.getD .skip) = some ([], [p_sasks]) := by kernel_rfl
theorem m_sasks : Meets Try.prog e_sasks :=
  meets_single mixed (fun e he => by
    simp only [G_sasks, List.mem_cons, List.not_mem_nil, or_false] at he
    rcases he with rfl | rfl | rfl | rfl | rfl
    · exact m_scalar
    · exact m_sisz
    · exact m_sisd
    · exact m_sequ
    · exact m_shi) Try.func20 rfl (by kernel_rfl) r_sasks rfl

end Go.Proofs.Ytbffnmoklpapiaa.Sx
