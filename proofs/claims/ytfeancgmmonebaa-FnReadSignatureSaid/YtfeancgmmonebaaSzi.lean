/-
  Contracts of functions that ask. Printed by gen.py. Conditions: none; each theorem bears its own.
-/
import Derived.Test.YtfeancgmmonebaaSzg
namespace Go.Proofs.Ytfeancgmmonebaa.Sx
open Go Go.Proofs

def p_field : Path := ⟨[.app 1 [.var 32, .var 33, .var 34, .var 35, .var 36, .var 37, .var 38, .var 39, .var 40, .var 41] 10, .app 0 [.lit 0, .lit 0, .lit 0, .lit 0, .lit 0, .lit 0, .lit 0, .lit 0, .lit 0, .lit 0, .var 0, .var 1, .var 2, .var 3, .var 4, .var 5, .var 6, .var 7, .var 8, .var 9, .var 10, .var 11, .var 12, .var 13, .var 14, .var 15, .var 16, .var 17, .var 18, .var 19, .var 20, .var 21, .var 22, .var 23, .var 24, .var 25, .var 26, .var 27, .var 28, .var 29, .var 30, .var 31] 11], [], [.var 43, .var 44, .var 45, .var 46, .var 47, .var 48, .var 49, .var 50, .var 51, .var 52]⟩
def G_field : List Entry := [e_setb, e_norm]
def p_scalar : Path := ⟨[.app 0 [.lit 0, .lit 0, .lit 0, .lit 0, .lit 0, .lit 0, .lit 0, .lit 0, .var 0, .var 1, .var 2, .var 3, .var 4, .var 5, .var 6, .var 7, .var 8, .var 9, .var 10, .var 11, .var 12, .var 13, .var 14, .var 15, .var 16, .var 17, .var 18, .var 19, .var 20, .var 21, .var 22, .var 23, .var 24, .var 25, .var 26, .var 27, .var 28, .var 29, .var 30, .var 31] 9], [], [.var 32, .var 33, .var 34, .var 35, .var 36, .var 37, .var 38, .var 39]⟩
def G_scalar : List Entry := [e_ssetb]
def e_scalar : Entry := { f := 30, args := [.agg (List.replicate 32 (some .u8))], res := [.new (List.replicate 8 (some .u32))], F := p_scalar.out G_scalar }
theorem r_scalar : runFn Try.prog G_scalar e_scalar Try.f30.ntmps Try.f30.results.toList (Try.f30.body.getD .skip) = some ([], [p_scalar]) := by kernel_rfl
theorem m_scalar : Meets Try.prog e_scalar :=
  meets_single mixed (fun e he => by
    simp only [G_scalar, List.mem_cons, List.not_mem_nil, or_false] at he
    rcases he with rfl
    · exact m_ssetb) Try.func30 rfl (by kernel_rfl) r_scalar rfl

def p_isz : Path := ⟨[.pr (.bin .eql .u32) [.var 18, .lit 0], .pr (.bin .or .u32) [.var 17, .var 9], .pr (.bin .or .u32) [.var 16, .var 8], .pr (.bin .or .u32) [.var 15, .var 7], .pr (.bin .or .u32) [.var 14, .var 6], .pr (.bin .or .u32) [.var 13, .var 5], .pr (.bin .or .u32) [.var 12, .var 4], .pr (.bin .or .u32) [.var 11, .var 3], .pr (.bin .or .u32) [.var 10, .var 2], .pr (.bin .or .u32) [.var 0, .var 1]], [], [.var 19]⟩
def G_isz : List Entry := []
def p_iso : Path := ⟨[.pr (.bin .eql .u32) [.var 19, .lit 0], .pr (.bin .or .u32) [.var 18, .var 9], .pr (.bin .or .u32) [.var 17, .var 8], .pr (.bin .or .u32) [.var 16, .var 7], .pr (.bin .or .u32) [.var 15, .var 6], .pr (.bin .or .u32) [.var 14, .var 5], .pr (.bin .or .u32) [.var 13, .var 4], .pr (.bin .or .u32) [.var 12, .var 3], .pr (.bin .or .u32) [.var 11, .var 2], .pr (.bin .or .u32) [.var 10, .var 1], .pr (.bin .xor .u32) [.var 0, .lit 1]], [], [.var 20]⟩
def G_iso : List Entry := []
def p_isd : Path := ⟨[.pr (.bin .eql .u32) [.var 10, .lit 1], .pr (.bin .and .u32) [.var 0, .lit 1]], [], [.var 11]⟩
def G_isd : List Entry := []
def p_equ : Path := ⟨[.pr (.bin .eql .u32) [.var 38, .lit 0], .pr (.bin .or .u32) [.var 36, .var 37], .pr (.bin .xor .u32) [.var 9, .var 19], .pr (.bin .or .u32) [.var 34, .var 35], .pr (.bin .xor .u32) [.var 8, .var 18], .pr (.bin .or .u32) [.var 32, .var 33], .pr (.bin .xor .u32) [.var 7, .var 17], .pr (.bin .or .u32) [.var 30, .var 31], .pr (.bin .xor .u32) [.var 6, .var 16], .pr (.bin .or .u32) [.var 28, .var 29], .pr (.bin .xor .u32) [.var 5, .var 15], .pr (.bin .or .u32) [.var 26, .var 27], .pr (.bin .xor .u32) [.var 4, .var 14], .pr (.bin .or .u32) [.var 24, .var 25], .pr (.bin .xor .u32) [.var 3, .var 13], .pr (.bin .or .u32) [.var 22, .var 23], .pr (.bin .xor .u32) [.var 2, .var 12], .pr (.bin .or .u32) [.var 20, .var 21], .pr (.bin .xor .u32) [.var 1, .var 11], .pr (.bin .xor .u32) [.var 0, .var 10]], [], [.var 39]⟩
def G_equ : List Entry := []
def p_far : Path := ⟨[.pr (.bin .neq .u32) [.var 54, .lit 0], .pr (.bin .or .u32) [.var 49, .var 53], .pr (.bin .and .u32) [.var 51, .var 52], .app 2 [.var 0, .lit 63552238] 1, .pr (.bin .and .u32) [.var 46, .var 50], .app 0 [.var 1, .lit 57171083] 1, .pr (.bin .or .u32) [.var 44, .var 48], .pr (.bin .and .u32) [.var 46, .var 47], .app 1 [.var 1, .lit 57171083] 1, .pr (.bin .and .u32) [.var 41, .var 45], .app 0 [.var 2, .lit 33309698] 1, .pr (.bin .or .u32) [.var 39, .var 43], .pr (.bin .and .u32) [.var 41, .var 42], .app 1 [.var 2, .lit 33309698] 1, .pr (.bin .and .u32) [.var 36, .var 40], .app 0 [.var 3, .lit 6636253] 1, .pr (.bin .or .u32) [.var 34, .var 38], .pr (.bin .and .u32) [.var 36, .var 37], .app 1 [.var 3, .lit 6636253] 1, .pr (.bin .and .u32) [.var 31, .var 35], .app 0 [.var 4, .lit 21319971] 1, .pr (.bin .or .u32) [.var 29, .var 33], .pr (.bin .and .u32) [.var 31, .var 32], .app 1 [.var 4, .lit 21319971] 1, .pr (.bin .and .u32) [.var 26, .var 30], .app 0 [.var 5, .lit 0] 1, .pr (.bin .or .u32) [.var 24, .var 28], .pr (.bin .and .u32) [.var 26, .var 27], .app 1 [.var 5, .lit 0] 1, .pr (.bin .and .u32) [.var 21, .var 25], .app 0 [.var 6, .lit 0] 1, .pr (.bin .or .u32) [.var 19, .var 23], .pr (.bin .and .u32) [.var 21, .var 22], .app 1 [.var 6, .lit 0] 1, .pr (.bin .and .u32) [.var 16, .var 20], .app 0 [.var 7, .lit 0] 1, .pr (.bin .or .u32) [.var 14, .var 18], .pr (.bin .and .u32) [.var 16, .var 17], .app 1 [.var 7, .lit 0] 1, .pr (.bin .and .u32) [.var 11, .var 15], .app 0 [.var 8, .lit 0] 1, .pr (.bin .or .u32) [.var 10, .var 13], .pr (.bin .and .u32) [.var 11, .var 12], .app 1 [.var 8, .lit 0] 1, .app 0 [.var 9, .lit 0] 1, .app 1 [.var 9, .lit 0] 1], [], [.var 55]⟩
def G_far : List Entry := [e_eq, e_gt, e_ge]
def p_sisz : Path := ⟨[.pr (.bin .eql .u32) [.var 14, .lit 0], .pr (.bin .or .u32) [.var 13, .var 7], .pr (.bin .or .u32) [.var 12, .var 6], .pr (.bin .or .u32) [.var 11, .var 5], .pr (.bin .or .u32) [.var 10, .var 4], .pr (.bin .or .u32) [.var 9, .var 3], .pr (.bin .or .u32) [.var 8, .var 2], .pr (.bin .or .u32) [.var 0, .var 1]], [], [.var 15]⟩
def G_sisz : List Entry := []
def e_sisz : Entry := { f := 41, args := [.ptr (List.replicate 8 (some .u32)) false], res := [.bool], F := p_sisz.out G_sisz }
theorem r_sisz : runFn Try.prog G_sisz e_sisz Try.f41.ntmps Try.f41.results.toList (Try.f41.body.getD .skip) = some ([], [p_sisz]) := by kernel_rfl
theorem m_sisz : Meets Try.prog e_sisz :=
  meets_single mixed (fun e he => by simp [G_sisz] at he) Try.func41 rfl (by kernel_rfl) r_sisz rfl

def p_sisd : Path := ⟨[.pr (.bin .eql .u32) [.var 8, .lit 1], .pr (.bin .and .u32) [.var 0, .lit 1]], [], [.var 9]⟩
def G_sisd : List Entry := []
def p_sequ : Path := ⟨[.pr (.bin .eql .u32) [.var 30, .lit 0], .pr (.bin .or .u32) [.var 28, .var 29], .pr (.bin .xor .u32) [.var 7, .var 15], .pr (.bin .or .u32) [.var 26, .var 27], .pr (.bin .xor .u32) [.var 6, .var 14], .pr (.bin .or .u32) [.var 24, .var 25], .pr (.bin .xor .u32) [.var 5, .var 13], .pr (.bin .or .u32) [.var 22, .var 23], .pr (.bin .xor .u32) [.var 4, .var 12], .pr (.bin .or .u32) [.var 20, .var 21], .pr (.bin .xor .u32) [.var 3, .var 11], .pr (.bin .or .u32) [.var 18, .var 19], .pr (.bin .xor .u32) [.var 2, .var 10], .pr (.bin .or .u32) [.var 16, .var 17], .pr (.bin .xor .u32) [.var 1, .var 9], .pr (.bin .xor .u32) [.var 0, .var 8]], [], [.var 31]⟩
def G_sequ : List Entry := []
def p_shi : Path := ⟨[.pr (.bin .neq .u32) [.var 33, .lit 0], .pr (.bin .or .u32) [.var 28, .var 32], .pr (.bin .and .u32) [.var 30, .var 31], .app 1 [.var 0, .lit 1746608288] 1, .pr (.bin .and .u32) [.var 25, .var 29], .app 0 [.var 1, .lit 3756601158] 1, .pr (.bin .or .u32) [.var 23, .var 27], .pr (.bin .and .u32) [.var 25, .var 26], .app 1 [.var 1, .lit 3756601158] 1, .pr (.bin .and .u32) [.var 20, .var 24], .app 0 [.var 2, .lit 1470386205] 1, .pr (.bin .or .u32) [.var 18, .var 22], .pr (.bin .and .u32) [.var 20, .var 21], .app 1 [.var 2, .lit 1470386205] 1, .pr (.bin .and .u32) [.var 15, .var 19], .app 0 [.var 3, .lit 1566010995] 1, .pr (.bin .or .u32) [.var 8, .var 17], .pr (.bin .and .u32) [.var 15, .var 16], .app 1 [.var 3, .lit 1566010995] 1, .pr (.bin .and .u32) [.var 13, .var 14], .app 0 [.var 4, .lit 4294967295] 1, .pr (.bin .and .u32) [.var 11, .var 12], .app 0 [.var 5, .lit 4294967295] 1, .pr (.bin .and .u32) [.var 9, .var 10], .app 0 [.var 6, .lit 4294967295] 1, .app 0 [.var 7, .lit 2147483647] 1, .app 1 [.var 7, .lit 2147483647] 1], [], [.var 34]⟩
def G_shi : List Entry := [e_eq, e_gt, e_ge]
def e_shi : Entry := { f := 47, args := [.ptr (List.replicate 8 (some .u32)) false], res := [.bool], F := p_shi.out G_shi }
theorem r_shi : runFn Try.prog G_shi e_shi Try.f47.ntmps Try.f47.results.toList (Try.f47.body.getD .skip) = some ([], [p_shi]) := by kernel_rfl
theorem m_shi : Meets Try.prog e_shi :=
  meets_single mixed (fun e he => by
    simp only [G_shi, List.mem_cons, List.not_mem_nil, or_false] at he
    rcases he with rfl | rfl | rfl
    · exact m_eq
    · exact m_gt
    · exact m_ge) Try.func47 rfl (by kernel_rfl) r_shi rfl

def p_uzer : Path := ⟨[.pr (.eqs [false, false, false, false]) [.var 0, .lit 0, .var 1, .lit 0, .var 2, .lit 0, .var 3, .lit 0]], [], [.var 4]⟩
def G_uzer : List Entry := []
def e_uzer : Entry := { f := 28, args := [.agg (List.replicate 4 (some .u64))], res := [.bool], F := p_uzer.out G_uzer }
theorem r_uzer : runFn Try.prog G_uzer e_uzer Try.f28.ntmps Try.f28.results.toList (Try.f28.body.getD .skip) = some ([], [p_uzer]) := by kernel_rfl
theorem m_uzer : Meets Try.prog e_uzer :=
  meets_single mixed (fun e he => by simp [G_uzer] at he) Try.func28 rfl (by kernel_rfl) r_uzer rfl

def p_uodd : Path := ⟨[.pr (.bin .eql .u64) [.var 4, .lit 1], .pr (.bin .rem .u64) [.var 0, .lit 2]], [], [.var 5]⟩
def G_uodd : List Entry := []
def p_half : Path := ⟨[.pr (.bin .or .u64) [.var 14, .var 15], .pr (.bin .shl .u64) [.var 4, .lit 63], .pr (.bin .shr .u64) [.var 3, .lit 1], .pr (.bin .or .u64) [.var 11, .var 12], .pr (.bin .shl .u64) [.var 3, .lit 63], .pr (.bin .shr .u64) [.var 2, .lit 1], .pr (.bin .or .u64) [.var 8, .var 9], .pr (.bin .shl .u64) [.var 2, .lit 63], .pr (.bin .shr .u64) [.var 1, .lit 1], .pr (.bin .or .u64) [.var 5, .var 6], .pr (.bin .shl .u64) [.var 1, .lit 63], .pr (.bin .shr .u64) [.var 0, .lit 1]], [], [.var 7, .var 10, .var 13, .var 16]⟩
def G_half : List Entry := []
def e_half : Entry := { f := 34, args := [.agg (List.replicate 4 (some .u64)), .int .u64], res := [.agg (List.replicate 4 (some .u64))], F := p_half.out G_half }
theorem r_half : runFn Try.prog G_half e_half Try.f34.ntmps Try.f34.results.toList (Try.f34.body.getD .skip) = some ([], [p_half]) := by kernel_rfl
theorem m_half : Meets Try.prog e_half :=
  meets_single mixed (fun e he => by simp [G_half] at he) Try.func34 rfl (by kernel_rfl) r_half rfl

def p_low : Path := ⟨[.pr (.neg) [.var 16], .app 3 [.var 12, .var 13, .var 14, .var 15, .var 0, .var 1, .var 2, .var 3] 1, .app 2 [.var 8, .var 9, .var 10, .var 11, .lit 0] 4, .app 1 [.var 4, .var 5, .var 6, .var 7, .lit 1, .lit 0, .lit 0, .lit 0] 4, .app 0 [] 4], [], [.var 17]⟩
def p_fasks : Path := ⟨[.app 5 [.var 64, .var 65, .var 66, .var 67, .var 68, .var 69, .var 70, .var 71, .var 72, .var 73] 1, .app 4 [.var 64, .var 65, .var 66, .var 67, .var 68, .var 69, .var 70, .var 71, .var 72, .var 73, .var 74, .var 75, .var 76, .var 77, .var 78, .var 79, .var 80, .var 81, .var 82, .var 83] 1, .app 3 [.var 64, .var 65, .var 66, .var 67, .var 68, .var 69, .var 70, .var 71, .var 72, .var 73] 1, .app 2 [.var 64, .var 65, .var 66, .var 67, .var 68, .var 69, .var 70, .var 71, .var 72, .var 73] 1, .app 1 [.var 64, .var 65, .var 66, .var 67, .var 68, .var 69, .var 70, .var 71, .var 72, .var 73] 1, .app 0 [.var 32, .var 33, .var 34, .var 35, .var 36, .var 37, .var 38, .var 39, .var 40, .var 41, .var 42, .var 43, .var 44, .var 45, .var 46, .var 47, .var 48, .var 49, .var 50, .var 51, .var 52, .var 53, .var 54, .var 55, .var 56, .var 57, .var 58, .var 59, .var 60, .var 61, .var 62, .var 63] 10, .app 0 [.var 0, .var 1, .var 2, .var 3, .var 4, .var 5, .var 6, .var 7, .var 8, .var 9, .var 10, .var 11, .var 12, .var 13, .var 14, .var 15, .var 16, .var 17, .var 18, .var 19, .var 20, .var 21, .var 22, .var 23, .var 24, .var 25, .var 26, .var 27, .var 28, .var 29, .var 30, .var 31] 10], [], [.var 84, .var 85, .var 86, .var 87, .var 88]⟩
def p_sasks : Path := ⟨[.app 3 [.var 64, .var 65, .var 66, .var 67, .var 68, .var 69, .var 70, .var 71, .var 72, .var 73, .var 74, .var 75, .var 76, .var 77, .var 78, .var 79] 1, .app 4 [.var 64, .var 65, .var 66, .var 67, .var 68, .var 69, .var 70, .var 71] 1, .app 2 [.var 64, .var 65, .var 66, .var 67, .var 68, .var 69, .var 70, .var 71] 1, .app 1 [.var 64, .var 65, .var 66, .var 67, .var 68, .var 69, .var 70, .var 71] 1, .app 0 [.var 32, .var 33, .var 34, .var 35, .var 36, .var 37, .var 38, .var 39, .var 40, .var 41, .var 42, .var 43, .var 44, .var 45, .var 46, .var 47, .var 48, .var 49, .var 50, .var 51, .var 52, .var 53, .var 54, .var 55, .var 56, .var 57, .var 58, .var 59, .var 60, .var 61, .var 62, .var 63] 8, .app 0 [.var 0, .var 1, .var 2, .var 3, .var 4, .var 5, .var 6, .var 7, .var 8, .var 9, .var 10, .var 11, .var 12, .var 13, .var 14, .var 15, .var 16, .var 17, .var 18, .var 19, .var 20, .var 21, .var 22, .var 23, .var 24, .var 25, .var 26, .var 27, .var 28, .var 29, .var 30, .var 31] 8], [], [.var 80, .var 81, .var 82, .var 83]⟩
end Go.Proofs.Ytfeancgmmonebaa.Sx
