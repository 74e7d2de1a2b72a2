/-
  Contracts of two small functions. Printed by gen.py. Conditions: none; each theorem bears its own.
-/
import Derived.Test.YtfeancgmmonebaaSzg
namespace Go.Proofs.Ytfeancgmmonebaa.Sx
open Go Go.Proofs

def p_min : Path := ⟨[.pr (.bin .xor .u32) [.var 1, .var 5], .pr (.bin .and .u32) [.var 2, .var 4], .pr (.bin .sub .u32) [.lit 0, .var 3], .app 0 [.var 0, .var 1] 1, .pr (.bin .xor .u32) [.var 0, .var 1]], [], [.var 6]⟩
def G_min : List Entry := [e_lt]
def e_min : Entry := { f := 51, args := [.int .u32, .int .u32], res := [.int .u32], F := p_min.out G_min }
theorem r_min : runFn Try.prog G_min e_min Try.f51.ntmps Try.f51.results.toList (Try.f51.body.getD .skip) = some ([], [p_min]) := by kernel_rfl
theorem m_min : Meets Try.prog e_min :=
  meets_single mixed (fun e he => by
    simp only [G_min, List.mem_cons, List.not_mem_nil, or_false] at he
    rcases he with rfl
    · exact m_lt) Try.func51 rfl (by kernel_rfl) r_min rfl

def p_zero : Path := ⟨[], [], [.lit 0, .lit 0, .lit 0, .lit 0, .lit 0, .lit 0, .lit 0, .lit 0, .lit 0, .lit 0, .lit 0, .lit 0, .lit 0, .lit 0, .lit 0, .lit 0, .lit 0, .lit 0, .lit 0, .lit 0, .lit 0, .lit 0, .lit 0, .lit 0, .lit 0, .lit 0, .lit 0, .lit 0, .lit 0, .lit 0, .lit 0, .lit 0]⟩
def G_zero : List Entry := []
def e_zero : Entry := { f := 53, args := [.ptr (List.replicate 32 (some .u8)) true], res := [], F := p_zero.out G_zero }
theorem r_zero : runFn Try.prog G_zero e_zero Try.f53.ntmps Try.f53.results.toList (Try.f53.body.getD .skip) = some ([], [p_zero]) := by kernel_rfl
theorem m_zero : Meets Try.prog e_zero :=
  meets_single mixed (fun e he => by simp [G_zero] at he) Try.func53 rfl (by kernel_rfl) r_zero rfl

end Go.Proofs.Ytfeancgmmonebaa.Sx
