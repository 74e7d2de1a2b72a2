/-
  Bytes of any length as a scalar, as a field element: the thin package's functions. Conditions: none; each theorem bears its own.
-/
import Derived.Test.YtfeancgmmonebaaSzo
namespace Go.Proofs.Ytfeancgmmonebaa.Sx
open Go Go.Proofs Go.RowKit

theorem resV_bool_agg (k : IntKind) {b : Int} {xs : List Int} {m : Nat} (h : xs.length = m) : resV [.bool, .agg (List.replicate m (some k))] (b :: xs) = .tuple #[.bool (b != 0), .agg (xs.map (Value.int k)).toArray] := by
  have h1 := kcells_at k [] xs [b] [] (b :: xs) 1 m (by simp) rfl h
  show Value.tuple (List.map (S1.den ⟨b :: xs, []⟩) [.sc (.bool (.var 0)), .agg (kcells 1 (List.replicate m (some k)))]).toArray = _
  simp only [List.map, S1.den, h1]
  rfl

def zero32 : Array Value := (List.replicate 32 (Value.int .u8 0)).toArray

/-! ## Scalars -/

def t_sslice : Tail := { n := 9, nt := 10, slots := [(3, .one (.sc (.ptr 0 0))), (4, .one (.sc (.ptr 1 0))), (5, .one (.sc (.bool (.var 8))))], mem := [⟨List.replicate 32 (.int .u8 (.lit 0)), true⟩, ⟨kcells 0 (List.replicate 8 (some .u32)), false⟩] }
def p_sslice : Path := ⟨[.app 0 (vars 0 8) 32], [], .var 8 :: vars 9 32⟩

theorem out_sslice {V b : Int} (v0 : 0 ≤ V) (v1 : V < 2 ^ 256) : p_sslice.outs.map (·.val (runR [e_sbytes] p_sslice.defs (dig 32 8 V ++ [b]))) = b :: (dig 8 32 V).reverse := by
  show (SI.var 8 :: vars 9 32).map (·.val ((dig 32 8 V ++ [b]) ++ fit 32 (e_sbytes.F ((vars 0 8).map (·.val (dig 32 8 V ++ [b])))))) = _
  have h0 : (vars 0 8).map (·.val (dig 32 8 V ++ [b])) = dig 32 8 V := vars_base0 [e_sbytes] [] (dig_length 32 8 V)
  rw [h0, sbytes_spec v0 v1, fit_eq (by simp [dig_length])]
  have h1 := vars_last [e_sbytes] [] (a := dig 32 8 V ++ [b]) (l := (dig 8 32 V).reverse) (i := 9) (n := 32) (by simp [dig_length]) (by simp [dig_length])
  rw [List.map_cons]
  exact List.cons_eq_cons.2 ⟨rfl, h1⟩

theorem mod_lo {V p : Int} (hp : 0 < p) : 0 ≤ V % p := Int.emod_nonneg _ (by omega)

/-! ## Field elements -/

def t_fslice : Tail := { n := 11, nt := 10, slots := [(3, .one (.sc (.ptr 0 0))), (4, .one (.sc (.ptr 1 0))), (5, .one (.sc (.bool (.var 10))))], mem := [⟨List.replicate 32 (.int .u8 (.lit 0)), true⟩, ⟨kcells 0 (List.replicate 10 (some .u32)), true⟩] }
def p_fslice : Path := ⟨[.app 0 (vars 0 10) 42], [], .var 10 :: vars 21 32⟩

end Go.Proofs.Ytfeancgmmonebaa.Sx
