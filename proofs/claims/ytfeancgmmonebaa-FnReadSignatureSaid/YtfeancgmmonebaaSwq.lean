/-
  FnReadSignature: what its function gives. Conditions: none; each theorem bears its own.
-/
import Derived.Test.YtfeancgmmonebaaSwn
import Derived.Test.YtfeancgmmonebaaSzg
namespace Go.Proofs.Ytfeancgmmonebaa.Sx
open Go Go.Proofs Go.RowKit

def twS : List SI → List SI → List SI
  | x :: l, y :: r => x :: y :: twS l r
  | _, _ => []

theorem twS_val (E : List Int) : ∀ l r : List SI, (twS l r).map (·.val E) = twine (l.map (·.val E)) (r.map (·.val E))
  | x :: l, y :: r => by simp [twS, twine, twS_val E l r]
  | [], _ => by simp [twS, twine]
  | _ :: _, [] => by simp [twS, twine]

def q_rs0 : Path := ⟨[.pr (.eqs (List.replicate 32 false)) (twS (vars 40 32) (vars 105 32)), .app 0 (vars 4 4) 32, .pr (.eqs (List.replicate 32 false)) (twS (vars 8 32) (vars 72 32)), .app 0 (vars 0 4) 32], [(.var 104, true)], [.var 137]⟩
def q_rs1 : Path := ⟨[.pr (.eqs (List.replicate 32 false)) (twS (vars 8 32) (vars 72 32)), .app 0 (vars 0 4) 32], [(.var 104, false)], [.lit 0]⟩

def rsBase (R S : Int) : List Int := (dig 64 4 R ++ dig 64 4 S) ++ (byt R ++ byt S)
theorem rsBase_length (R S : Int) : (rsBase R S).length = 72 := by simp [rsBase, dig_length, byt_length]

theorem rs1 {R : Int} (S : Int) (r0 : 0 ≤ R) (r1 : R < 2 ^ 256) : runR [e_ub] q_rs1.defs (rsBase R S) = (rsBase R S ++ byt R) ++ [1] := by
  have t1 : runR [e_ub] [.app 0 (vars 0 4) 32] (rsBase R S) = rsBase R S ++ byt R := by
    show rsBase R S ++ fit 32 (e_ub.F ((vars 0 4).map (·.val (rsBase R S)))) = _
    rw [vars_at (E := rsBase R S) (i := 0) (A := []) (l := dig 64 4 R) (B := dig 64 4 S ++ (byt R ++ byt S)) (by simp [rsBase]) rfl (dig_length _ _ _), ub_spec r0 r1]
    exact congrArg _ (fit_eq (byt_length R))
  show runR [e_ub] [.app 0 (vars 0 4) 32] (rsBase R S) ++ [if allEq (List.replicate 32 false) ((twS (vars 8 32) (vars 72 32)).map (·.val (runR [e_ub] [.app 0 (vars 0 4) 32] (rsBase R S)))) then 1 else 0] = _
  rw [t1, twS_val, vars_at (E := rsBase R S ++ byt R) (i := 8) (A := dig 64 4 R ++ dig 64 4 S) (l := byt R) (B := byt S ++ byt R) (by simp [rsBase]) (by simp [dig_length]) (byt_length R),
    vars_at (E := rsBase R S ++ byt R) (i := 72) (A := rsBase R S) (l := byt R) (B := []) (by simp) (rsBase_length R S) (byt_length R), if_pos (allEq_twine (byt_length R))]

theorem rs0 {R S : Int} (r0 : 0 ≤ R) (r1 : R < 2 ^ 256) (s0 : 0 ≤ S) (s1 : S < 2 ^ 256) : runR [e_ub] q_rs0.defs (rsBase R S) = (((rsBase R S ++ byt R) ++ [1]) ++ byt S) ++ [1] := by
  have h1 := rs1 S r0 r1
  have t2 : runR [e_ub] (.app 0 (vars 4 4) 32 :: q_rs1.defs) (rsBase R S) = ((rsBase R S ++ byt R) ++ [1]) ++ byt S := by
    show runR [e_ub] q_rs1.defs (rsBase R S) ++ fit 32 (e_ub.F ((vars 4 4).map (·.val (runR [e_ub] q_rs1.defs (rsBase R S))))) = _
    rw [h1, vars_at (E := (rsBase R S ++ byt R) ++ [1]) (i := 4) (A := dig 64 4 R) (l := dig 64 4 S) (B := (byt R ++ byt S) ++ byt R ++ [1]) (by simp [rsBase]) (dig_length _ _ _) (dig_length _ _ _), ub_spec s0 s1]
    exact congrArg _ (fit_eq (byt_length S))
  show runR [e_ub] (.app 0 (vars 4 4) 32 :: q_rs1.defs) (rsBase R S) ++ [if allEq (List.replicate 32 false) ((twS (vars 40 32) (vars 105 32)).map (·.val (runR [e_ub] (.app 0 (vars 4 4) 32 :: q_rs1.defs) (rsBase R S)))) then 1 else 0] = _
  rw [t2, twS_val, vars_at (E := ((rsBase R S ++ byt R) ++ [1]) ++ byt S) (i := 40) (A := dig 64 4 R ++ dig 64 4 S ++ byt R) (l := byt S) (B := byt R ++ [1] ++ byt S) (by simp [rsBase]) (by simp [dig_length, byt_length]) (byt_length S),
    vars_at (E := ((rsBase R S ++ byt R) ++ [1]) ++ byt S) (i := 105) (A := (rsBase R S ++ byt R) ++ [1]) (l := byt S) (B := []) (by simp) (by simp [rsBase_length, byt_length]) (byt_length S), if_pos (allEq_twine (byt_length S))]

theorem c_readSig (n c : Nat) (bs : List Int) (A : Option Addr) (w : World) (hn : n < 2147483648) (hc : n ≤ c) (hr : Reads w w.heap.size A n (bs.map (Value.int .u8))) (hd : Dg 8 bs) :
    Calls Try.prog 11 #[.slice A n c] w (SigRes w bs) := by
  have hl : bs.length = n := by have h : (bs.map (Value.int .u8)).length = n := hr.1; simpa using h
  by_cases h : n < 8 ∨ 72 < n
  · exact readSig_len n c bs A w (by omega) hl
  · obtain ⟨ad, rfl, _, _⟩ := hr.2 (by omega)
    exact readSig_fit n c bs ad w (by omega) (by omega) hc hr hd

end Go.Proofs.Ytfeancgmmonebaa.Sx
