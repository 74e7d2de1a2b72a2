/-
  Contracts of functions with one path; the kit's Sub64 and Add64 as contracts. Conditions: none; each theorem bears its own.
-/
import Derived.Test.YtfeancgmmonebaaSxj
import Derived.Test.YtfeancgmmonebaaSyc
import Derived.Test.YtfeancgmmonebaaChecked
import Derived.KernelRfl
import Derived.Laws.Externs
namespace Go.Proofs.Ytfeancgmmonebaa.Sx
open Go

def Path.out (p : Path) (Γ : List Entry) (base : List Int) : List Int := p.outs.map (·.val (runR Γ p.defs base))

theorem meets_single {P : Program} {Γ : List Entry} {e : Entry} {fn : Func} {p : Path} (hmix : P.follows .mixedOrders = true) (hΓ : ∀ e ∈ Γ, Meets P e) (hf : P.funcs[e.f]? = some fn)
    (hb : fn.body = some (fn.body.getD .skip)) (hgo : goFunc P e.f = true) (h : runFn P Γ e fn.ntmps fn.results.toList (fn.body.getD .skip) = some ([], [p])) (hF : e.F = p.out Γ) : Meets P e :=
  meets_of_run hmix hΓ hf hb hgo h (fun _ _ _ nd hnd => by cases hnd) fun base _ _ q hq _ => by
    simp only [List.mem_cons, List.not_mem_nil, or_false] at hq
    subst hq
    rw [hF]
    rfl

/-- x - y - b, and what is borrowed. -/
def subF (base : List Int) : List Int :=
  match base with
  | [x, y, b] => [(((x.toNat + 2 ^ 64 - y.toNat - b.toNat) % 2 ^ 64 : Nat) : Int), if x.toNat < y.toNat + b.toNat then 1 else 0]
  | _ => []

def subPre (base : List Int) : Prop := (base.getD 2 0).toNat ≤ 1

def eSub (f : FuncId) : Entry := { f := f, args := [.int .u64, .int .u64, .int .u64], res := [.int .u64, .int .u64], F := subF, free := false, Pre := subPre }

def addF (base : List Int) : List Int :=
  match base with
  | [x, y, b] => [(((x.toNat + y.toNat + b.toNat) % 2 ^ 64 : Nat) : Int), (((x.toNat + y.toNat + b.toNat) / 2 ^ 64 : Nat) : Int)]
  | _ => []

def eAdd (f : FuncId) : Entry := { f := f, args := [.int .u64, .int .u64, .int .u64], res := [.int .u64, .int .u64], F := addF, free := false, Pre := subPre }

def subX : Array Value → Sem Value := fun args => do
  let (x, y, b) ← Extern.MathBitsCarry.three "Sub64" args
  pure (Extern.MathBitsCarry.pair ((x + Extern.MathBitsCarry.m64 - y - b) % Extern.MathBitsCarry.m64) (if x < y + b then 1 else 0))

theorem run_subX {P : Program} (x y b : Int) (hb : b.toNat ≤ 1) (w : World) :
    (subX #[.int .u64 x, .int .u64 y, .int .u64 b]).run P w = .ok (.tuple #[.int .u64 ((subF [x, y, b]).getD 0 0), .int .u64 ((subF [x, y, b]).getD 1 0)]) w := by
  have pr : ∀ (m n k : Nat), Extern.MathBitsCarry.pair m (if n < k then 1 else 0) = .tuple #[.int .u64 (m : Int), .int .u64 (if n < k then 1 else 0)] := fun m n k => by
    by_cases h : n < k
    · rw [if_pos h, if_pos h]; rfl
    · rw [if_neg h, if_neg h]; rfl
  match b, hb with
  | .ofNat 0, _ => exact congrArg (fun v => Result.ok v w) (pr _ _ _)
  | .ofNat 1, _ => exact congrArg (fun v => Result.ok v w) (pr _ _ _)
  | .negSucc n, _ => exact congrArg (fun v => Result.ok v w) (pr _ _ _)

theorem run_addX {P : Program} (x y b : Int) (hb : b.toNat ≤ 1) (w : World) :
    (add64Entry #[.int .u64 x, .int .u64 y, .int .u64 b]).run P w = .ok (.tuple #[.int .u64 ((addF [x, y, b]).getD 0 0), .int .u64 ((addF [x, y, b]).getD 1 0)]) w := by
  match b, hb with
  | .ofNat 0, _ => rfl
  | .ofNat 1, _ => rfl
  | .negSucc n, _ => rfl

theorem ini_three (e : Entry) (h : e.args = [.int .u64, .int .u64, .int .u64]) : ini e.args = ⟨[.one (.sc (.int .u64 (.var 0))), .one (.sc (.int .u64 (.var 1))), .one (.sc (.int .u64 (.var 2)))], [], 3⟩ := by rw [h]; rfl

theorem meets_extern3 {P : Program} {f : FuncId} {fn : Func} {x : Array Value → Sem Value} {F : List Int → List Int} (hf : P.funcs[f]? = some fn) (hname : (fn.name == "runtime.NumGoroutine") = false) (hb : fn.body.isNone = true) (hn : Extern.findNext fn = none)
    (he : Extern.find fn = some x) (hx : ∀ a b c : Int, c.toNat ≤ 1 → ∀ w, (x #[.int .u64 a, .int .u64 b, .int .u64 c]).run P w = .ok (.tuple #[.int .u64 ((F [a, b, c]).getD 0 0), .int .u64 ((F [a, b, c]).getD 1 0)]) w) :
    Meets P { f := f, args := [.int .u64, .int .u64, .int .u64], res := [.int .u64, .int .u64], F := F, free := false, Pre := subPre } := by
  intro base bs w hl hbl hpre hmem hdis
  have hi := ini_three { f := f, args := [.int .u64, .int .u64, .int .u64], res := [.int .u64, .int .u64], F := F, free := false, Pre := subPre } rfl
  rw [hi] at hl hbl
  obtain ⟨a, b, c, rfl⟩ : ∃ a b c, base = [a, b, c] := by
    match base, hl with
    | [a, b, c], _ => exact ⟨a, b, c, rfl⟩
  have hbs : bs = [] := List.length_eq_zero_iff.1 hbl
  subst hbs
  have hp : c.toNat ≤ 1 := hpre rfl
  refine .inr ⟨.tuple #[.int .u64 ((F [a, b, c]).getD 0 0), .int .u64 ((F [a, b, c]).getD 1 0)], ?_, [], rfl, (fun q hq => by cases hq), fun p1 p2 a1 a2 hne h1 => ?_, ?_, fun o so ho => ?_, Fr.refl _ _⟩
  · have := run_callFunc_extern hf hname hb hn he #[.int .u64 a, .int .u64 b, .int .u64 c] w
    rw [hx a b c hp w] at this
    exact this
  · have : ([] : List SO)[p1]? = some a1 := h1
    simp at this
  · have h0 : ∀ l : List Int, fit 2 l = [l.getD 0 0, l.getD 1 0] := fun l => by
      match l with
      | [] => rfl
      | [_] => rfl
      | _ :: _ :: _ => rfl
    show _ = Ending.returned (SV.den ⟨[a, b, c] ++ fit 2 (F [a, b, c]), []⟩ (.tup [.sc (.int .u64 (.var 3)), .sc (.int .u64 (.var 4))]))
    rw [h0]
    rfl
  · have : ([] : List SO)[o]? = some so := ho
    simp at this

end Go.Proofs.Ytfeancgmmonebaa.Sx
