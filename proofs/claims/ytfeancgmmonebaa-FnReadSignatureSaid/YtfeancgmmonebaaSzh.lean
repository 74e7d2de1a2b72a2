/-
  From a contract to a row: a function of arrays of bytes that returns true and writes nothing that was there. Conditions: none; each theorem bears its own.
-/
import Derived.Test.YtfeancgmmonebaaSzg
import Derived.Test.YtfeancgmmonebaaRows
import Derived.ProofKit
import Derived.OpenShut
import Derived.ChangeOld
import Derived.Below
namespace Go.Proofs.Ytfeancgmmonebaa.Sx
open Go Go.Proofs Go.ChangeShapes Go.WideShapes Go.ChangeAt Go.RowKit

/-- A call by a contract that gives true. -/
theorem calls_true {P : Program} {e : Entry} (hm : Meets P e) (hgo : goFunc P e.f = true) {base : List Int} (hl : base.length = (ini e.args).n) (hmem : (ini e.args).mem = []) (hpre : e.Pre base) (hF : e.F base = [1])
    (hres : retOf (fin e).res = .one (.sc (.bool (.var (ini e.args).n)))) (hn : (fin e).n = (ini e.args).n + 1) (w : World) :
    Calls P e.f ((ini e.args).args.map (SV.den ⟨base, []⟩)).toArray w fun en w' => en = .returned (.bool true) ∧ Below w.heap.size w w' := by
  have h := hm base [] w hl (by rw [hmem]; rfl) (fun _ => hpre) (fun o so ho => by rw [hmem] at ho; simp at ho) (fun p p' a a' _ h1 => by rw [hmem] at h1; simp at h1)
  have hrun := goFunc_run hgo ((ini e.args).args.map (SV.den ⟨base, []⟩)).toArray w
  rcases h with ⟨_, h⟩ | ⟨v, h, _⟩
  · refine h.mono fun en w' ⟨nb, _, _, _, hen, _, hfr⟩ => ⟨?_, hfr.below (Nat.le_refl _) fun k j _ ⟨o, so, ho, _⟩ => by rw [hmem] at ho; simp at ho⟩
    rw [hen, hres]
    have : (e.env base [] nb).e.getD (ini e.args).n 0 = 1 := by
      simp only [Entry.env]
      rw [hF, hn, ← hl, List.getD, List.getElem?_append_right (Nat.le_refl _), Nat.sub_self, Nat.add_sub_cancel_left]
      rfl
    simp only [SV.den, S1.den, SC.den, SI.val, this]
    rfl
  · rw [hrun] at h
    cases h

theorem bytes_of : ∀ (cs : List Value), (∀ (i : Nat), i < cs.length → ∃ z : Int, cs[i]? = some (.int .u8 z) ∧ 0 ≤ z ∧ z < 2 ^ 8) → ∃ bs : List Int, bs.length = cs.length ∧ cs = bs.map (Value.int .u8) ∧ Dg 8 bs
  | [], _ => ⟨[], rfl, rfl, fun x hx => (by cases hx)⟩
  | c :: cs, one => by
    obtain ⟨z, h1, h2, h3⟩ := one 0 (by simp)
    simp at h1
    subst h1
    obtain ⟨bs, g1, g2, g3⟩ := bytes_of cs fun i hi => by simpa using one (i + 1) (by simpa using hi)
    exact ⟨z :: bs, by simp [g1], by simp [← g2], fun y hy => by
      rcases List.mem_cons.1 hy with rfl | hy
      · exact ⟨h2, h3⟩
      · exact g3 y hy⟩

/-- An array of bytes, opened. -/
theorem open_bytes {H : Type} {enc : TypeId × Value → H} {P : Program} {w : World} {base : Nat} {spare : Nat → Bool} {held : Bool} {fuel : Nat} {t u : TypeId} {cs : List Value} {x : DataW H × List MemPlace} {n : Nat}
    (ht : P.underlying t = some (.array n u)) (hu : P.underlying u = some (.int .u8)) (hc : P.cellsOf u = 1) (hct : P.cellsOf t = n) (h : DataW.trod enc P w base spare held fuel t cs = some x) :
    ∃ bs : List Int, bs.length = n ∧ cs = bs.map (Value.int .u8) ∧ Dg 8 bs := by
  obtain ⟨xs, m, _, _, hlen, hl, hel⟩ := DataW.trod_array ht h
  rw [hct] at hlen
  have one : ∀ (i : Nat), i < n → ∃ z : Int, cs[i]? = some (.int .u8 z) ∧ 0 ≤ z ∧ z < 2 ^ 8 := by
    intro i hi
    have h1 := hel i hi
    rw [hc, Nat.mul_one, List.getElem?_eq_getElem (by omega)] at h1
    obtain ⟨z, h2, _, h3⟩ := DataW.trod_int hu h1
    have h4 := bounds_u8 h3
    refine ⟨z, ?_, h4.1, by omega⟩
    have h5 : ((cs.drop i).take 1)[0]? = some (.int .u8 z) := by rw [h2]; rfl
    simpa using h5
  obtain ⟨bs, g1, g2, g3⟩ := bytes_of cs fun i hi => one i (by omega)
  exact ⟨bs, by omega, g2, g3⟩

end Go.Proofs.Ytfeancgmmonebaa.Sx
