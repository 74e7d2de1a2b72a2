/-
  A region of which the kit's walk stands at the head, run by the executor with what follows it. Conditions: none; each theorem bears its own.
-/
import Derived.Test.YtfeancgmmonebaaSwk
namespace Go.Proofs.Ytfeancgmmonebaa.Sx
open Go Go.Proofs Go.RowKit

def ekRet : EK → Bool
  | .ret => true
  | _ => false

def tailRunS (P : Program) (Γ : List Entry) (t : Tail) (c1 c2 : Code) (rs : List ResultVar) (res : List RSh) : Option (List Need × List Path) :=
  if t.ok then
    match exec P Γ 4000 c1 t.st with
    | some (n1, ss) => match thenAll (exec P Γ 4000 c2) ss with
      | some (n2, outs) => if outs.all (fun x => ekRet x.1) then match tailPaths P rs res outs with
        | some ps => some (n1 ++ n2, ps)
        | none => none
        else none
      | none => none
    | none => none
  else none

theorem tail_seq {P : Program} {Γ : List Entry} (hmix : P.follows .mixedOrders = true) (hΓ : ∀ e ∈ Γ, Meets P e) {t : Tail} {c1 c2 : Code} {fn : Func} {res : List RSh} {nds : List Need} {ps : List Path}
    (h : tailRunS P Γ t c1 c2 fn.results.toList res = some (nds, ps)) {base : List Int} {bs : List (Nat × Nat)} (hb : base.length = t.n) (hbs : bs.length = t.mem.length) (hn : ∀ nd ∈ nds, nd.holds Γ base) {a : Act} (ha : a.tmps.size = t.nt) (hd : a.defers = [])
    (hs : slotsOk ⟨base, bs⟩ a.tmps t.slots) {w : World} (hm : MemOk w ⟨base, bs⟩ t.mem) (hdis : Dis ⟨base, bs⟩ t.mem) {R : Ending → World → Prop} {K : Act → World → Prop} {Q' : Exit → Act → World → Prop} (hK : ∀ a w, c2.wp P Q' a w → K a w) (hQ : ∀ a w, bodyPost P fn R .ret a w → Q' .ret a w)
    (hR : ∀ p ∈ ps, asmHolds (runR Γ p.defs base) p.asm → ∀ w', Fr (WOf ⟨base, bs⟩ t.mem) w w' → R (.returned (resV res (p.outs.map (·.val (runR Γ p.defs base))))) w') :
    c1.wp P (Exit.then K Q') a w := by
  unfold tailRunS at h
  split at h
  case isFalse => cases h
  rename_i hok
  split at h
  case h_2 => cases h
  rename_i n1 ss hrun
  split at h
  case h_2 => cases h
  rename_i n2 outs hex
  split at h
  case isFalse => cases h
  rename_i hall
  split at h
  case h_2 => cases h
  rename_i ps' hps
  simp only [Option.some.injEq, Prod.mk.injEq] at h
  obtain ⟨rfl, rfl⟩ := h
  have hret : ∀ x ∈ outs, x.1 = .ret := fun x hx => by
    have := List.all_eq_true.1 hall x hx
    cases hk : x.1 <;> simp [hk, ekRet] at this <;> rfl
  have hend : ∀ x ∈ outs, ∀ ρ' a' w', RelA Γ base ρ' x.2 a' → RelM (WOf ⟨base, bs⟩ t.mem) w bs ρ' x.2 w' → Q' x.1.ex a' w' := fun x hx ρ' a' w' hA hM => by
    have h1 := tail_end hps hR x hx ρ' a' w' hA hM
    rw [hret x hx] at h1 ⊢
    exact hQ _ _ h1
  refine exec_sound hmix hΓ 4000 c1 _ t.st ⟨base, bs⟩ a w n1 ss hrun (fun nd hnd => hn nd (by simp [hnd])) (Tail.relA hok hb hbs ha hd hs) (Tail.relM hok hm hdis) fun x hx ρ' a' w' hA hM => ?_
  rcases thenAll_spec hex x hx with ⟨hx1, n3, o3, g1, g2, g3⟩ | ⟨hne, hmem⟩
  · rw [hx1]
    exact hK _ _ (exec_sound hmix hΓ 4000 c2 _ x.2 ρ' a' w' n3 o3 g1 (fun nd hnd => hn nd (by simp [g2 nd hnd])) hA hM fun y hy => hend y (g3 y hy))
  · have h1 := hend x hmem ρ' a' w' hA hM
    rw [hret x hmem] at h1 ⊢
    exact h1

end Go.Proofs.Ytfeancgmmonebaa.Sx
