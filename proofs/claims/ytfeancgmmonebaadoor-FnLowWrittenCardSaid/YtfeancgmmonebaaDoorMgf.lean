/-
  A region that asks for an order, where the flow of values alone does not settle it: the orders are gone through, but what only reads comes first. Conditions: none; each theorem bears its own.
-/
import Derived.Test.YtfeancgmmonebaaDoorMge
import Derived.OrdersHeld
import Derived.LoopN
namespace Go.Proofs.YtfeancgmmonebaaDoor.Sx
open Go

def SC.same : SC → SC → Bool
  | .int k x, .int k' x' => decide (k = k') && x.beq x'
  | .bool x, .bool x' => x.beq x'
  | .ptr o d, .ptr o' d' => Nat.beq o o' && Nat.beq d d'
  | .slice o d l c, .slice o' d' l' c' => Nat.beq o o' && Nat.beq d d' && Nat.beq l l' && Nat.beq c c'
  | _, _ => false

theorem SC.same_eq {c c' : SC} (h : SC.same c c' = true) : c = c' := by
  cases c <;> cases c' <;> simp only [SC.same, Bool.and_eq_true, Bool.false_eq_true, decide_eq_true_eq] at h
  · rw [h.1, SI.beq_eq h.2]
  · rw [SI.beq_eq h]
  · rw [Nat.eq_of_beq_eq_true h.1, Nat.eq_of_beq_eq_true h.2]
  · rw [Nat.eq_of_beq_eq_true h.1.1.1, Nat.eq_of_beq_eq_true h.1.1.2, Nat.eq_of_beq_eq_true h.1.2, Nat.eq_of_beq_eq_true h.2]

def sameCs : List SC → List SC → Bool
  | [], [] => true
  | c :: cs, d :: ds => SC.same c d && sameCs cs ds
  | _, _ => false

theorem sameCs_eq : ∀ {cs ds : List SC}, sameCs cs ds = true → cs = ds
  | [], [], _ => rfl
  | c :: cs, d :: ds, h => by
    simp only [sameCs, Bool.and_eq_true] at h
    rw [SC.same_eq h.1, sameCs_eq h.2]
  | [], _ :: _, h => by simp [sameCs] at h
  | _ :: _, [], h => by simp [sameCs] at h

def keptAt (kept : List Bool) (o : Nat) : Bool := kept.getD o false

/-- The objects that are to keep their cells keep them. -/
def keptB (kept : List Bool) (mem mem' : List SO) : Bool :=
  (List.range mem.length).all fun o => !keptAt kept o || match mem[o]?, mem'[o]? with
    | some x, some y => sameCs x.cells y.cells
    | _, _ => false

theorem keptB_spec {kept : List Bool} {mem mem' : List SO} (h : keptB kept mem mem' = true) {o : Nat} {so : SO} (hk : keptAt kept o = true) (ho : mem[o]? = some so) : ∃ so', mem'[o]? = some so' ∧ so'.cells = so.cells := by
  have h1 := List.all_eq_true.1 h o (List.mem_range.2 (mem_lt ho))
  simp only [hk, Bool.not_true, Bool.false_or, ho] at h1
  split at h1
  · rename_i x y hx hy
    cases hx
    exact ⟨y, hy, (sameCs_eq h1).symm⟩
  · cases h1

def keptOf (mem : List SO) (ss : List St) : List Bool :=
  (List.range mem.length).map fun o => ss.all fun s' => match mem[o]?, s'.mem[o]? with
    | some x, some y => sameCs x.cells y.cells
    | _, _ => false

/-- What is not sure to keep its cells is not looked at. -/
def blind (kept : List Bool) : Nat → List SO → List SO
  | _, [] => []
  | i, so :: r => (if keptAt kept i then so else ⟨[], false⟩) :: blind kept (i + 1) r

theorem blind_get (kept : List Bool) : ∀ (mem : List SO) (i o : Nat), (blind kept i mem)[o]? = (mem[o]?).map fun so => if keptAt kept (i + o) then so else ⟨[], false⟩
  | [], i, o => by simp [blind]
  | so :: r, i, 0 => by simp [blind]
  | so :: r, i, o + 1 => by
    simp only [blind, List.getElem?_cons_succ]
    rw [blind_get kept r (i + 1) o, show i + 1 + o = i + (o + 1) by omega]

theorem blind_length (kept : List Bool) : ∀ (mem : List SO) (i : Nat), (blind kept i mem).length = mem.length
  | [], _ => rfl
  | so :: r, i => by simp [blind, blind_length kept r]

def takeV (P : Program) (kept : List Bool) (s : St) (o : Oper) : Option SV :=
  match o.guard with
  | some _ => none
  | none => match opV P { s with mem := blind kept 0 s.mem } o.op with
    | some (.val sv) => if sv.ok s.n s.mem.length then some sv else none
    | _ => none

def eachIx (k : Nat → Option (List Need × List St)) : List Nat → Option (List Need × List St)
  | [] => some ([], [])
  | i :: r => match k i, eachIx k r with
    | some (n1, s1), some (n2, s2) => some (n1 ++ n2, s1 ++ s2)
    | _, _ => none

theorem eachIx_spec {k : Nat → Option (List Need × List St)} : ∀ {rs : List Nat} {nds : List Need} {outs : List St}, eachIx k rs = some (nds, outs) →
    ∀ i ∈ rs, ∃ n1 s1, k i = some (n1, s1) ∧ (∀ nd ∈ n1, nd ∈ nds) ∧ ∀ x ∈ s1, x ∈ outs
  | [], _, _, _, i, hi => by cases hi
  | i0 :: r, nds, outs, h, i, hi => by
    unfold eachIx at h
    split at h
    · rename_i n1 s1 n2 s2 h1 h2
      cases h
      rcases List.mem_cons.1 hi with rfl | hi
      · exact ⟨n1, s1, h1, fun nd hnd => by simp [hnd], fun x hx => by simp [hx]⟩
      · obtain ⟨n', s', g1, g2, g3⟩ := eachIx_spec h2 i hi
        exact ⟨n', s', g1, fun nd hnd => by simp [g2 nd hnd], fun x hx => by simp [g3 x hx]⟩
    · cases h

def eachOf (k : St → Option (List Need × List St)) : List St → Option (List Need × List St)
  | [] => some ([], [])
  | s :: r => match k s, eachOf k r with
    | some (n1, s1), some (n2, s2) => some (n1 ++ n2, s1 ++ s2)
    | _, _ => none

theorem eachOf_spec {k : St → Option (List Need × List St)} : ∀ {ss : List St} {nds : List Need} {outs : List St}, eachOf k ss = some (nds, outs) →
    ∀ s ∈ ss, ∃ n1 s1, k s = some (n1, s1) ∧ (∀ nd ∈ n1, nd ∈ nds) ∧ ∀ x ∈ s1, x ∈ outs
  | [], _, _, _, s, hs => by cases hs
  | s0 :: r, nds, outs, h, s, hs => by
    unfold eachOf at h
    split at h
    · rename_i n1 s1 n2 s2 h1 h2
      cases h
      rcases List.mem_cons.1 hs with rfl | hs
      · exact ⟨n1, s1, h1, fun nd hnd => by simp [hnd], fun x hx => by simp [hx]⟩
      · obtain ⟨n', s', g1, g2, g3⟩ := eachOf_spec h2 s hs
        exact ⟨n', s', g1, fun nd hnd => by simp [g2 nd hnd], fun x hx => by simp [g3 x hx]⟩
    · cases h

/-- One that may be taken first. -/
def firstOf (P : Program) (l : List Oper) (kept : List Bool) (listed : Array Bool) (s : St) : List Nat → Option (Nat × Oper × SV)
  | [] => none
  | i :: r => match l[i]? with
    | some o => match takeV P kept s o with
      | some sv => if Region.free .any l.toArray listed i then some (i, o, sv) else firstOf P l kept listed s r
      | none => firstOf P l kept listed s r
    | none => firstOf P l kept listed s r

theorem firstOf_spec {P : Program} {l : List Oper} {kept : List Bool} {listed : Array Bool} {s : St} {i : Nat} {o : Oper} {sv : SV} : ∀ {rs : List Nat}, firstOf P l kept listed s rs = some (i, o, sv) →
    i ∈ rs ∧ l[i]? = some o ∧ takeV P kept s o = some sv ∧ Region.free .any l.toArray listed i = true
  | [], h => by cases h
  | j :: r, h => by
    have tail : firstOf P l kept listed s r = some (i, o, sv) → i ∈ j :: r ∧ l[i]? = some o ∧ takeV P kept s o = some sv ∧ Region.free .any l.toArray listed i = true := fun h => by
      obtain ⟨h1, h2⟩ := firstOf_spec h
      exact ⟨List.mem_cons_of_mem _ h1, h2⟩
    unfold firstOf at h
    split at h
    · rename_i o' ho
      split at h
      · rename_i sv' hsv
        split at h
        · rename_i hf
          simp only [Option.some.injEq, Prod.mk.injEq] at h
          obtain ⟨rfl, rfl, rfl⟩ := h
          exact ⟨List.mem_cons_self, ho, hsv, hf⟩
        · exact tail h
      · exact tail h
    · exact tail h

def anyGo (P : Program) (Γ : List Entry) (l : List Oper) (kept : List Bool) : Nat → Array Bool → St → Option (List Need × List St)
  | f, listed, s =>
    match Region.ready .any l.toArray listed with
    | [] => some ([], [s])
    | i0 :: rs =>
      match f with
      | 0 => none
      | f + 1 =>
        match firstOf P l kept listed s (i0 :: rs) with
        | some (i, o, sv) => match s.put o.dst sv with
          | some s2 => anyGo P Γ l kept f (listed.setIfInBounds i true) s2
          | none => none
        | none => eachIx (fun i => match l[i]? with
          | none => none
          | some o => match runOps P Γ false l.toArray [o] s with
            | some (n1, ss) => if ss.all (fun s' => keptB kept s.mem s'.mem) then
                match eachOf (anyGo P Γ l kept f (listed.setIfInBounds i true)) ss with
                | some (n2, outs) => some (n1 ++ n2, outs)
                | none => none
              else none
            | none => none) (i0 :: rs)

def QN (K : Act → World → Prop) : Exit → Act → World → Prop := fun ex a w => match ex with
  | .normal => K a w
  | _ => False

theorem wpOp_of_list {P : Program} {l : List Oper} {i : Nat} {o : Oper} {K K' : Act → World → Prop} {a : Act} {w : World} (hi : l[i]? = some o) (h : wpList P l.toArray (QN K') [o] a w) (hk : ∀ a w, K' a w → K a w) (Q : Exit → Act → World → Prop) :
    wpOp P l.toArray Q i K a w := by
  unfold wpOp
  have hi' : l.toArray[i]? = some o := by simpa using hi
  simp only [hi']
  simp only [wpList] at h
  split
  · rename_i hw
    rw [if_pos hw] at h
    rcases h with h | ⟨_, _, _, h⟩
    · refine .inl ?_
      unfold Oper.wp at *
      generalize (execOp a.eval o).run P w = r at *
      cases r with
      | ok n w' =>
        cases n <;> simp only [Oper.upon] at h ⊢ <;>
          first
            | exact hk _ _ h
            | exact Calls.mono h (fun e w'' he => by
                cases e with
                | returned v => exact hk _ _ he
                | panicked c => exact he.elim
                | outgrown => obtain ⟨_, _, he⟩ := he; exact he.elim)
            | exact Rows.mono h (fun _ _ he => hk _ _ he)
            | exact h
      | halt x w' => cases x <;> simp only [Oper.upon] at h ⊢ <;> first | exact h | exact h.elim
    · exact h.elim
  · rename_i hw
    rw [if_neg hw] at h
    exact hk _ _ h

/-- The cells of the kept objects are as they were. -/
def Held (kept : List Bool) (ρ0 : En) (mem0 : List SO) (w00 : World) (w : World) : Prop :=
  ∀ (o : Nat) (so : SO) (j : Nat), keptAt kept o = true → mem0[o]? = some so → j < so.cells.length → w.cell? ⟨ρ0.blk o, ρ0.off o + j, none⟩ = w00.cell? ⟨ρ0.blk o, ρ0.off o + j, none⟩

theorem ext_blk {ρ ρ' : En} (h : Ext ρ ρ') {o : Nat} (ho : o < ρ.o.length) : ρ'.blk o = ρ.blk o ∧ ρ'.off o = ρ.off o := by
  obtain ⟨l, p, rfl⟩ := h
  exact ⟨En.blk_ext ρ.e _ ρ.o _ o ho, En.off_ext ρ.e _ ρ.o _ o ho⟩

theorem anyGo_sound {P : Program} {Γ : List Entry} (hΓ : ∀ e ∈ Γ, Meets P e) {base : List Int} {W : Nat → Nat → Prop} {w0 : World} {O : List (Nat × Nat)} {l : List Oper} {kept : List Bool} (hsel : Region.noSelect l.toArray = true)
    {ρ0 : En} {mem0 : List SO} {w00 : World} (hl0 : ρ0.o.length = mem0.length) {K : Act → World → Prop} (hkl : ∀ o, keptAt kept o = true → o < mem0.length) :
    ∀ (f : Nat) (listed : Array Bool) (s : St) (ρ : En) (a : Act) (w : World) (nds : List Need) (ss : List St), anyGo P Γ l kept f listed s = some (nds, ss) → (∀ nd ∈ nds, nd.holds Γ base) → RelA Γ base ρ s a → RelM W w0 O ρ s w →
      Ext ρ0 ρ → Held kept ρ0 mem0 w00 w → (∀ (o : Nat) (so : SO), keptAt kept o = true → mem0[o]? = some so → ∃ so', s.mem[o]? = some so' ∧ so'.cells = so.cells) →
      (∀ s' ∈ ss, ∀ ρ' a' w', RelA Γ base ρ' s' a' → RelM W w0 O ρ' s' w' → K a' w') → wpAnyH P .any l.toArray (QN K) (Held kept ρ0 mem0 w00) f listed a w := by
  intro f
  induction f with
  | zero =>
    intro listed s ρ a w nds ss h hn hA hM he hS hmem hK
    unfold anyGo at h
    split at h
    · rename_i hr
      cases h
      exact wpAnyH_done hr (hK s (by simp) ρ a w hA hM) 0
    · cases h
  | succ f ih =>
    intro listed s ρ a w nds ss h hn hA hM he hS hmem hK
    unfold anyGo at h
    split at h
    · rename_i hr
      cases h
      exact wpAnyH_done hr (hK s (by simp) ρ a w hA hM) _
    · rename_i i0 rs hr
      simp only at h
      split at h
      · rename_i i o sv hfirst
        obtain ⟨f1, f2, f3, f4⟩ := firstOf_spec hfirst
        split at h
        · rename_i s2 hput
          unfold takeV at f3
          split at f3
          · cases f3
          · rename_i hg
            split at f3
            · rename_i sv' hop
              obtain ⟨hok, rfl⟩ : sv'.ok s.n s.mem.length = true ∧ sv = sv' := by
                by_cases hc : sv'.ok s.n s.mem.length = true
                · rw [if_pos hc] at f3
                  cases f3
                  exact ⟨hc, rfl⟩
                · rw [if_neg hc] at f3
                  cases f3
              have hAb : RelA Γ base ρ { s with mem := blind kept 0 s.mem } a := by
                have := hA.objs (blind kept 0 s.mem) [] (by simp [blind_length])
                simpa using this
              -- in every world of the class
              have hv : ∀ w', Held kept ρ0 mem0 w00 w' → (execOp a.eval o).run P w' = .ok (.value (sv.den ρ)) w' := by
                intro w' hw'
                refine opV_run (r := .val sv) hAb ?_ o hop
                intro q so hq j c hc
                simp only [blind_get, Nat.zero_add] at hq
                obtain ⟨sq, hsq, rfl⟩ := Option.map_eq_some_iff.1 hq
                by_cases hk : keptAt kept q = true
                · rw [if_pos hk] at hc
                  have hlt := hkl q hk
                  obtain ⟨s0, hs0⟩ : ∃ s0, mem0[q]? = some s0 := ⟨mem0[q], List.getElem?_eq_getElem hlt⟩
                  obtain ⟨sq', g1, g2⟩ := hmem q s0 hk hs0
                  rw [hsq] at g1
                  cases g1
                  have hj : j < s0.cells.length := by rw [← g2]; exact (List.getElem?_eq_some_iff.1 hc).1
                  obtain ⟨b1, b2⟩ := ext_blk he (o := q) (by rw [hl0]; exact hlt)
                  have c1 := (hM.objs q sq hsq).cell j c hc
                  rw [b1, b2] at c1 ⊢
                  rw [hw' q s0 j hk hs0 hj, ← hS q s0 j hk hs0 hj, c1]
                · rw [if_neg hk] at hc
                  simp at hc
              refine wpAnyH_take (v := sv.den ρ) (by simpa using f2) hsel f4 (by rw [hr]; simpa using f1) (fun c a w h => h) (.inl ⟨by unfold Region.wanted; rw [hg], hv⟩) hS ?_
              obtain ⟨p1, p2, p3, p4, p5⟩ := hA.put hok hput
              exact ih _ s2 ρ _ w nds ss h hn p1 (hM.same p2 p3) he hS (fun q so hk hq => by rw [p2]; exact hmem q so hk hq) hK
            · cases f3
        · cases h
      · refine wpAnyH_all hr (by simp) fun i hi => ?_
        obtain ⟨n1, s1, h1, h2, h3⟩ := eachIx_spec h i hi
        split at h1
        · cases h1
        · rename_i o ho
          split at h1
          · rename_i n2 ss2 hrun
            split at h1
            · rename_i hkb
              split at h1
              · rename_i n3 outs hall
                cases h1
                refine wpOp_of_list (K' := fun a' w' => Held kept ρ0 mem0 w00 w' ∧ wpAnyH P .any l.toArray (QN K) (Held kept ρ0 mem0 w00) f (listed.setIfInBounds i true) a' w') ho ?_ (fun _ _ h => h) _
                refine runOps_sound hΓ l.toArray [o] s ρ a w n2 ss2 hrun (fun nd hnd => hn nd (h2 nd (by simp [hnd]))) hA hM fun s' hs' ρ' a' w' he' hA' hM' => ?_
                have hk' := List.all_eq_true.1 hkb s' hs'
                obtain ⟨m1, m2, g1, g2, g3⟩ := eachOf_spec hall s' hs'
                have hS' : Held kept ρ0 mem0 w00 w' := by
                  intro q so j hk hq hj
                  rw [← hS q so j hk hq hj]
                  obtain ⟨sq, e1, e2⟩ := hmem q so hk hq
                  obtain ⟨sq', e3, e4⟩ := keptB_spec hk' hk e1
                  have hlt : q < ρ0.o.length := by rw [hl0]; exact mem_lt hq
                  obtain ⟨b1, b2⟩ := ext_blk he hlt
                  obtain ⟨b3, b4⟩ := ext_blk (he.trans he') hlt
                  have hj' : j < sq.cells.length := by rw [e2]; exact hj
                  have c1 := (hM.objs q sq e1).cell j _ (List.getElem?_eq_getElem hj')
                  have c2 := (hM'.objs q sq' e3).cell j sq.cells[j] (by rw [e4]; exact List.getElem?_eq_getElem hj')
                  rw [b1, b2] at c1
                  rw [b3, b4] at c2
                  rw [c1, c2]
                  have hokc := List.all_eq_true.1 (hM.ok q sq e1) _ (List.getElem_mem hj')
                  obtain ⟨le, pe, rfl⟩ := he'
                  rw [SC.den_ext (by rw [hA.len, hA.lenO]; exact hokc)]
                refine ⟨hS', ih _ s' ρ' a' w' m1 m2 g1 (fun nd hnd => hn nd (h2 nd (by simp [g2 nd hnd]))) hA' hM' (he.trans he') hS' (fun q so hk hq => ?_) fun x hx => hK x (h3 x (g3 x hx))⟩
                obtain ⟨sq, e1, e2⟩ := hmem q so hk hq
                obtain ⟨sq', e3, e4⟩ := keptB_spec hk' hk e1
                exact ⟨sq', e3, by rw [e4, e2]⟩
              · cases h1
            · cases h1
          · cases h1

def runAny (P : Program) (Γ : List Entry) (l : List Oper) (s : St) : Option (List Need × List St) :=
  if Region.noSelect l.toArray then
    match runOps P Γ false l.toArray l s with
    | some (_, ss) => anyGo P Γ l (keptOf s.mem ss) l.length (Array.replicate l.length false) s
    | none => none
  else none

theorem keptOf_lt {mem : List SO} {ss : List St} {o : Nat} (h : keptAt (keptOf mem ss) o = true) : o < mem.length := by
  unfold keptAt keptOf at h
  rcases Nat.lt_or_ge o mem.length with hl | hl
  · exact hl
  · rw [List.getD, List.getElem?_eq_none (by simpa using hl)] at h
    cases h

theorem runAny_sound {P : Program} {Γ : List Entry} (hmix : P.follows .mixedOrders = true) (hΓ : ∀ e ∈ Γ, Meets P e) {base : List Int} {W : Nat → Nat → Prop} {w0 : World} {O : List (Nat × Nat)} {id : Nat} {l : List Oper} {s : St} {ρ : En} {a : Act} {w : World}
    {nds : List Need} {ss : List St} (h : runAny P Γ l s = some (nds, ss)) (hn : ∀ nd ∈ nds, nd.holds Γ base) (hA : RelA Γ base ρ s a) (hM : RelM W w0 O ρ s w) {Q : Exit → Act → World → Prop}
    (hQ : ∀ s' ∈ ss, ∀ ρ' a' w', RelA Γ base ρ' s' a' → RelM W w0 O ρ' s' w' → Q .normal a' w') : (Code.region id l.toArray true).wp P Q a w := by
  unfold runAny at h
  split at h
  · rename_i hsel
    split at h
    · rename_i n0 s0 h0
      refine Code.wp_mono (Q := QN (Q .normal)) (fun e a w he => by cases e <;> first | exact he | exact he.elim) ?_
      refine wp_region_held hmix (S := Held (keptOf s.mem s0) ρ s.mem { w with drawn := w.drawn + 1 }) ?_
      have := anyGo_sound (w00 := { w with drawn := w.drawn + 1 }) hΓ hsel hA.lenO (K := Q .normal) (fun o ho => keptOf_lt ho) l.length (Array.replicate l.length false) s ρ a _ nds ss h hn hA hM.drew (Ext.refl ρ) (fun _ _ _ _ _ _ => rfl) (fun q so _ hq => ⟨so, hq, rfl⟩) hQ
      simpa using this
    · cases h
  · cases h

end Go.Proofs.YtfeancgmmonebaaDoor.Sx

/-
  Reading-only heads, code, and a whole function: from a symbolic run to a contract. Conditions: none; each theorem bears its own.
-/
namespace Go.Proofs.YtfeancgmmonebaaDoor.Sx
open Go

/-! ## 1. Operations that leave memory alone, in every world of a class -/

theorem RelM.shrink {W : Nat → Nat → Prop} {w0 : World} {O : List (Nat × Nat)} {ρ : En} {s s' : St} {w w' : World} (h0 : RelM W w0 O ρ s w) {l : List Int} (h : RelM W w0 O ⟨ρ.e ++ l, ρ.o⟩ s' w') (hm : s'.mem = s.mem)
    (len : ρ.e.length = s.n) (lenO : ρ.o.length = s.mem.length) : RelM W w0 O ρ s w' := by
  refine ⟨fun o so ho => ?_, h0.ok, h0.dis, h0.own, h.fr, h.pre⟩
  have g := h.objs o so (by rw [hm]; exact ho)
  refine ⟨g.blk, fun j c hc => ?_, g.thaw⟩
  have := g.cell j c hc
  have e := SC.den_ext (l := l) (p := []) (e := ρ.e) (o := ρ.o) (c := c) (by rw [len, lenO]; exact List.all_eq_true.1 (h0.ok o so ho) c (List.mem_of_getElem? hc))
  rw [List.append_nil] at e
  rw [e] at this
  exact this

/-- The class: memory reads as the state says, in every world of it, and there is one. -/
structure Cls (W : Nat → Nat → Prop) (w0 : World) (O : List (Nat × Nat)) (C : World → Prop) (ρ : En) (s : St) : Prop where
  to : ∀ w, C w → RelM W w0 O ρ s w
  back : ∀ w, RelM W w0 O ρ s w → C w
  one : ∃ w, C w

theorem stepOp_quiet {P : Program} {Γ : List Entry} (hΓ : ∀ e ∈ Γ, Meets P e) {base : List Int} {W : Nat → Nat → Prop} {w0 : World} {O : List (Nat × Nat)} {C : World → Prop} {ρ : En} {s s' : St} {a : Act} {sv : SV} {nds : List Need} {o : Oper}
    (hA : RelA Γ base ρ s a) (hC : Cls W w0 O C ρ s) (h : stepOp P Γ true s o = some (s', sv, nds)) (hn : ∀ nd ∈ nds, nd.holds Γ base) :
    ∃ ρ', RelA Γ base ρ' s' a ∧ Cls W w0 O C ρ' s' ∧ sv.ok s'.n s'.mem.length = true ∧ s'.asm = s.asm ∧ ∀ w, C w → o.quietAt P a C w (sv.den ρ') := by
  have cls : ∀ {l : List Int}, s'.mem = s.mem → s.n ≤ s'.n → Cls W w0 O C ⟨ρ.e ++ l, ρ.o⟩ s' := by
    intro l hm hn
    obtain ⟨w1, hw1⟩ := hC.one
    exact ⟨fun w hw => (hC.to w hw).grow l hm hn hA.len hA.lenO, fun w hw => hC.back w ((hC.to w1 hw1).shrink hw hm hA.len hA.lenO), w1, hw1⟩
  unfold stepOp at h
  split at h
  · rename_i r hr
    split at h
    · rename_i s1 sv1 hg
      cases h
      obtain ⟨l, g1, g2, g3, g4, g5, g6, g7, g8⟩ := give_sound hA hg
      refine ⟨_, g1, cls g4 g8, g2, g7, fun w hw => ?_⟩
      unfold Oper.quietAt
      rw [opV_run hA (w := w) (hC.to w hw).objs.cells o hr]
      exact ⟨rfl, g3.symm⟩
    · cases h
  · split at h
    · rename_i c hop
      split at h
      · rename_i f hcal
        split at h
        · rename_i vs hvs
          obtain ⟨i, e, h1, rfl, h3⟩ := callAny_spec Γ 0 h
          rw [Nat.zero_add] at h3
          have hj : Γ.getD i noEntry = e := by simp [List.getD, h1]
          obtain ⟨l, q1, q2, q3, q4, q5, q6, q7⟩ := callE_sound (W := W) (w0 := w0) (O := O) hA hj (hΓ e (List.mem_of_getElem? h1)) h3 hn
          obtain ⟨q1a, q1b⟩ := q1 rfl
          have hcls : Cls W w0 O C ⟨ρ.e ++ l, ρ.o⟩ s' := cls q1b q6
          refine ⟨_, q1a, hcls, q2, q3, fun w hw => ?_⟩
          have hcall := q7 w (hC.to w hw)
          have hargs : c.args.map a.eval = (vs.map (SV.den ρ)).toArray := by
            apply Array.ext'
            simp [getAll_sound hA _ _ hvs]
          have hex : execOp a.eval o = callFunc e.f ((vs.map (SV.den ρ)).toArray) := by
            obtain ⟨dst, op, ty, pos, after, guard⟩ := o
            obtain ⟨callee, args, ats⟩ := c
            simp only at hop hcal hargs
            subst hop hcal
            rw [execOp_call_go, hargs]
            simp
          unfold Oper.quietAt
          rw [hex]
          rcases hcall with ⟨r1, r2⟩ | ⟨v, r1, r2⟩
          · rw [r1]
            refine ⟨rfl, r2.mono fun en w' ⟨p, p0, p1, p2, p3⟩ => ?_⟩
            have := p0 rfl
            subst this
            rw [List.append_nil] at p2 p3
            exact ⟨p3, hcls.back _ p2⟩
          · rw [r1]
            obtain ⟨p, p0, p1, p2, p3⟩ := r2
            have := p0 rfl
            subst this
            rw [List.append_nil] at p3
            cases p3
            exact ⟨rfl, rfl⟩
        · cases h
      · cases h
    · simp at h

theorem Cls.same {W : Nat → Nat → Prop} {w0 : World} {O : List (Nat × Nat)} {C : World → Prop} {ρ : En} {s s' : St} (h : Cls W w0 O C ρ s) (hm : s'.mem = s.mem) (hn : s'.n = s.n) : Cls W w0 O C ρ s' :=
  ⟨fun w hw => (h.to w hw).same hm hn, fun w hw => h.back w (hw.same hm.symm hn.symm), h.one⟩

theorem runOps_quiet {P : Program} {Γ : List Entry} (hΓ : ∀ e ∈ Γ, Meets P e) {base : List Int} {W : Nat → Nat → Prop} {w0 : World} {O : List (Nat × Nat)} {C : World → Prop} (ops : Array Oper) {Q : Act → Prop} :
    ∀ (l : List Oper) (s : St) (ρ : En) (a : Act) (nds : List Need) (ss : List St), runOps P Γ true ops l s = some (nds, ss) → (∀ nd ∈ nds, nd.holds Γ base) → RelA Γ base ρ s a → Cls W w0 O C ρ s →
      (∀ s' ∈ ss, ∀ ρ' a', RelA Γ base ρ' s' a' → Cls W w0 O C ρ' s' → Q a') → wpQuiet P ops C Q l a
  | [], s, ρ, a, nds, ss, h, hn, hA, hM, hQ => by
    cases h
    exact wpQuiet_nil (hQ s (by simp) ρ a hA hM)
  | o :: r, s, ρ, a, nds, ss, h, hn, hA, hM, hQ => by
    have go : ∀ (s : St) (ρ : En) (nds : List Need) (ss : List St), (match stepOp P Γ true s o with
          | some (s1, sv, nds) => match s1.put o.dst sv with
            | some s2 => match runOps P Γ true ops r s2 with
              | some (n, ss) => some (nds ++ n, ss)
              | none => none
            | none => none
          | none => none) = some (nds, ss) → (∀ nd ∈ nds, nd.holds Γ base) → RelA Γ base ρ s a → Cls W w0 O C ρ s → (∀ s' ∈ ss, ∀ ρ' a', RelA Γ base ρ' s' a' → Cls W w0 O C ρ' s' → Q a') →
          Region.wanted o (yielded ops a.tmps) = true → wpQuiet P ops C Q (o :: r) a := by
      intro s ρ nds ss h hn hA hM hQ hw
      split at h
      · rename_i s1 sv nd1 hst
        split at h
        · rename_i s2 hput
          split at h
          · rename_i n2 ss2 hrest
            simp only [Option.some.injEq, Prod.mk.injEq] at h
            obtain ⟨rfl, rfl⟩ := h
            refine wpQuiet_step fun K hK => ?_
            rw [if_pos hw]
            obtain ⟨ρ', t1, t2, t3, t4, t5⟩ := stepOp_quiet hΓ hA hM hst (fun nd hnd => hn nd (by simp [hnd]))
            refine ⟨_, t5, hK _ ?_⟩
            obtain ⟨p1, p2, p3, p4, p5⟩ := t1.put t3 hput
            exact runOps_quiet hΓ ops r s2 ρ' _ n2 _ hrest (fun nd hnd => hn nd (by simp [hnd])) p1 (t2.same p2 p3) hQ
          · cases h
        · cases h
      · cases h
    have skip : ∀ (s : St) (nds : List Need) (ss : List St), (match s.put o.dst (.tup []) with
          | some s2 => runOps P Γ true ops r s2
          | none => none) = some (nds, ss) → (∀ nd ∈ nds, nd.holds Γ base) → RelA Γ base ρ s a → Cls W w0 O C ρ s → (∀ s' ∈ ss, ∀ ρ' a', RelA Γ base ρ' s' a' → Cls W w0 O C ρ' s' → Q a') →
          Region.wanted o (yielded ops a.tmps) = false → wpQuiet P ops C Q (o :: r) a := by
      intro s nds ss h hn hA hM hQ hw
      split at h
      · rename_i s2 hput
        obtain ⟨p1, p2, p3, p4, p5⟩ := hA.put (tup_ok _ _) hput
        refine wpQuiet_step fun K hK => ?_
        rw [if_neg (by rw [hw]; exact Bool.false_ne_true)]
        refine hK _ ?_
        rw [← tup_den ρ]
        exact runOps_quiet hΓ ops r s2 ρ _ nds ss h hn p1 (hM.same p2 p3) hQ
      · cases h
    have hg := guard_spec hA ops o
    have test : ∀ (x : SI) (b : Bool), Cls W w0 O C ρ { s with asm := (x, b) :: s.asm } := fun x b =>
      ⟨fun w hw => (hM.to w hw).test _, fun w hw => hM.back w ⟨hw.objs, hw.ok, hw.dis, hw.own, hw.fr, hw.pre⟩, hM.one⟩
    unfold runOps at h
    simp only at h
    split at h
    · rename_i hgr
      rw [hgr] at hg
      exact go s ρ nds ss h hn hA hM hQ hg
    · rename_i hgr
      rw [hgr] at hg
      exact skip s nds ss h hn hA hM hQ hg
    · rename_i x want hgr
      rw [hgr] at hg
      obtain ⟨hx, hw⟩ := hg
      split at h
      · rename_i n1 s1 n2 s2 h1 h2
        simp only [Option.some.injEq, Prod.mk.injEq] at h
        obtain ⟨rfl, rfl⟩ := h
        by_cases hb : (x.val ρ.e != 0) = want
        · exact go _ ρ n1 s1 h1 (fun nd hnd => hn nd (by simp [hnd])) (hA.test hx hb) (test x want) (fun s' hs' => hQ s' (by simp [hs'])) (by rw [hw, hb]; simp)
        · have hb' : (x.val ρ.e != 0) = !want := by cases h1 : (x.val ρ.e != 0) <;> cases want <;> simp_all
          exact skip _ n2 s2 h2 (fun nd hnd => hn nd (by simp [hnd])) (hA.test hx hb') (test x (!want)) (fun s' hs' => hQ s' (by simp [hs'])) (by rw [hw, hb']; cases want <;> rfl)
      · cases h
    · cases h

/-! ## 2. Regions -/

def isTail (Γ : List Entry) (o : Oper) : Bool :=
  match o.op with
  | .store .. => true
  | .alloc _ => true
  | .box .. => true
  | .assign _ => true
  | .call c =>
    match c.callee with
    | .value (.func f) =>
      match Γ.find? fun e => Nat.beq e.f f with
      | some e => !(stillB (ini e.args).mem (fin e).mem)
      | none => false
    | _ => false
  | _ => false

def headLen (Γ : List Entry) : List Oper → Nat
  | [] => 0
  | o :: r => if isTail Γ o then 0 else headLen Γ r + 1

def eachSt (k : St → Option (List Need × List St)) : List St → Option (List Need × List St)
  | [] => some ([], [])
  | s :: r => match k s, eachSt k r with
    | some (n1, s1), some (n2, s2) => some (n1 ++ n2, s1 ++ s2)
    | _, _ => none

theorem eachSt_spec {k : St → Option (List Need × List St)} : ∀ {ss : List St} {nds : List Need} {outs : List St}, eachSt k ss = some (nds, outs) →
    ∀ s ∈ ss, ∃ n1 s1, k s = some (n1, s1) ∧ (∀ nd ∈ n1, nd ∈ nds) ∧ ∀ x ∈ s1, x ∈ outs
  | [], _, _, _, s, hs => by cases hs
  | s0 :: r, nds, outs, h, s, hs => by
    unfold eachSt at h
    split at h
    · rename_i n1 s1 n2 s2 h1 h2
      cases h
      rcases List.mem_cons.1 hs with rfl | hs
      · exact ⟨n1, s1, h1, fun nd hnd => by simp [hnd], fun x hx => by simp [hx]⟩
      · obtain ⟨n', s', g1, g2, g3⟩ := eachSt_spec h2 s hs
        exact ⟨n', s', g1, fun nd hnd => by simp [g2 nd hnd], fun x hx => by simp [g3 x hx]⟩
    · cases h

def runAt (P : Program) (Γ : List Entry) (l : List Oper) (n : Nat) (s : St) : Option (List Need × List St) :=
  match runOps P Γ true l.toArray (l.take n) s with
  | some (n1, ss) => match eachSt (runOps P Γ false l.toArray (l.drop n)) ss with
    | some (n2, outs) => some (n1 ++ n2, outs)
    | none => none
  | none => none

def runRegion (P : Program) (Γ : List Entry) (l : List Oper) (draw : Bool) (s : St) : Option (List Need × List St) :=
  if draw then
    match (if flowB l (headLen Γ l) then runAt P Γ l (headLen Γ l) s else none) with
    | some x => some x
    | none => match (if flowB l l.length then runAt P Γ l l.length s else none) with
      | some x => some x
      | none => runAny P Γ l s
  else runOps P Γ false l.toArray l s

theorem runAt_sound {P : Program} {Γ : List Entry} (hmix : P.follows .mixedOrders = true) (hΓ : ∀ e ∈ Γ, Meets P e) {base : List Int} {W : Nat → Nat → Prop} {w0 : World} {O : List (Nat × Nat)} {id : Nat} {l : List Oper} {s : St} {ρ : En} {a : Act} {w : World}
    {nds : List Need} {ss : List St} {n : Nat} (hB : flowB l n = true) (h : runAt P Γ l n s = some (nds, ss)) (hn : ∀ nd ∈ nds, nd.holds Γ base) (hA : RelA Γ base ρ s a) (hM : RelM W w0 O ρ s w) {Q : Exit → Act → World → Prop}
    (hQ : ∀ s' ∈ ss, ∀ ρ' a' w', RelA Γ base ρ' s' a' → RelM W w0 O ρ' s' w' → Q .normal a' w') : (Code.region id l.toArray true).wp P Q a w := by
  unfold runAt at h
  split at h
  · rename_i n1 ss1 h1
    split at h
    · rename_i n2 outs h2
      cases h
      refine wp_region_flow n hmix hB hM.drew ?_
      refine runOps_quiet hΓ _ _ s ρ a n1 ss1 h1 (fun nd hnd => hn nd (by simp [hnd])) hA (C := RelM W w0 O ρ s) ⟨fun _ h => h, fun _ h => h, w, hM⟩ fun s' hs' ρ' a' hA' hC' w' hw' => ?_
      obtain ⟨n3, s3, g1, g2, g3⟩ := eachSt_spec h2 s' hs'
      exact runOps_sound hΓ _ _ s' ρ' a' w' n3 s3 g1 (fun nd hnd => hn nd (by simp [g2 nd hnd])) hA' (hC'.to w' hw') fun x hx ρ2 a2 w2 _ => hQ x (g3 x hx) ρ2 a2 w2
    · cases h
  · cases h

theorem runRegion_sound {P : Program} {Γ : List Entry} (hmix : P.follows .mixedOrders = true) (hΓ : ∀ e ∈ Γ, Meets P e) {base : List Int} {W : Nat → Nat → Prop} {w0 : World} {O : List (Nat × Nat)} {id : Nat} {l : List Oper} {draw : Bool} {s : St} {ρ : En} {a : Act} {w : World}
    {nds : List Need} {ss : List St} (h : runRegion P Γ l draw s = some (nds, ss)) (hn : ∀ nd ∈ nds, nd.holds Γ base) (hA : RelA Γ base ρ s a) (hM : RelM W w0 O ρ s w) {Q : Exit → Act → World → Prop}
    (hQ : ∀ s' ∈ ss, ∀ ρ' a' w', RelA Γ base ρ' s' a' → RelM W w0 O ρ' s' w' → Q .normal a' w') : (Code.region id l.toArray draw).wp P Q a w := by
  unfold runRegion at h
  cases draw with
  | false => exact wp_region_lit (runOps_sound hΓ _ l s ρ a w nds ss h hn hA hM fun s' hs' ρ' a' w' _ => hQ s' hs' ρ' a' w')
  | true =>
    simp only [if_true] at h
    split at h
    · rename_i x hx
      cases h
      split at hx
      · rename_i hB
        exact runAt_sound hmix hΓ hB hx hn hA hM hQ
      · cases hx
    · split at h
      · rename_i x hx
        cases h
        split at hx
        · rename_i hB
          exact runAt_sound hmix hΓ hB hx hn hA hM hQ
        · cases hx
      · exact runAny_sound hmix hΓ h hn hA hM hQ

/-! ## 3. Code -/

inductive EK where
  | normal
  | exit (id : Nat)
  | ret

def EK.ex : EK → Exit
  | .normal => .normal
  | .exit id => .exit id
  | .ret => .ret

abbrev Outs := List Need × List (EK × St)

def thenAll (k : St → Option Outs) : List (EK × St) → Option Outs
  | [] => some ([], [])
  | (.normal, s) :: r => match k s, thenAll k r with
    | some (n1, o1), some (n2, o2) => some (n1 ++ n2, o1 ++ o2)
    | _, _ => none
  | x :: r => match thenAll k r with
    | some (n, o) => some (n, x :: o)
    | none => none

theorem thenAll_spec {k : St → Option Outs} : ∀ {l : List (EK × St)} {nds : List Need} {outs : List (EK × St)}, thenAll k l = some (nds, outs) → ∀ x ∈ l,
    (x.1 = .normal ∧ ∃ n1 o1, k x.2 = some (n1, o1) ∧ (∀ nd ∈ n1, nd ∈ nds) ∧ ∀ y ∈ o1, y ∈ outs) ∨ (x.1 ≠ .normal ∧ x ∈ outs)
  | [], _, _, _, x, hx => by cases hx
  | (ek, s) :: r, nds, outs, h, x, hx => by
    cases ek with
    | normal =>
      unfold thenAll at h
      split at h
      · rename_i n1 o1 n2 o2 h1 h2
        cases h
        rcases List.mem_cons.1 hx with rfl | hx
        · exact .inl ⟨rfl, n1, o1, h1, fun nd hnd => by simp [hnd], fun y hy => by simp [hy]⟩
        · rcases thenAll_spec h2 x hx with ⟨e, n', o', g1, g2, g3⟩ | ⟨e, g⟩
          · exact .inl ⟨e, n', o', g1, fun nd hnd => by simp [g2 nd hnd], fun y hy => by simp [g3 y hy]⟩
          · exact .inr ⟨e, by simp [g]⟩
      · cases h
    | exit id =>
      unfold thenAll at h
      split at h
      · rename_i n o h1
        cases h
        rcases List.mem_cons.1 hx with rfl | hx
        · exact .inr ⟨(fun e => EK.noConfusion e), by simp⟩
        · rcases thenAll_spec h1 x hx with ⟨e, n', o', g1, g2, g3⟩ | ⟨e, g⟩
          · exact .inl ⟨e, n', o', g1, g2, fun y hy => by simp [g3 y hy]⟩
          · exact .inr ⟨e, by simp [g]⟩
      · cases h
    | ret =>
      unfold thenAll at h
      split at h
      · rename_i n o h1
        cases h
        rcases List.mem_cons.1 hx with rfl | hx
        · exact .inr ⟨(fun e => EK.noConfusion e), by simp⟩
        · rcases thenAll_spec h1 x hx with ⟨e, n', o', g1, g2, g3⟩ | ⟨e, g⟩
          · exact .inl ⟨e, n', o', g1, g2, fun y hy => by simp [g3 y hy]⟩
          · exact .inr ⟨e, by simp [g]⟩
      · cases h

def offBlock (id : Nat) (x : EK × St) : EK × St :=
  match x.1 with
  | .exit i => if Nat.beq i id then (.normal, x.2) else x
  | _ => x

def execLoop (k : St → Option Outs) : Nat → St → Option Outs
  | 0, _ => none
  | n + 1, s => match k s with
    | some (n1, o1) => match thenAll (execLoop k n) o1 with
      | some (n2, o2) => some (n1 ++ n2, o2)
      | none => none
    | none => none

def exec (P : Program) (Γ : List Entry) : Nat → Code → St → Option Outs
  | 0, _, _ => none
  | f + 1, c, s =>
    match c with
    | .skip => some ([], [(.normal, s)])
    | .region _ ops draw => match runRegion P Γ ops.toList draw s with
      | some (n, ss) => some (n, ss.map fun s => (.normal, s))
      | none => none
    | .seq a b => match exec P Γ f a s with
      | some (n1, o1) => match thenAll (exec P Γ f b) o1 with
        | some (n2, o2) => some (n1 ++ n2, o2)
        | none => none
      | none => none
    | .cond x a b => match s.get x with
      | some (.one (.sc (.bool q))) => match known s.asm q with
        | some true => exec P Γ f a s
        | some false => exec P Γ f b s
        | none => match exec P Γ f a { s with asm := (q, true) :: s.asm }, exec P Γ f b { s with asm := (q, false) :: s.asm } with
          | some (n1, o1), some (n2, o2) => some (n1 ++ n2, o1 ++ o2)
          | _, _ => none
      | _ => none
    | .block id a => match exec P Γ f a s with
      | some (n, o) => some (n, o.map (offBlock id))
      | none => none
    | .loop a => execLoop (exec P Γ f a) 300 s
    | .exit id => some ([], [(.exit id, s)])
    | .ret => some ([], [(.ret, s)])
    | _ => none

theorem execLoop_sound {P : Program} {Γ : List Entry} {base : List Int} {W : Nat → Nat → Prop} {w0 : World} {O : List (Nat × Nat)} {c : Code} {k : St → Option Outs} {Q : Exit → Act → World → Prop}
    (hk : ∀ (Q : Exit → Act → World → Prop) (s : St) (ρ : En) (a : Act) (w : World) (nds : List Need) (outs : List (EK × St)), k s = some (nds, outs) → (∀ nd ∈ nds, nd.holds Γ base) → RelA Γ base ρ s a → RelM W w0 O ρ s w →
      (∀ x ∈ outs, ∀ ρ' a' w', RelA Γ base ρ' x.2 a' → RelM W w0 O ρ' x.2 w' → Q x.1.ex a' w') → c.wp P Q a w) :
    ∀ (n : Nat) (s : St) (ρ : En) (a : Act) (w : World) (nds : List Need) (outs : List (EK × St)), execLoop k n s = some (nds, outs) → (∀ nd ∈ nds, nd.holds Γ base) → RelA Γ base ρ s a → RelM W w0 O ρ s w →
      (∀ x ∈ outs, ∀ ρ' a' w', RelA Γ base ρ' x.2 a' → RelM W w0 O ρ' x.2 w' → Q x.1.ex a' w') → Code.rounds P c Q n a w
  | 0, s, ρ, a, w, nds, outs, h, _, _, _, _ => by cases h
  | n + 1, s, ρ, a, w, nds, outs, h, hn, hA, hM, hQ => by
    unfold execLoop at h
    split at h
    · rename_i n1 o1 h1
      split at h
      · rename_i n2 o2 h2
        cases h
        rw [rounds_succ]
        refine hk _ s ρ a w n1 o1 h1 (fun nd hnd => hn nd (by simp [hnd])) hA hM fun x hx ρ' a' w' hA' hM' => ?_
        rcases thenAll_spec h2 x hx with ⟨e, n', o', g1, g2, g3⟩ | ⟨e, g⟩
        · rw [e]
          exact execLoop_sound hk n x.2 ρ' a' w' n' o' g1 (fun nd hnd => hn nd (by simp [g2 nd hnd])) hA' hM' fun y hy => hQ y (g3 y hy)
        · have := hQ x g ρ' a' w' hA' hM'
          cases hx1 : x.1 with
          | normal => exact (e hx1).elim
          | exit id => rw [hx1] at this; exact this
          | ret => rw [hx1] at this; exact this
      · cases h
    · cases h

theorem exec_sound {P : Program} {Γ : List Entry} (hmix : P.follows .mixedOrders = true) (hΓ : ∀ e ∈ Γ, Meets P e) {base : List Int} {W : Nat → Nat → Prop} {w0 : World} {O : List (Nat × Nat)} :
    ∀ (f : Nat) (c : Code) (Q : Exit → Act → World → Prop) (s : St) (ρ : En) (a : Act) (w : World) (nds : List Need) (outs : List (EK × St)), exec P Γ f c s = some (nds, outs) → (∀ nd ∈ nds, nd.holds Γ base) →
      RelA Γ base ρ s a → RelM W w0 O ρ s w → (∀ x ∈ outs, ∀ ρ' a' w', RelA Γ base ρ' x.2 a' → RelM W w0 O ρ' x.2 w' → Q x.1.ex a' w') → c.wp P Q a w
  | 0, c, Q, s, ρ, a, w, nds, outs, h, _, _, _, _ => by cases h
  | f + 1, c, Q, s, ρ, a, w, nds, outs, h, hn, hA, hM, hQ => by
    cases c with
    | skip =>
      cases h
      exact wp_skip (hQ (.normal, s) (by simp) ρ a w hA hM)
    | ret =>
      cases h
      exact wp_ret (hQ (.ret, s) (by simp) ρ a w hA hM)
    | exit id =>
      cases h
      exact wp_exit (hQ (.exit id, s) (by simp) ρ a w hA hM)
    | region id ops draw =>
      simp only [exec] at h
      split at h
      · rename_i n ss h1
        cases h
        obtain ⟨l⟩ := ops
        refine runRegion_sound hmix hΓ h1 hn hA hM fun s' hs' ρ' a' w' hA' hM' => ?_
        exact hQ (.normal, s') (List.mem_map.2 ⟨s', hs', rfl⟩) ρ' a' w' hA' hM'
      · cases h
    | seq x y =>
      simp only [exec] at h
      split at h
      · rename_i n1 o1 h1
        split at h
        · rename_i n2 o2 h2
          cases h
          refine wp_seq (exec_sound hmix hΓ f x _ s ρ a w n1 o1 h1 (fun nd hnd => hn nd (by simp [hnd])) hA hM fun z hz ρ' a' w' hA' hM' => ?_)
          rcases thenAll_spec h2 z hz with ⟨e, n', o', g1, g2, g3⟩ | ⟨e, g⟩
          · rw [e]
            exact exec_sound hmix hΓ f y Q z.2 ρ' a' w' n' o' g1 (fun nd hnd => hn nd (by simp [g2 nd hnd])) hA' hM' fun u hu => hQ u (g3 u hu)
          · have := hQ z g ρ' a' w' hA' hM'
            cases hx1 : z.1 with
            | normal => exact (e hx1).elim
            | exit id => rw [hx1] at this; exact this
            | ret => rw [hx1] at this; exact this
        · cases h
      · cases h
    | cond x y z =>
      simp only [exec] at h
      split at h
      · rename_i q hq
        have hg := get_sound hA hq
        have hev : a.eval x = .bool (q.val ρ.e != 0) := hg.1
        split at h
        · rename_i hk
          have hb := known_val hA.asm hk
          rw [hb] at hev
          exact wp_cond_true hev (exec_sound hmix hΓ f y Q s ρ a w nds outs h hn hA hM hQ)
        · rename_i hk
          have hb := known_val hA.asm hk
          rw [hb] at hev
          exact wp_cond_false hev (exec_sound hmix hΓ f z Q s ρ a w nds outs h hn hA hM hQ)
        · split at h
          · rename_i n1 o1 n2 o2 h1 h2
            cases h
            refine wp_cond_split hev (fun hb => ?_) (fun hb => ?_)
            · exact exec_sound hmix hΓ f y Q _ ρ a w n1 o1 h1 (fun nd hnd => hn nd (by simp [hnd])) (hA.test hg.2 hb) (hM.test _) fun u hu => hQ u (by simp [hu])
            · exact exec_sound hmix hΓ f z Q _ ρ a w n2 o2 h2 (fun nd hnd => hn nd (by simp [hnd])) (hA.test hg.2 hb) (hM.test _) fun u hu => hQ u (by simp [hu])
          · cases h
      · cases h
    | block id x =>
      simp only [exec] at h
      split at h
      · rename_i n o h1
        cases h
        refine wp_block (exec_sound hmix hΓ f x _ s ρ a w _ _ h1 hn hA hM fun z hz ρ' a' w' hA' hM' => ?_)
        have hq := hQ (offBlock id z) (List.mem_map.2 ⟨z, hz, rfl⟩) ρ' a' w'
        cases hz1 : z.1 with
        | normal =>
          simp only [offBlock, hz1] at hq
          exact hq hA' hM'
        | ret =>
          simp only [offBlock, hz1] at hq
          exact hq hA' hM'
        | exit i =>
          simp only [offBlock, hz1] at hq
          simp only [EK.ex, Exit.inBlock]
          by_cases hi : i = id
          · rw [if_pos hi]
            rw [if_pos (by rw [hi]; exact Nat.beq_refl id)] at hq
            exact hq hA' hM'
          · rw [if_neg hi]
            rw [if_neg (fun e => hi (Nat.eq_of_beq_eq_true e)), hz1] at hq
            exact hq hA' hM'
      · cases h
    | loop x =>
      simp only [exec] at h
      exact wp_loop_rounds _ (execLoop_sound (Γ := Γ) (base := base) (W := W) (w0 := w0) (O := O) (fun Q s ρ a w nds outs h hn hA hM hQ => exec_sound hmix hΓ f x Q s ρ a w nds outs h hn hA hM hQ) _ s ρ a w nds outs h hn hA hM hQ)
    | rangeFunc _ _ _ _ => cases h
    | scope _ => cases h
    | label _ => cases h
    | goto _ => cases h
    | refuse _ => cases h

end Go.Proofs.YtfeancgmmonebaaDoor.Sx
