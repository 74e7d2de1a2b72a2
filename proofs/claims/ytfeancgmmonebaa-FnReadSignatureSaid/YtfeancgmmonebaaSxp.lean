/-
  A region that asks for an order, where the flow of values alone does not settle it: the orders are gone through, but what only reads comes first. Conditions: none; each theorem bears its own.
-/
import Derived.Test.YtfeancgmmonebaaSxo
import Derived.OrdersHeld
namespace Go.Proofs.Ytfeancgmmonebaa.Sx
open Go

def SC.same : SC → SC → Bool
  | .int k x, .int k' x' => decide (k = k') && x.beq x'
  | .bool x, .bool x' => x.beq x'
  | .ptr o d, .ptr o' d' => Nat.beq o o' && Nat.beq d d'
  | .slice o d l c, .slice o' d' l' c' => Nat.beq o o' && Nat.beq d d' && Nat.beq l l' && Nat.beq c c'
  | _, _ => false

theorem SC.same_eq {c c' : SC} (h : SC.same c c' = true) : c = c' := by
  cases c <;> cases c' <;> simp only [SC.same, Bool.and_eq_true, Bool.false_eq_true, decide_eq_true_eq] at h
  · rw [h.1, SI.beq_eq h.2]
  · rw [SI.beq_eq h]
  · rw [Nat.eq_of_beq_eq_true h.1, Nat.eq_of_beq_eq_true h.2]
  · rw [Nat.eq_of_beq_eq_true h.1.1.1, Nat.eq_of_beq_eq_true h.1.1.2, Nat.eq_of_beq_eq_true h.1.2, Nat.eq_of_beq_eq_true h.2]

def sameCs : List SC → List SC → Bool
  | [], [] => true
  | c :: cs, d :: ds => SC.same c d && sameCs cs ds
  | _, _ => false

theorem sameCs_eq : ∀ {cs ds : List SC}, sameCs cs ds = true → cs = ds
  | [], [], _ => rfl
  | c :: cs, d :: ds, h => by
    simp only [sameCs, Bool.and_eq_true] at h
    rw [SC.same_eq h.1, sameCs_eq h.2]
  | [], _ :: _, h => by simp [sameCs] at h
  | _ :: _, [], h => by simp [sameCs] at h

def keptAt (kept : List Bool) (o : Nat) : Bool := kept.getD o false

/-- The objects that are to keep their cells keep them. -/
def keptB (kept : List Bool) (mem mem' : List SO) : Bool :=
  (List.range mem.length).all fun o => !keptAt kept o || match mem[o]?, mem'[o]? with
    | some x, some y => sameCs x.cells y.cells
    | _, _ => false

theorem keptB_spec {kept : List Bool} {mem mem' : List SO} (h : keptB kept mem mem' = true) {o : Nat} {so : SO} (hk : keptAt kept o = true) (ho : mem[o]? = some so) : ∃ so', mem'[o]? = some so' ∧ so'.cells = so.cells := by
  have h1 := List.all_eq_true.1 h o (List.mem_range.2 (mem_lt ho))
  simp only [hk, Bool.not_true, Bool.false_or, ho] at h1
  split at h1
  · rename_i x y hx hy
    cases hx
    exact ⟨y, hy, (sameCs_eq h1).symm⟩
  · cases h1

def keptOf (mem : List SO) (ss : List St) : List Bool :=
  (List.range mem.length).map fun o => ss.all fun s' => match mem[o]?, s'.mem[o]? with
    | some x, some y => sameCs x.cells y.cells
    | _, _ => false

/-- What is not sure to keep its cells is not looked at. -/
def blind (kept : List Bool) : Nat → List SO → List SO
  | _, [] => []
  | i, so :: r => (if keptAt kept i then so else ⟨[], false⟩) :: blind kept (i + 1) r

theorem blind_get (kept : List Bool) : ∀ (mem : List SO) (i o : Nat), (blind kept i mem)[o]? = (mem[o]?).map fun so => if keptAt kept (i + o) then so else ⟨[], false⟩
  | [], i, o => by simp [blind]
  | so :: r, i, 0 => by simp [blind]
  | so :: r, i, o + 1 => by
    simp only [blind, List.getElem?_cons_succ]
    rw [blind_get kept r (i + 1) o, show i + 1 + o = i + (o + 1) by omega]

theorem blind_length (kept : List Bool) : ∀ (mem : List SO) (i : Nat), (blind kept i mem).length = mem.length
  | [], _ => rfl
  | so :: r, i => by simp [blind, blind_length kept r]

def takeV (P : Program) (kept : List Bool) (s : St) (o : Oper) : Option SV :=
  match o.guard with
  | some _ => none
  | none => match opV P { s with mem := blind kept 0 s.mem } o.op with
    | some (.val sv) => if sv.ok s.n s.mem.length then some sv else none
    | _ => none

def eachIx (k : Nat → Option (List Need × List St)) : List Nat → Option (List Need × List St)
  | [] => some ([], [])
  | i :: r => match k i, eachIx k r with
    | some (n1, s1), some (n2, s2) => some (n1 ++ n2, s1 ++ s2)
    | _, _ => none

theorem eachIx_spec {k : Nat → Option (List Need × List St)} : ∀ {rs : List Nat} {nds : List Need} {outs : List St}, eachIx k rs = some (nds, outs) →
    ∀ i ∈ rs, ∃ n1 s1, k i = some (n1, s1) ∧ (∀ nd ∈ n1, nd ∈ nds) ∧ ∀ x ∈ s1, x ∈ outs
  | [], _, _, _, i, hi => by cases hi
  | i0 :: r, nds, outs, h, i, hi => by
    unfold eachIx at h
    split at h
    · rename_i n1 s1 n2 s2 h1 h2
      cases h
      rcases List.mem_cons.1 hi with rfl | hi
      · exact ⟨n1, s1, h1, fun nd hnd => by simp [hnd], fun x hx => by simp [hx]⟩
      · obtain ⟨n', s', g1, g2, g3⟩ := eachIx_spec h2 i hi
        exact ⟨n', s', g1, fun nd hnd => by simp [g2 nd hnd], fun x hx => by simp [g3 x hx]⟩
    · cases h

def eachOf (k : St → Option (List Need × List St)) : List St → Option (List Need × List St)
  | [] => some ([], [])
  | s :: r => match k s, eachOf k r with
    | some (n1, s1), some (n2, s2) => some (n1 ++ n2, s1 ++ s2)
    | _, _ => none

theorem eachOf_spec {k : St → Option (List Need × List St)} : ∀ {ss : List St} {nds : List Need} {outs : List St}, eachOf k ss = some (nds, outs) →
    ∀ s ∈ ss, ∃ n1 s1, k s = some (n1, s1) ∧ (∀ nd ∈ n1, nd ∈ nds) ∧ ∀ x ∈ s1, x ∈ outs
  | [], _, _, _, s, hs => by cases hs
  | s0 :: r, nds, outs, h, s, hs => by
    unfold eachOf at h
    split at h
    · rename_i n1 s1 n2 s2 h1 h2
      cases h
      rcases List.mem_cons.1 hs with rfl | hs
      · exact ⟨n1, s1, h1, fun nd hnd => by simp [hnd], fun x hx => by simp [hx]⟩
      · obtain ⟨n', s', g1, g2, g3⟩ := eachOf_spec h2 s hs
        exact ⟨n', s', g1, fun nd hnd => by simp [g2 nd hnd], fun x hx => by simp [g3 x hx]⟩
    · cases h

/-- One that may be taken first. -/
def firstOf (P : Program) (l : List Oper) (kept : List Bool) (listed : Array Bool) (s : St) : List Nat → Option (Nat × Oper × SV)
  | [] => none
  | i :: r => match l[i]? with
    | some o => match takeV P kept s o with
      | some sv => if Region.free .any l.toArray listed i then some (i, o, sv) else firstOf P l kept listed s r
      | none => firstOf P l kept listed s r
    | none => firstOf P l kept listed s r

theorem firstOf_spec {P : Program} {l : List Oper} {kept : List Bool} {listed : Array Bool} {s : St} {i : Nat} {o : Oper} {sv : SV} : ∀ {rs : List Nat}, firstOf P l kept listed s rs = some (i, o, sv) →
    i ∈ rs ∧ l[i]? = some o ∧ takeV P kept s o = some sv ∧ Region.free .any l.toArray listed i = true
  | [], h => by cases h
  | j :: r, h => by
    have tail : firstOf P l kept listed s r = some (i, o, sv) → i ∈ j :: r ∧ l[i]? = some o ∧ takeV P kept s o = some sv ∧ Region.free .any l.toArray listed i = true := fun h => by
      obtain ⟨h1, h2⟩ := firstOf_spec h
      exact ⟨List.mem_cons_of_mem _ h1, h2⟩
    unfold firstOf at h
    split at h
    · rename_i o' ho
      split at h
      · rename_i sv' hsv
        split at h
        · rename_i hf
          simp only [Option.some.injEq, Prod.mk.injEq] at h
          obtain ⟨rfl, rfl, rfl⟩ := h
          exact ⟨List.mem_cons_self, ho, hsv, hf⟩
        · exact tail h
      · exact tail h
    · exact tail h

def anyGo (P : Program) (Γ : List Entry) (l : List Oper) (kept : List Bool) : Nat → Array Bool → St → Option (List Need × List St)
  | f, listed, s =>
    match Region.ready .any l.toArray listed with
    | [] => some ([], [s])
    | i0 :: rs =>
      match f with
      | 0 => none
      | f + 1 =>
        match firstOf P l kept listed s (i0 :: rs) with
        | some (i, o, sv) => match s.put o.dst sv with
          | some s2 => anyGo P Γ l kept f (listed.setIfInBounds i true) s2
          | none => none
        | none => eachIx (fun i => match l[i]? with
          | none => none
          | some o => match runOps P Γ false l.toArray [o] s with
            | some (n1, ss) => if ss.all (fun s' => keptB kept s.mem s'.mem) then
                match eachOf (anyGo P Γ l kept f (listed.setIfInBounds i true)) ss with
                | some (n2, outs) => some (n1 ++ n2, outs)
                | none => none
              else none
            | none => none) (i0 :: rs)

def QN (K : Act → World → Prop) : Exit → Act → World → Prop := fun ex a w => match ex with
  | .normal => K a w
  | _ => False

theorem wpOp_of_list {P : Program} {l : List Oper} {i : Nat} {o : Oper} {K K' : Act → World → Prop} {a : Act} {w : World} (hi : l[i]? = some o) (h : wpList P l.toArray (QN K') [o] a w) (hk : ∀ a w, K' a w → K a w) (Q : Exit → Act → World → Prop) :
    wpOp P l.toArray Q i K a w := by
  unfold wpOp
  have hi' : l.toArray[i]? = some o := by simpa using hi
  simp only [hi']
  simp only [wpList] at h
  split
  · rename_i hw
    rw [if_pos hw] at h
    rcases h with h | ⟨_, _, _, h⟩
    · refine .inl ?_
      unfold Oper.wp at *
      generalize (execOp a.eval o).run P w = r at *
      cases r with
      | ok n w' =>
        cases n <;> simp only [Oper.upon] at h ⊢ <;>
          first
            | exact hk _ _ h
            | exact Calls.mono h (fun e w'' he => by
                cases e with
                | returned v => exact hk _ _ he
                | panicked c => exact he.elim
                | outgrown => obtain ⟨_, _, he⟩ := he; exact he.elim)
            | exact Rows.mono h (fun _ _ he => hk _ _ he)
            | exact h
      | halt x w' => cases x <;> simp only [Oper.upon] at h ⊢ <;> first | exact h | exact h.elim
    · exact h.elim
  · rename_i hw
    rw [if_neg hw] at h
    exact hk _ _ h

/-- The cells of the kept objects are as they were. -/
def Held (kept : List Bool) (ρ0 : En) (mem0 : List SO) (w00 : World) (w : World) : Prop :=
  ∀ (o : Nat) (so : SO) (j : Nat), keptAt kept o = true → mem0[o]? = some so → j < so.cells.length → w.cell? ⟨ρ0.blk o, ρ0.off o + j, none⟩ = w00.cell? ⟨ρ0.blk o, ρ0.off o + j, none⟩

theorem ext_blk {ρ ρ' : En} (h : Ext ρ ρ') {o : Nat} (ho : o < ρ.o.length) : ρ'.blk o = ρ.blk o ∧ ρ'.off o = ρ.off o := by
  obtain ⟨l, p, rfl⟩ := h
  exact ⟨En.blk_ext ρ.e _ ρ.o _ o ho, En.off_ext ρ.e _ ρ.o _ o ho⟩

theorem anyGo_sound {P : Program} {Γ : List Entry} (hΓ : ∀ e ∈ Γ, Meets P e) {base : List Int} {W : Nat → Nat → Prop} {w0 : World} {O : List (Nat × Nat)} {l : List Oper} {kept : List Bool} (hsel : Region.noSelect l.toArray = true)
    {ρ0 : En} {mem0 : List SO} {w00 : World} (hl0 : ρ0.o.length = mem0.length) {K : Act → World → Prop} (hkl : ∀ o, keptAt kept o = true → o < mem0.length) :
    ∀ (f : Nat) (listed : Array Bool) (s : St) (ρ : En) (a : Act) (w : World) (nds : List Need) (ss : List St), anyGo P Γ l kept f listed s = some (nds, ss) → (∀ nd ∈ nds, nd.holds Γ base) → RelA Γ base ρ s a → RelM W w0 O ρ s w →
      Ext ρ0 ρ → Held kept ρ0 mem0 w00 w → (∀ (o : Nat) (so : SO), keptAt kept o = true → mem0[o]? = some so → ∃ so', s.mem[o]? = some so' ∧ so'.cells = so.cells) →
      (∀ s' ∈ ss, ∀ ρ' a' w', RelA Γ base ρ' s' a' → RelM W w0 O ρ' s' w' → K a' w') → wpAnyH P .any l.toArray (QN K) (Held kept ρ0 mem0 w00) f listed a w := by
  intro f
  induction f with
  | zero =>
    intro listed s ρ a w nds ss h hn hA hM he hS hmem hK
    unfold anyGo at h
    split at h
    · rename_i hr
      cases h
      exact wpAnyH_done hr (hK s (by simp) ρ a w hA hM) 0
    · cases h
  | succ f ih =>
    intro listed s ρ a w nds ss h hn hA hM he hS hmem hK
    unfold anyGo at h
    split at h
    · rename_i hr
      cases h
      exact wpAnyH_done hr (hK s (by simp) ρ a w hA hM) _
    · rename_i i0 rs hr
      simp only at h
      split at h
      · rename_i i o sv hfirst
        obtain ⟨f1, f2, f3, f4⟩ := firstOf_spec hfirst
        split at h
        · rename_i s2 hput
          unfold takeV at f3
          split at f3
          · cases f3
          · rename_i hg
            split at f3
            · rename_i sv' hop
              obtain ⟨hok, rfl⟩ : sv'.ok s.n s.mem.length = true ∧ sv = sv' := by
                by_cases hc : sv'.ok s.n s.mem.length = true
                · rw [if_pos hc] at f3
                  cases f3
                  exact ⟨hc, rfl⟩
                · rw [if_neg hc] at f3
                  cases f3
              have hAb : RelA Γ base ρ { s with mem := blind kept 0 s.mem } a := by
                have := hA.objs (blind kept 0 s.mem) [] (by simp [blind_length])
                simpa using this
              -- in every world of the class
              have hv : ∀ w', Held kept ρ0 mem0 w00 w' → (execOp a.eval o).run P w' = .ok (.value (sv.den ρ)) w' := by
                intro w' hw'
                refine opV_run (r := .val sv) hAb ?_ o hop
                intro q so hq j c hc
                simp only [blind_get, Nat.zero_add] at hq
                obtain ⟨sq, hsq, rfl⟩ := Option.map_eq_some_iff.1 hq
                by_cases hk : keptAt kept q = true
                · rw [if_pos hk] at hc
                  have hlt := hkl q hk
                  obtain ⟨s0, hs0⟩ : ∃ s0, mem0[q]? = some s0 := ⟨mem0[q], List.getElem?_eq_getElem hlt⟩
                  obtain ⟨sq', g1, g2⟩ := hmem q s0 hk hs0
                  rw [hsq] at g1
                  cases g1
                  have hj : j < s0.cells.length := by rw [← g2]; exact (List.getElem?_eq_some_iff.1 hc).1
                  obtain ⟨b1, b2⟩ := ext_blk he (o := q) (by rw [hl0]; exact hlt)
                  have c1 := (hM.objs q sq hsq).cell j c hc
                  rw [b1, b2] at c1 ⊢
                  rw [hw' q s0 j hk hs0 hj, ← hS q s0 j hk hs0 hj, c1]
                · rw [if_neg hk] at hc
                  simp at hc
              refine wpAnyH_take (v := sv.den ρ) (by simpa using f2) hsel f4 (by rw [hr]; simpa using f1) (fun c a w h => h) (.inl ⟨by unfold Region.wanted; rw [hg], hv⟩) hS ?_
              obtain ⟨p1, p2, p3, p4, p5⟩ := hA.put hok hput
              exact ih _ s2 ρ _ w nds ss h hn p1 (hM.same p2 p3) he hS (fun q so hk hq => by rw [p2]; exact hmem q so hk hq) hK
            · cases f3
        · cases h
      · refine wpAnyH_all hr (by simp) fun i hi => ?_
        obtain ⟨n1, s1, h1, h2, h3⟩ := eachIx_spec h i hi
        split at h1
        · cases h1
        · rename_i o ho
          split at h1
          · rename_i n2 ss2 hrun
            split at h1
            · rename_i hkb
              split at h1
              · rename_i n3 outs hall
                cases h1
                refine wpOp_of_list (K' := fun a' w' => Held kept ρ0 mem0 w00 w' ∧ wpAnyH P .any l.toArray (QN K) (Held kept ρ0 mem0 w00) f (listed.setIfInBounds i true) a' w') ho ?_ (fun _ _ h => h) _
                refine runOps_sound hΓ l.toArray [o] s ρ a w n2 ss2 hrun (fun nd hnd => hn nd (h2 nd (by simp [hnd]))) hA hM fun s' hs' ρ' a' w' he' hA' hM' => ?_
                have hk' := List.all_eq_true.1 hkb s' hs'
                obtain ⟨m1, m2, g1, g2, g3⟩ := eachOf_spec hall s' hs'
                have hS' : Held kept ρ0 mem0 w00 w' := by
                  intro q so j hk hq hj
                  rw [← hS q so j hk hq hj]
                  obtain ⟨sq, e1, e2⟩ := hmem q so hk hq
                  obtain ⟨sq', e3, e4⟩ := keptB_spec hk' hk e1
                  have hlt : q < ρ0.o.length := by rw [hl0]; exact mem_lt hq
                  obtain ⟨b1, b2⟩ := ext_blk he hlt
                  obtain ⟨b3, b4⟩ := ext_blk (he.trans he') hlt
                  have hj' : j < sq.cells.length := by rw [e2]; exact hj
                  have c1 := (hM.objs q sq e1).cell j _ (List.getElem?_eq_getElem hj')
                  have c2 := (hM'.objs q sq' e3).cell j sq.cells[j] (by rw [e4]; exact List.getElem?_eq_getElem hj')
                  rw [b1, b2] at c1
                  rw [b3, b4] at c2
                  rw [c1, c2]
                  have hokc := List.all_eq_true.1 (hM.ok q sq e1) _ (List.getElem_mem hj')
                  obtain ⟨le, pe, rfl⟩ := he'
                  rw [SC.den_ext (by rw [hA.len, hA.lenO]; exact hokc)]
                refine ⟨hS', ih _ s' ρ' a' w' m1 m2 g1 (fun nd hnd => hn nd (h2 nd (by simp [g2 nd hnd]))) hA' hM' (he.trans he') hS' (fun q so hk hq => ?_) fun x hx => hK x (h3 x (g3 x hx))⟩
                obtain ⟨sq, e1, e2⟩ := hmem q so hk hq
                obtain ⟨sq', e3, e4⟩ := keptB_spec hk' hk e1
                exact ⟨sq', e3, by rw [e4, e2]⟩
              · cases h1
            · cases h1
          · cases h1

def runAny (P : Program) (Γ : List Entry) (l : List Oper) (s : St) : Option (List Need × List St) :=
  if Region.noSelect l.toArray then
    match runOps P Γ false l.toArray l s with
    | some (_, ss) => anyGo P Γ l (keptOf s.mem ss) l.length (Array.replicate l.length false) s
    | none => none
  else none

theorem keptOf_lt {mem : List SO} {ss : List St} {o : Nat} (h : keptAt (keptOf mem ss) o = true) : o < mem.length := by
  unfold keptAt keptOf at h
  rcases Nat.lt_or_ge o mem.length with hl | hl
  · exact hl
  · rw [List.getD, List.getElem?_eq_none (by simpa using hl)] at h
    cases h

theorem runAny_sound {P : Program} {Γ : List Entry} (hmix : P.follows .mixedOrders = true) (hΓ : ∀ e ∈ Γ, Meets P e) {base : List Int} {W : Nat → Nat → Prop} {w0 : World} {O : List (Nat × Nat)} {id : Nat} {l : List Oper} {s : St} {ρ : En} {a : Act} {w : World}
    {nds : List Need} {ss : List St} (h : runAny P Γ l s = some (nds, ss)) (hn : ∀ nd ∈ nds, nd.holds Γ base) (hA : RelA Γ base ρ s a) (hM : RelM W w0 O ρ s w) {Q : Exit → Act → World → Prop}
    (hQ : ∀ s' ∈ ss, ∀ ρ' a' w', RelA Γ base ρ' s' a' → RelM W w0 O ρ' s' w' → Q .normal a' w') : (Code.region id l.toArray true).wp P Q a w := by
  unfold runAny at h
  split at h
  · rename_i hsel
    split at h
    · rename_i n0 s0 h0
      refine Code.wp_mono (Q := QN (Q .normal)) (fun e a w he => by cases e <;> first | exact he | exact he.elim) ?_
      refine wp_region_held hmix (S := Held (keptOf s.mem s0) ρ s.mem { w with drawn := w.drawn + 1 }) ?_
      have := anyGo_sound (w00 := { w with drawn := w.drawn + 1 }) hΓ hsel hA.lenO (K := Q .normal) (fun o ho => keptOf_lt ho) l.length (Array.replicate l.length false) s ρ a _ nds ss h hn hA hM.drew (Ext.refl ρ) (fun _ _ _ _ _ _ => rfl) (fun q so _ hq => ⟨so, hq, rfl⟩) hQ
      simpa using this
    · cases h
  · cases h

end Go.Proofs.Ytfeancgmmonebaa.Sx
