/-
  Regions, symbolically: operations in their order; a region that asks for an order: its first operations only read, the others follow one by one. Conditions: none; each theorem bears its own.
-/
import Derived.Test.YtfeancgmmonebaaMgc
import Derived.Deep.Quiet
import Derived.StillTail
namespace Go.Proofs.Ytfeancgmmonebaa.Sx
open Go

/-! ## 1. A region whose head only reads, in every world of a class, and whose tail is a chain -/
section
variable {P : Program} {ops : Array Oper} {md : Region.Mode} {C : World → Prop}

/-- The head's operations, in whatever order; then 'L'. -/
def headAny (P : Program) (md : Region.Mode) (ops : Array Oper) (C : World → Prop) (n : Nat) (L : Array Bool → Act → Prop) : Nat → Array Bool → Act → Prop
  | 0, listed, a => L listed a
  | f + 1, listed, a => Region.ready md ops listed ≠ [] ∧ ∀ i ∈ Region.ready md ops listed, i < n ∧ qOp P ops C i (headAny P md ops C n L f (listed.setIfInBounds i true)) a

theorem any_of_head {n g : Nat} {L : Array Bool → Act → Prop} {Q : Exit → Act → World → Prop} (hL : ∀ listed a w, C w → L listed a → wpAny P md ops Q g listed a w) :
    ∀ (f : Nat) (listed : Array Bool) (a : Act) (w : World), C w → headAny P md ops C n L f listed a → wpAny P md ops Q (f + g) listed a w
  | 0, listed, a, w, hw, h => by rw [Nat.zero_add]; exact hL _ _ _ hw h
  | f + 1, listed, a, w, hw, h => by
    rw [show f + 1 + g = (f + g) + 1 by omega]
    exact ⟨fun h0 => absurd h0 h.1, fun i hi => wpOp_of_qOp hw (fun a' w' hw' h' => any_of_head hL f _ a' w' hw' h') (h.2 i hi).2⟩

theorem head_first {n i : Nat} {oi : Oper} {v : Value} {L : Array Bool → Act → Prop} (hi : ops[i]? = some oi) (hsel : ∀ (j : Nat) (o : Oper) cs b, ops[j]? = some o → o.op ≠ .select cs b)
    (hs : Region.sinkB md ops n = true) (hc : Region.chainB md ops n = true) (hn : n < ops.size) (hin : i < n) (hdone : ∀ listed a, L listed a → ∀ j ∈ Region.ready md ops listed, n ≤ j) :
    ∀ (f : Nat) (listed : Array Bool) (a : Act), HeadInv md ops n listed →
      (∀ j oj, ops[j]? = some oj → j ≠ i → listed.getD j true = false → (∀ e ∈ oj.after, Region.binds md e = true → e.on ≠ i) → oi.apart ops oj = true) →
      i ∈ Region.ready md ops listed → YieldsIn P ops C oi v a →
      headAny P md ops C n L f (listed.setIfInBounds i true) (a.put oi.dst v) → headAny P md ops C n L (f + 1) listed a := by
  intro f
  induction f with
  | zero =>
    intro listed a inv _ hr hy H
    have hun := (mem_ready.1 hr).1
    refine ⟨fun h => (by rw [h] at hr; cases hr), fun j hj => ?_⟩
    have hjn : j < n := by
      rcases Nat.lt_or_ge j n with h | h
      · exact h
      · exact absurd hj (tail_waits hs hc hn inv _ i rfl hin hun j h)
    refine ⟨hjn, ?_⟩
    by_cases hji : j = i
    · subst hji; exact hy.qOp hi H
    · have := hdone _ _ H j (ready_mono hj hji)
      omega
  | succ f ih =>
    intro listed a inv hfree hr hy H
    have hun := (mem_ready.1 hr).1
    refine ⟨fun h => (by rw [h] at hr; cases hr), fun j hj => ?_⟩
    have hjn : j < n := by
      rcases Nat.lt_or_ge j n with h | h
      · exact h
      · exact absurd hj (tail_waits hs hc hn inv _ i rfl hin hun j h)
    refine ⟨hjn, ?_⟩
    by_cases hji : j = i
    · subst hji; exact hy.qOp hi H
    · have h1 := (H.2 j (ready_mono hj hji)).2
      obtain ⟨hjun, oj, hoj, hall⟩ := mem_ready.1 hj
      have hnot : ∀ e ∈ oj.after, Region.binds md e = true → e.on ≠ i := fun e he hb heq => by
        have h1 := hall e he hb
        rw [heq, getD_both hun] at h1
        cases h1
      have h2 := qOp_put hoj (hfree j oj hoj hji hjun hnot) (fun cs b => hsel i oi cs b hi) (fun cs b => hsel j oj cs b hoj) hy h1
      have hfree' : ∀ k ok, ops[k]? = some ok → k ≠ i → (listed.setIfInBounds j true).getD k true = false →
          (∀ e ∈ ok.after, Region.binds md e = true → e.on ≠ i) → oi.apart ops ok = true := fun k ok hk hki hun hno => by
        refine hfree k ok hk hki ?_ hno
        by_cases hjk : j = k
        · subst hjk; exact hjun
        · rw [getD_set_ne true hjk] at hun; exact hun
      refine qOp_mono (fun a' h3 => ih (listed.setIfInBounds j true) a' (inv.set hj hjn) hfree' (ready_mono hr (Ne.symm hji)) h3.1 ?_) h2
      rw [Array.setIfInBounds_comm _ _ hji]
      exact h3.2

theorem head_lex {n g : Nat} {Lq : Act → Prop} (hsel : Region.noSelect ops = true) (hs : Region.sinkB md ops n = true) (hc : Region.chainB md ops n = true) (hn : n < ops.size) :
    ∀ (l : List Oper) (k : Nat) (listed : Array Bool) (a : Act), (∀ j, j < l.length → l[j]? = ops[k + j]?) → k + l.length = n → HeadInv md ops n listed →
    Region.lexHead md ops g l.length k listed = true → wpQuiet P ops C Lq l a →
    headAny P md ops C n (fun listed' a' => Region.seqB md ops g n listed' = true ∧ Lq a') l.length listed a
  | [], k, listed, a, _, hk, _, hB, h => by
    have : k = n := by simpa using hk
    subst this
    exact ⟨by simpa [Region.lexHead] using hB, h⟩
  | o :: l, k, listed, a, hl, hk, inv, hB, h => by
    have h0 : ops[k]? = some o := by simpa using (hl 0 (by simp)).symm
    simp only [List.length_cons, Region.lexHead, Bool.and_eq_true] at hB
    obtain ⟨⟨hr, hf⟩, hB'⟩ := hB
    have hkn : k < n := by simp only [List.length_cons] at hk; omega
    have hr' : k ∈ Region.ready md ops listed := by simpa using hr
    have hst : qOp P ops C k (wpQuiet P ops C Lq l) a := by unfold qOp; simp only [h0]; exact h
    obtain ⟨v, hy, hK⟩ := yieldsIn_of_qOp h0 hst
    exact head_first h0 (Region.noSelect_spec hsel) hs hc hn hkn (fun listed' a' hL => seqB_ready hL.1) l.length listed a inv (Region.free_spec h0 hf) hr' hy
      (head_lex hsel hs hc hn l (k + 1) _ _ (fun j hj => by have := hl (j + 1) (by simp; omega); simpa [Nat.add_assoc, Nat.add_comm 1 j] using this) (by simp only [List.length_cons] at hk; omega) (inv.set hr' hkn) hB' hK)

theorem wp_region_head {id : Nat} {Q : Exit → Act → World → Prop} {a : Act} {w : World} {l : List Oper} (n : Nat) (hm : P.follows .mixedOrders = true) (hB : Region.lexTailB .any l.toArray n = true)
    (hC : C { w with drawn := w.drawn + 1 })
    (h : wpQuiet P l.toArray C (fun a' => ∀ w', C w' → wpList P l.toArray Q (l.drop n) a' w') (l.take n) a) : (Code.region id l.toArray true).wp P Q a w := by
  simp only [Region.lexTailB, Bool.and_eq_true, decide_eq_true_eq] at hB
  obtain ⟨⟨⟨⟨hsel, hn⟩, hs⟩, hc⟩, hlex⟩ := hB
  have hn' : n < l.length := by simpa using hn
  have htl : (l.take n).length = n := by simp; omega
  have hdl : (l.drop n).length = l.toArray.size - n := by simp
  have inv0 : HeadInv .any l.toArray n (Array.replicate l.toArray.size false) :=
    ⟨by simp, fun j oj _ hl => (by rw [getD_replicate_false] at hl; cases hl), fun t _ ht => getD_in (by simpa using ht) (getD_replicate_false _ _)⟩
  have H := head_lex (md := .any) (g := l.toArray.size - n) hsel hs hc hn (l.take n) 0 _ a (fun j hj => by
    have hj' : j < n := by rw [htl] at hj; exact hj
    simp [hj']) (by simpa using htl) inv0 (by rw [htl]; exact hlex) h
  refine wp_region_any hm ?_
  have := any_of_head (Q := Q) (g := l.toArray.size - n) (fun listed a' w' hw' hL => by
    have := wpAny_of_seq (md := .any) (Q' := Q) (l.drop n) n listed a' w' (fun j => by simp [List.getElem?_drop]) (by rw [hdl]; exact hL.1) (hL.2 w' hw')
    rwa [hdl] at this) _ _ _ _ hC H
  rw [htl, show n + (l.toArray.size - n) = l.toArray.size by omega] at this
  exact this
end

/-! ## 2. One operation -/

inductive GRes where
  | run
  | skip
  | part (x : SI) (want : Bool)
  | fail

def guardRes (ops : Array Oper) (s : St) (o : Oper) : GRes :=
  match o.guard with
  | none => .run
  | some (j, want) =>
    match (ops[j]?).bind (·.dst) with
    | none => .fail
    | some d =>
      match s.tm.get d with
      | some (.one (.sc (.bool x))) =>
        match known s.asm x with
        | some b => if b == want then .run else .skip
        | none => .part x want
      | some (.tup []) => .skip
      | _ => .fail

def getAll (s : St) : List Operand → Option (List SV)
  | [] => some []
  | x :: r => match s.get x, getAll s r with
    | some v, some vs => some (v :: vs)
    | _, _ => none

def callAny (quiet : Bool) (s : St) (f : FuncId) (vs : List SV) : Nat → List Entry → Option (St × SV × List Need)
  | _, [] => none
  | j, e :: r => if Nat.beq e.f f then match callE quiet s e j vs with
      | some x => some x
      | none => callAny quiet s f vs (j + 1) r
    else callAny quiet s f vs (j + 1) r

def stepOp (P : Program) (Γ : List Entry) (quiet : Bool) (s : St) (o : Oper) : Option (St × SV × List Need) :=
  match opV P s o.op with
  | some r => match s.give r with
    | some (s', sv) => some (s', sv, [])
    | none => none
  | none =>
    match o.op with
    | .call c => match c.callee with
      | .value (.func f) => match getAll s c.args.toList with
        | some vs => callAny quiet s f vs 0 Γ
        | none => none
      | _ => none
    | op => if quiet then none else match opM P s op with
      | some (s', sv) => some (s', sv, [])
      | none => none

def runOps (P : Program) (Γ : List Entry) (quiet : Bool) (ops : Array Oper) : List Oper → St → Option (List Need × List St)
  | [], s => some ([], [s])
  | o :: r, s =>
    let go (s : St) : Option (List Need × List St) := match stepOp P Γ quiet s o with
      | some (s1, sv, nds) => match s1.put o.dst sv with
        | some s2 => match runOps P Γ quiet ops r s2 with
          | some (n, ss) => some (nds ++ n, ss)
          | none => none
        | none => none
      | none => none
    let skip (s : St) : Option (List Need × List St) := match s.put o.dst (.tup []) with
      | some s2 => runOps P Γ quiet ops r s2
      | none => none
    match guardRes ops s o with
    | .run => go s
    | .skip => skip s
    | .part x want => match go { s with asm := (x, want) :: s.asm }, skip { s with asm := (x, !want) :: s.asm } with
      | some (n1, s1), some (n2, s2) => some (n1 ++ n2, s1 ++ s2)
      | _, _ => none
    | .fail => none

theorem known_val {asm : List (SI × Bool)} {e : List Int} (h : asmHolds e asm) {x : SI} {b : Bool} (hk : known asm x = some b) : (x.val e != 0) = b := by
  cases x with
  | lit n => simpa [known, SI.val] using hk
  | var i =>
    simp only [known] at hk
    obtain ⟨q, hq, rfl⟩ := Option.map_eq_some_iff.1 hk
    have h1 := List.mem_of_find?_eq_some hq
    have h2 := List.find?_some hq
    have h3 := h q h1
    rw [← h3, ← SI.beq_eq (x := q.1) (y := .var i) h2]

theorem RelA.test {Γ : List Entry} {base : List Int} {ρ : En} {s : St} {a : Act} (hA : RelA Γ base ρ s a) {x : SI} {b : Bool} (hx : x.ok s.n = true) (hb : (x.val ρ.e != 0) = b) :
    RelA Γ base ρ { s with asm := (x, b) :: s.asm } a :=
  ⟨hA.env, hA.len, hA.lenO, hA.size, hA.dfr, hA.tm, fun c hc => by
    rcases List.mem_cons.1 hc with rfl | hc
    · exact hb
    · exact hA.asm c hc, fun c hc => by
    rcases List.mem_cons.1 hc with rfl | hc
    · exact hx
    · exact hA.asmok c hc⟩

theorem RelM.test {W : Nat → Nat → Prop} {w0 : World} {O : List (Nat × Nat)} {ρ : En} {s : St} {w : World} (h : RelM W w0 O ρ s w) (asm : List (SI × Bool)) : RelM W w0 O ρ { s with asm := asm } w :=
  ⟨h.objs, h.ok, h.dis, h.own, h.fr, h.pre⟩

theorem RelM.same {W : Nat → Nat → Prop} {w0 : World} {O : List (Nat × Nat)} {ρ : En} {s s' : St} {w : World} (h : RelM W w0 O ρ s w) (hm : s'.mem = s.mem) (hn : s'.n = s.n) : RelM W w0 O ρ s' w :=
  ⟨fun o so ho => h.objs o so (by rw [← hm]; exact ho), fun o so ho => by rw [hm, hn]; exact h.ok o so (by rw [← hm]; exact ho), by rw [hm]; exact h.dis, fun o so ho => h.own o so (by rw [← hm]; exact ho), h.fr, h.pre⟩

/-- Is the operation wanted? As the guard was read. -/
theorem guard_spec {Γ : List Entry} {base : List Int} {ρ : En} {s : St} {a : Act} (hA : RelA Γ base ρ s a) (ops : Array Oper) (o : Oper) :
    match guardRes ops s o with
    | .run => Region.wanted o (yielded ops a.tmps) = true
    | .skip => Region.wanted o (yielded ops a.tmps) = false
    | .part x want => x.ok s.n = true ∧ Region.wanted o (yielded ops a.tmps) = ((x.val ρ.e != 0) == want)
    | .fail => True := by
  unfold guardRes Region.wanted
  cases hg : o.guard with
  | none => rfl
  | some g =>
    obtain ⟨j, want⟩ := g
    simp only
    cases hd : (ops[j]?).bind (·.dst) with
    | none => trivial
    | some d =>
      simp only
      cases ht : s.tm.get d with
      | none => trivial
      | some sv =>
        have h := hA.tm d sv ht
        have hy : yielded ops a.tmps j = match sv.den ρ with | .bool b => some b | _ => none := by
          simp only [yielded, hd, Option.bind_some, h.2]
          cases hq : sv.den ρ <;> rfl
        cases sv with
        | tup vs =>
          cases vs with
          | nil => simp only [hy, SV.den]; rfl
          | cons v vs => trivial
        | one v =>
          cases v with
          | agg cs => trivial
          | sc c =>
            cases c with
            | bool x =>
              simp only [hy, SV.den, S1.den, SC.den]
              have e1 : (some (x.val ρ.e != 0) == some want) = ((x.val ρ.e != 0) == want) := rfl
              cases hk : known s.asm x with
              | none => dsimp only; exact ⟨h.1, e1⟩
              | some b =>
                have hb := known_val hA.asm hk
                dsimp only
                by_cases hbw : (b == want) = true
                · rw [if_pos hbw]
                  dsimp only
                  rw [e1, hb]; exact hbw
                · rw [if_neg hbw]
                  dsimp only
                  rw [e1, hb]; simpa using hbw
            | _ => trivial

theorem getAll_sound {Γ : List Entry} {base : List Int} {ρ : En} {s : St} {a : Act} (hA : RelA Γ base ρ s a) : ∀ (l : List Operand) (vs : List SV), getAll s l = some vs → l.map a.eval = vs.map (SV.den ρ)
  | [], vs, h => by cases h; rfl
  | x :: r, vs, h => by
    unfold getAll at h
    split at h
    · rename_i v vs' h1 h2
      cases h
      simp [(get_sound hA h1).1, getAll_sound hA r vs' h2]
    · cases h

theorem callAny_spec {quiet : Bool} {s : St} {f : FuncId} {vs : List SV} {x : St × SV × List Need} : ∀ (Γ : List Entry) (j : Nat), callAny quiet s f vs j Γ = some x →
    ∃ (i : Nat) (e : Entry), Γ[i]? = some e ∧ e.f = f ∧ callE quiet s e (j + i) vs = some x
  | [], j, h => by cases h
  | e :: r, j, h => by
    have go : callAny quiet s f vs (j + 1) r = some x → ∃ (i : Nat) (e' : Entry), (e :: r)[i]? = some e' ∧ e'.f = f ∧ callE quiet s e' (j + i) vs = some x := fun h => by
      obtain ⟨i, e', h1, h2, h3⟩ := callAny_spec r (j + 1) h
      exact ⟨i + 1, e', by simpa using h1, h2, by rw [show j + (i + 1) = j + 1 + i by omega]; exact h3⟩
    unfold callAny at h
    split at h
    · rename_i hf
      split at h
      · rename_i y hy
        cases h
        exact ⟨0, e, rfl, Nat.eq_of_beq_eq_true hf, hy⟩
      · exact go h
    · exact go h

/-- More numbers, more objects. -/
def Ext (ρ ρ' : En) : Prop := ∃ l p, ρ' = ⟨ρ.e ++ l, ρ.o ++ p⟩

theorem Ext.refl (ρ : En) : Ext ρ ρ := ⟨[], [], by simp⟩
theorem Ext.trans {a b c : En} (h : Ext a b) (g : Ext b c) : Ext a c := by
  obtain ⟨l, p, rfl⟩ := h
  obtain ⟨m, q, rfl⟩ := g
  exact ⟨l ++ m, p ++ q, by simp⟩

/-- What one step leaves. -/
structure After (Γ : List Entry) (base : List Int) (W : Nat → Nat → Prop) (w0 : World) (O : List (Nat × Nat)) (ρ : En) (s : St) (s' : St) (sv : SV) (a : Act) (v : Value) (w' : World) (ρ' : En) : Prop where
  ext : Ext ρ ρ'
  rA : RelA Γ base ρ' s' a
  rM : RelM W w0 O ρ' s' w'
  ok : sv.ok s'.n s'.mem.length = true
  val : v = sv.den ρ'
  asm : s'.asm = s.asm

theorem stepOp_sound {P : Program} {Γ : List Entry} (hΓ : ∀ e ∈ Γ, Meets P e) {base : List Int} {W : Nat → Nat → Prop} {w0 : World} {O : List (Nat × Nat)} {ρ : En} {s s' : St} {a : Act} {w : World} {sv : SV} {nds : List Need} {o : Oper}
    (hA : RelA Γ base ρ s a) (hM : RelM W w0 O ρ s w) (h : stepOp P Γ false s o = some (s', sv, nds)) (hn : ∀ nd ∈ nds, nd.holds Γ base) {next : Act → World → Prop} {Q : Exit → Act → World → Prop}
    (hk : ∀ v w' ρ', After Γ base W w0 O ρ s s' sv a v w' ρ' → next (a.put o.dst v) w') : o.wp P a w next Q := by
  unfold stepOp at h
  split at h
  · rename_i r hr
    split at h
    · rename_i s1 sv1 hg
      cases h
      obtain ⟨l, g1, g2, g3, g4, g5, g6, g7, g8⟩ := give_sound hA hg
      have hrun := opV_run hA (w := w) hM.objs.cells o hr
      unfold Oper.wp
      rw [hrun]
      exact hk _ _ _ ⟨⟨l, [], by simp⟩, g1, hM.grow l g4 g8 hA.len hA.lenO, g2, g3.symm, g7⟩
    · cases h
  · split at h
    · rename_i c hop
      split at h
      · rename_i f hcal
        split at h
        · rename_i vs hvs
          obtain ⟨i, e, h1, rfl, h3⟩ := callAny_spec Γ 0 h
          rw [Nat.zero_add] at h3
          have hj : Γ.getD i noEntry = e := by simp [List.getD, h1]
          obtain ⟨l, _, q2, q3, q4, q5, q6, q7⟩ := callE_sound (W := W) (w0 := w0) (O := O) hA hj (hΓ e (List.mem_of_getElem? h1)) h3 hn
          have hcall := q7 w hM
          have hargs : c.args.map a.eval = (vs.map (SV.den ρ)).toArray := by
            apply Array.ext'
            simp [getAll_sound hA _ _ hvs]
          have hex : execOp a.eval o = callFunc e.f ((vs.map (SV.den ρ)).toArray) := by
            obtain ⟨dst, op, ty, pos, after, guard⟩ := o
            obtain ⟨callee, args, ats⟩ := c
            simp only at hop hcal hargs
            subst hop hcal
            rw [execOp_call_go, hargs]
            simp
          unfold Oper.wp
          rw [hex]
          rcases hcall with ⟨r1, r2⟩ | ⟨v, r1, r2⟩
          · rw [r1, Oper.upon_enter]
            refine r2.mono fun en w' ⟨p, _, p1, p2, p3⟩ => ?_
            subst p3
            exact hk _ _ _ ⟨⟨l, p, rfl⟩, p1, p2, q2, rfl, q3⟩
          · rw [r1, Oper.upon_value]
            obtain ⟨p, _, p1, p2, p3⟩ := r2
            cases p3
            exact hk _ _ _ ⟨⟨l, p, rfl⟩, p1, p2, q2, rfl, q3⟩
        · cases h
      · cases h
    · simp only [Bool.false_eq_true, if_false] at h
      split at h
      · rename_i s1 sv1 hg
        cases h
        obtain ⟨p, w', nx, g1, g2, g3, g4, g5, g6, g7, g8, g9⟩ := opM_sound hA hM o hg
        unfold Oper.wp
        rw [g8]
        rcases g9 with rfl | ⟨rfl, g9⟩
        · exact hk _ _ _ ⟨⟨[], p, by simp⟩, g1, g2, g3, rfl, g6⟩
        · rw [Oper.upon_skip]
          exact hk _ _ _ ⟨⟨[], p, by simp⟩, g1, g2, g3, g9.symm, g6⟩
      · cases h

theorem tup_ok (n m : Nat) : (SV.tup []).ok n m = true := rfl
theorem tup_den (ρ : En) : (SV.tup []).den ρ = undef := rfl

theorem runOps_sound {P : Program} {Γ : List Entry} (hΓ : ∀ e ∈ Γ, Meets P e) {base : List Int} {W : Nat → Nat → Prop} {w0 : World} {O : List (Nat × Nat)} (ops : Array Oper) {Q : Exit → Act → World → Prop} :
    ∀ (l : List Oper) (s : St) (ρ : En) (a : Act) (w : World) (nds : List Need) (ss : List St), runOps P Γ false ops l s = some (nds, ss) → (∀ nd ∈ nds, nd.holds Γ base) → RelA Γ base ρ s a → RelM W w0 O ρ s w →
      (∀ s' ∈ ss, ∀ ρ' a' w', Ext ρ ρ' → RelA Γ base ρ' s' a' → RelM W w0 O ρ' s' w' → Q .normal a' w') → wpList P ops Q l a w
  | [], s, ρ, a, w, nds, ss, h, hn, hA, hM, hQ => by
    cases h
    exact wpList_nil (hQ s (by simp) ρ a w (Ext.refl ρ) hA hM)
  | o :: r, s, ρ, a, w, nds, ss, h, hn, hA, hM, hQ => by
    have go : ∀ (s : St) (ρ : En) (nds : List Need) (ss : List St), (match stepOp P Γ false s o with
          | some (s1, sv, nds) => match s1.put o.dst sv with
            | some s2 => match runOps P Γ false ops r s2 with
              | some (n, ss) => some (nds ++ n, ss)
              | none => none
            | none => none
          | none => none) = some (nds, ss) → (∀ nd ∈ nds, nd.holds Γ base) → RelA Γ base ρ s a → RelM W w0 O ρ s w → (∀ s' ∈ ss, ∀ ρ' a' w', Ext ρ ρ' → RelA Γ base ρ' s' a' → RelM W w0 O ρ' s' w' → Q .normal a' w') →
          Region.wanted o (yielded ops a.tmps) = true → wpList P ops Q (o :: r) a w := by
      intro s ρ nds ss h hn hA hM hQ hw
      split at h
      · rename_i s1 sv nd1 hst
        split at h
        · rename_i s2 hput
          split at h
          · rename_i n2 ss2 hrest
            simp only [Option.some.injEq, Prod.mk.injEq] at h
            obtain ⟨rfl, rfl⟩ := h
            refine wpList_step fun K hK => ?_
            rw [if_pos hw]
            refine stepOp_sound hΓ hA hM hst (fun nd hnd => hn nd (by simp [hnd])) fun v w' ρ' aft => ?_
            refine hK _ _ ?_
            obtain ⟨p1, p2, p3, p4, p5⟩ := aft.rA.put aft.ok hput
            rw [aft.val]
            exact runOps_sound hΓ ops r s2 ρ' _ w' n2 _ hrest (fun nd hnd => hn nd (by simp [hnd])) p1 (aft.rM.same p2 p3) fun s' hs' ρ2 a2 w2 he => hQ s' hs' ρ2 a2 w2 (aft.ext.trans he)
          · cases h
        · cases h
      · cases h
    have skip : ∀ (s : St) (nds : List Need) (ss : List St), (match s.put o.dst (.tup []) with
          | some s2 => runOps P Γ false ops r s2
          | none => none) = some (nds, ss) → (∀ nd ∈ nds, nd.holds Γ base) → RelA Γ base ρ s a → RelM W w0 O ρ s w → (∀ s' ∈ ss, ∀ ρ' a' w', Ext ρ ρ' → RelA Γ base ρ' s' a' → RelM W w0 O ρ' s' w' → Q .normal a' w') →
          Region.wanted o (yielded ops a.tmps) = false → wpList P ops Q (o :: r) a w := by
      intro s nds ss h hn hA hM hQ hw
      split at h
      · rename_i s2 hput
        obtain ⟨p1, p2, p3, p4, p5⟩ := hA.put (tup_ok _ _) hput
        refine wpList_skip hw ?_
        rw [← tup_den ρ]
        exact runOps_sound hΓ ops r s2 ρ _ w nds ss h hn p1 (hM.same p2 p3) hQ
      · cases h
    have hg := guard_spec hA ops o
    unfold runOps at h
    simp only at h
    split at h
    · rename_i hgr
      rw [hgr] at hg
      exact go s ρ nds ss h hn hA hM hQ hg
    · rename_i hgr
      rw [hgr] at hg
      exact skip s nds ss h hn hA hM hQ hg
    · rename_i x want hgr
      rw [hgr] at hg
      obtain ⟨hx, hw⟩ := hg
      split at h
      · rename_i n1 s1 n2 s2 h1 h2
        simp only [Option.some.injEq, Prod.mk.injEq] at h
        obtain ⟨rfl, rfl⟩ := h
        by_cases hb : (x.val ρ.e != 0) = want
        · exact go _ ρ n1 s1 h1 (fun nd hnd => hn nd (by simp [hnd])) (hA.test hx hb) (hM.test _) (fun s' hs' => hQ s' (by simp [hs'])) (by rw [hw, hb]; simp)
        · have hb' : (x.val ρ.e != 0) = !want := by cases h1 : (x.val ρ.e != 0) <;> cases want <;> simp_all
          exact skip _ n2 s2 h2 (fun nd hnd => hn nd (by simp [hnd])) (hA.test hx hb') (hM.test _) (fun s' hs' => hQ s' (by simp [hs'])) (by rw [hw, hb']; cases want <;> rfl)
      · cases h
    · cases h

end Go.Proofs.Ytfeancgmmonebaa.Sx

