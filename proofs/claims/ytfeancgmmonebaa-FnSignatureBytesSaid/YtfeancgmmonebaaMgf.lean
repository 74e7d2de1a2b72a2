/-
  Reading-only heads, code, and a whole function: from a symbolic run to a contract. Conditions: none; each theorem bears its own.
-/
import Derived.Test.YtfeancgmmonebaaMge
import Derived.LoopN
namespace Go.Proofs.Ytfeancgmmonebaa.Sx
open Go

/-! ## 1. Operations that leave memory alone, in every world of a class -/

theorem RelM.shrink {W : Nat → Nat → Prop} {w0 : World} {O : List (Nat × Nat)} {ρ : En} {s s' : St} {w w' : World} (h0 : RelM W w0 O ρ s w) {l : List Int} (h : RelM W w0 O ⟨ρ.e ++ l, ρ.o⟩ s' w') (hm : s'.mem = s.mem)
    (len : ρ.e.length = s.n) (lenO : ρ.o.length = s.mem.length) : RelM W w0 O ρ s w' := by
  refine ⟨fun o so ho => ?_, h0.ok, h0.dis, h0.own, h.fr, h.pre⟩
  have g := h.objs o so (by rw [hm]; exact ho)
  refine ⟨g.blk, fun j c hc => ?_, g.thaw⟩
  have := g.cell j c hc
  have e := SC.den_ext (l := l) (p := []) (e := ρ.e) (o := ρ.o) (c := c) (by rw [len, lenO]; exact List.all_eq_true.1 (h0.ok o so ho) c (List.mem_of_getElem? hc))
  rw [List.append_nil] at e
  rw [e] at this
  exact this

/-- The class: memory reads as the state says, in every world of it, and there is one. -/
structure Cls (W : Nat → Nat → Prop) (w0 : World) (O : List (Nat × Nat)) (C : World → Prop) (ρ : En) (s : St) : Prop where
  to : ∀ w, C w → RelM W w0 O ρ s w
  back : ∀ w, RelM W w0 O ρ s w → C w
  one : ∃ w, C w

theorem stepOp_quiet {P : Program} {Γ : List Entry} (hΓ : ∀ e ∈ Γ, Meets P e) {base : List Int} {W : Nat → Nat → Prop} {w0 : World} {O : List (Nat × Nat)} {C : World → Prop} {ρ : En} {s s' : St} {a : Act} {sv : SV} {nds : List Need} {o : Oper}
    (hA : RelA Γ base ρ s a) (hC : Cls W w0 O C ρ s) (h : stepOp P Γ true s o = some (s', sv, nds)) (hn : ∀ nd ∈ nds, nd.holds Γ base) :
    ∃ ρ', RelA Γ base ρ' s' a ∧ Cls W w0 O C ρ' s' ∧ sv.ok s'.n s'.mem.length = true ∧ s'.asm = s.asm ∧ ∀ w, C w → o.quietAt P a C w (sv.den ρ') := by
  have cls : ∀ {l : List Int}, s'.mem = s.mem → s.n ≤ s'.n → Cls W w0 O C ⟨ρ.e ++ l, ρ.o⟩ s' := by
    intro l hm hn
    obtain ⟨w1, hw1⟩ := hC.one
    exact ⟨fun w hw => (hC.to w hw).grow l hm hn hA.len hA.lenO, fun w hw => hC.back w ((hC.to w1 hw1).shrink hw hm hA.len hA.lenO), w1, hw1⟩
  unfold stepOp at h
  split at h
  · rename_i r hr
    split at h
    · rename_i s1 sv1 hg
      cases h
      obtain ⟨l, g1, g2, g3, g4, g5, g6, g7, g8⟩ := give_sound hA hg
      refine ⟨_, g1, cls g4 g8, g2, g7, fun w hw => ?_⟩
      unfold Oper.quietAt
      rw [opV_run hA (w := w) (hC.to w hw).objs.cells o hr]
      exact ⟨rfl, g3.symm⟩
    · cases h
  · split at h
    · rename_i c hop
      split at h
      · rename_i f hcal
        split at h
        · rename_i vs hvs
          obtain ⟨i, e, h1, rfl, h3⟩ := callAny_spec Γ 0 h
          rw [Nat.zero_add] at h3
          have hj : Γ.getD i noEntry = e := by simp [List.getD, h1]
          obtain ⟨l, q1, q2, q3, q4, q5, q6, q7⟩ := callE_sound (W := W) (w0 := w0) (O := O) hA hj (hΓ e (List.mem_of_getElem? h1)) h3 hn
          obtain ⟨q1a, q1b⟩ := q1 rfl
          have hcls : Cls W w0 O C ⟨ρ.e ++ l, ρ.o⟩ s' := cls q1b q6
          refine ⟨_, q1a, hcls, q2, q3, fun w hw => ?_⟩
          have hcall := q7 w (hC.to w hw)
          have hargs : c.args.map a.eval = (vs.map (SV.den ρ)).toArray := by
            apply Array.ext'
            simp [getAll_sound hA _ _ hvs]
          have hex : execOp a.eval o = callFunc e.f ((vs.map (SV.den ρ)).toArray) := by
            obtain ⟨dst, op, ty, pos, after, guard⟩ := o
            obtain ⟨callee, args, ats⟩ := c
            simp only at hop hcal hargs
            subst hop hcal
            rw [execOp_call_go, hargs]
            simp
          unfold Oper.quietAt
          rw [hex]
          rcases hcall with ⟨r1, r2⟩ | ⟨v, r1, r2⟩
          · rw [r1]
            refine ⟨rfl, r2.mono fun en w' ⟨p, p0, p1, p2, p3⟩ => ?_⟩
            have := p0 rfl
            subst this
            rw [List.append_nil] at p2 p3
            exact ⟨p3, hcls.back _ p2⟩
          · rw [r1]
            obtain ⟨p, p0, p1, p2, p3⟩ := r2
            have := p0 rfl
            subst this
            rw [List.append_nil] at p3
            cases p3
            exact ⟨rfl, rfl⟩
        · cases h
      · cases h
    · simp at h

theorem Cls.same {W : Nat → Nat → Prop} {w0 : World} {O : List (Nat × Nat)} {C : World → Prop} {ρ : En} {s s' : St} (h : Cls W w0 O C ρ s) (hm : s'.mem = s.mem) (hn : s'.n = s.n) : Cls W w0 O C ρ s' :=
  ⟨fun w hw => (h.to w hw).same hm hn, fun w hw => h.back w (hw.same hm.symm hn.symm), h.one⟩

theorem runOps_quiet {P : Program} {Γ : List Entry} (hΓ : ∀ e ∈ Γ, Meets P e) {base : List Int} {W : Nat → Nat → Prop} {w0 : World} {O : List (Nat × Nat)} {C : World → Prop} (ops : Array Oper) {Q : Act → Prop} :
    ∀ (l : List Oper) (s : St) (ρ : En) (a : Act) (nds : List Need) (ss : List St), runOps P Γ true ops l s = some (nds, ss) → (∀ nd ∈ nds, nd.holds Γ base) → RelA Γ base ρ s a → Cls W w0 O C ρ s →
      (∀ s' ∈ ss, ∀ ρ' a', RelA Γ base ρ' s' a' → Cls W w0 O C ρ' s' → Q a') → wpQuiet P ops C Q l a
  | [], s, ρ, a, nds, ss, h, hn, hA, hM, hQ => by
    cases h
    exact wpQuiet_nil (hQ s (by simp) ρ a hA hM)
  | o :: r, s, ρ, a, nds, ss, h, hn, hA, hM, hQ => by
    have go : ∀ (s : St) (ρ : En) (nds : List Need) (ss : List St), (match stepOp P Γ true s o with
          | some (s1, sv, nds) => match s1.put o.dst sv with
            | some s2 => match runOps P Γ true ops r s2 with
              | some (n, ss) => some (nds ++ n, ss)
              | none => none
            | none => none
          | none => none) = some (nds, ss) → (∀ nd ∈ nds, nd.holds Γ base) → RelA Γ base ρ s a → Cls W w0 O C ρ s → (∀ s' ∈ ss, ∀ ρ' a', RelA Γ base ρ' s' a' → Cls W w0 O C ρ' s' → Q a') →
          Region.wanted o (yielded ops a.tmps) = true → wpQuiet P ops C Q (o :: r) a := by
      intro s ρ nds ss h hn hA hM hQ hw
      split at h
      · rename_i s1 sv nd1 hst
        split at h
        · rename_i s2 hput
          split at h
          · rename_i n2 ss2 hrest
            simp only [Option.some.injEq, Prod.mk.injEq] at h
            obtain ⟨rfl, rfl⟩ := h
            refine wpQuiet_step fun K hK => ?_
            rw [if_pos hw]
            obtain ⟨ρ', t1, t2, t3, t4, t5⟩ := stepOp_quiet hΓ hA hM hst (fun nd hnd => hn nd (by simp [hnd]))
            refine ⟨_, t5, hK _ ?_⟩
            obtain ⟨p1, p2, p3, p4, p5⟩ := t1.put t3 hput
            exact runOps_quiet hΓ ops r s2 ρ' _ n2 _ hrest (fun nd hnd => hn nd (by simp [hnd])) p1 (t2.same p2 p3) hQ
          · cases h
        · cases h
      · cases h
    have skip : ∀ (s : St) (nds : List Need) (ss : List St), (match s.put o.dst (.tup []) with
          | some s2 => runOps P Γ true ops r s2
          | none => none) = some (nds, ss) → (∀ nd ∈ nds, nd.holds Γ base) → RelA Γ base ρ s a → Cls W w0 O C ρ s → (∀ s' ∈ ss, ∀ ρ' a', RelA Γ base ρ' s' a' → Cls W w0 O C ρ' s' → Q a') →
          Region.wanted o (yielded ops a.tmps) = false → wpQuiet P ops C Q (o :: r) a := by
      intro s nds ss h hn hA hM hQ hw
      split at h
      · rename_i s2 hput
        obtain ⟨p1, p2, p3, p4, p5⟩ := hA.put (tup_ok _ _) hput
        refine wpQuiet_step fun K hK => ?_
        rw [if_neg (by rw [hw]; exact Bool.false_ne_true)]
        refine hK _ ?_
        rw [← tup_den ρ]
        exact runOps_quiet hΓ ops r s2 ρ _ nds ss h hn p1 (hM.same p2 p3) hQ
      · cases h
    have hg := guard_spec hA ops o
    have test : ∀ (x : SI) (b : Bool), Cls W w0 O C ρ { s with asm := (x, b) :: s.asm } := fun x b =>
      ⟨fun w hw => (hM.to w hw).test _, fun w hw => hM.back w ⟨hw.objs, hw.ok, hw.dis, hw.own, hw.fr, hw.pre⟩, hM.one⟩
    unfold runOps at h
    simp only at h
    split at h
    · rename_i hgr
      rw [hgr] at hg
      exact go s ρ nds ss h hn hA hM hQ hg
    · rename_i hgr
      rw [hgr] at hg
      exact skip s nds ss h hn hA hM hQ hg
    · rename_i x want hgr
      rw [hgr] at hg
      obtain ⟨hx, hw⟩ := hg
      split at h
      · rename_i n1 s1 n2 s2 h1 h2
        simp only [Option.some.injEq, Prod.mk.injEq] at h
        obtain ⟨rfl, rfl⟩ := h
        by_cases hb : (x.val ρ.e != 0) = want
        · exact go _ ρ n1 s1 h1 (fun nd hnd => hn nd (by simp [hnd])) (hA.test hx hb) (test x want) (fun s' hs' => hQ s' (by simp [hs'])) (by rw [hw, hb]; simp)
        · have hb' : (x.val ρ.e != 0) = !want := by cases h1 : (x.val ρ.e != 0) <;> cases want <;> simp_all
          exact skip _ n2 s2 h2 (fun nd hnd => hn nd (by simp [hnd])) (hA.test hx hb') (test x (!want)) (fun s' hs' => hQ s' (by simp [hs'])) (by rw [hw, hb']; cases want <;> rfl)
      · cases h
    · cases h

/-! ## 2. Regions -/

def isTail (Γ : List Entry) (o : Oper) : Bool :=
  match o.op with
  | .store .. => true
  | .alloc _ => true
  | .box .. => true
  | .assign _ => true
  | .call c =>
    match c.callee with
    | .value (.func f) =>
      match Γ.find? fun e => Nat.beq e.f f with
      | some e => !(stillB (ini e.args).mem (fin e).mem)
      | none => false
    | _ => false
  | _ => false

def headLen (Γ : List Entry) : List Oper → Nat
  | [] => 0
  | o :: r => if isTail Γ o then 0 else headLen Γ r + 1

def eachSt (k : St → Option (List Need × List St)) : List St → Option (List Need × List St)
  | [] => some ([], [])
  | s :: r => match k s, eachSt k r with
    | some (n1, s1), some (n2, s2) => some (n1 ++ n2, s1 ++ s2)
    | _, _ => none

theorem eachSt_spec {k : St → Option (List Need × List St)} : ∀ {ss : List St} {nds : List Need} {outs : List St}, eachSt k ss = some (nds, outs) →
    ∀ s ∈ ss, ∃ n1 s1, k s = some (n1, s1) ∧ (∀ nd ∈ n1, nd ∈ nds) ∧ ∀ x ∈ s1, x ∈ outs
  | [], _, _, _, s, hs => by cases hs
  | s0 :: r, nds, outs, h, s, hs => by
    unfold eachSt at h
    split at h
    · rename_i n1 s1 n2 s2 h1 h2
      cases h
      rcases List.mem_cons.1 hs with rfl | hs
      · exact ⟨n1, s1, h1, fun nd hnd => by simp [hnd], fun x hx => by simp [hx]⟩
      · obtain ⟨n', s', g1, g2, g3⟩ := eachSt_spec h2 s hs
        exact ⟨n', s', g1, fun nd hnd => by simp [g2 nd hnd], fun x hx => by simp [g3 x hx]⟩
    · cases h

def runAt (P : Program) (Γ : List Entry) (l : List Oper) (n : Nat) (s : St) : Option (List Need × List St) :=
  match runOps P Γ true l.toArray (l.take n) s with
  | some (n1, ss) => match eachSt (runOps P Γ false l.toArray (l.drop n)) ss with
    | some (n2, outs) => some (n1 ++ n2, outs)
    | none => none
  | none => none

def runRegion (P : Program) (Γ : List Entry) (l : List Oper) (draw : Bool) (s : St) : Option (List Need × List St) :=
  if draw then
    match (if flowB l (headLen Γ l) then runAt P Γ l (headLen Γ l) s else none) with
    | some x => some x
    | none => match (if flowB l l.length then runAt P Γ l l.length s else none) with
      | some x => some x
      | none => runAny P Γ l s
  else runOps P Γ false l.toArray l s

theorem runAt_sound {P : Program} {Γ : List Entry} (hmix : P.follows .mixedOrders = true) (hΓ : ∀ e ∈ Γ, Meets P e) {base : List Int} {W : Nat → Nat → Prop} {w0 : World} {O : List (Nat × Nat)} {id : Nat} {l : List Oper} {s : St} {ρ : En} {a : Act} {w : World}
    {nds : List Need} {ss : List St} {n : Nat} (hB : flowB l n = true) (h : runAt P Γ l n s = some (nds, ss)) (hn : ∀ nd ∈ nds, nd.holds Γ base) (hA : RelA Γ base ρ s a) (hM : RelM W w0 O ρ s w) {Q : Exit → Act → World → Prop}
    (hQ : ∀ s' ∈ ss, ∀ ρ' a' w', RelA Γ base ρ' s' a' → RelM W w0 O ρ' s' w' → Q .normal a' w') : (Code.region id l.toArray true).wp P Q a w := by
  unfold runAt at h
  split at h
  · rename_i n1 ss1 h1
    split at h
    · rename_i n2 outs h2
      cases h
      refine wp_region_flow n hmix hB hM.drew ?_
      refine runOps_quiet hΓ _ _ s ρ a n1 ss1 h1 (fun nd hnd => hn nd (by simp [hnd])) hA (C := RelM W w0 O ρ s) ⟨fun _ h => h, fun _ h => h, w, hM⟩ fun s' hs' ρ' a' hA' hC' w' hw' => ?_
      obtain ⟨n3, s3, g1, g2, g3⟩ := eachSt_spec h2 s' hs'
      exact runOps_sound hΓ _ _ s' ρ' a' w' n3 s3 g1 (fun nd hnd => hn nd (by simp [g2 nd hnd])) hA' (hC'.to w' hw') fun x hx ρ2 a2 w2 _ => hQ x (g3 x hx) ρ2 a2 w2
    · cases h
  · cases h

theorem runRegion_sound {P : Program} {Γ : List Entry} (hmix : P.follows .mixedOrders = true) (hΓ : ∀ e ∈ Γ, Meets P e) {base : List Int} {W : Nat → Nat → Prop} {w0 : World} {O : List (Nat × Nat)} {id : Nat} {l : List Oper} {draw : Bool} {s : St} {ρ : En} {a : Act} {w : World}
    {nds : List Need} {ss : List St} (h : runRegion P Γ l draw s = some (nds, ss)) (hn : ∀ nd ∈ nds, nd.holds Γ base) (hA : RelA Γ base ρ s a) (hM : RelM W w0 O ρ s w) {Q : Exit → Act → World → Prop}
    (hQ : ∀ s' ∈ ss, ∀ ρ' a' w', RelA Γ base ρ' s' a' → RelM W w0 O ρ' s' w' → Q .normal a' w') : (Code.region id l.toArray draw).wp P Q a w := by
  unfold runRegion at h
  cases draw with
  | false => exact wp_region_lit (runOps_sound hΓ _ l s ρ a w nds ss h hn hA hM fun s' hs' ρ' a' w' _ => hQ s' hs' ρ' a' w')
  | true =>
    simp only [if_true] at h
    split at h
    · rename_i x hx
      cases h
      split at hx
      · rename_i hB
        exact runAt_sound hmix hΓ hB hx hn hA hM hQ
      · cases hx
    · split at h
      · rename_i x hx
        cases h
        split at hx
        · rename_i hB
          exact runAt_sound hmix hΓ hB hx hn hA hM hQ
        · cases hx
      · exact runAny_sound hmix hΓ h hn hA hM hQ

/-! ## 3. Code -/

inductive EK where
  | normal
  | exit (id : Nat)
  | ret

def EK.ex : EK → Exit
  | .normal => .normal
  | .exit id => .exit id
  | .ret => .ret

abbrev Outs := List Need × List (EK × St)

def thenAll (k : St → Option Outs) : List (EK × St) → Option Outs
  | [] => some ([], [])
  | (.normal, s) :: r => match k s, thenAll k r with
    | some (n1, o1), some (n2, o2) => some (n1 ++ n2, o1 ++ o2)
    | _, _ => none
  | x :: r => match thenAll k r with
    | some (n, o) => some (n, x :: o)
    | none => none

theorem thenAll_spec {k : St → Option Outs} : ∀ {l : List (EK × St)} {nds : List Need} {outs : List (EK × St)}, thenAll k l = some (nds, outs) → ∀ x ∈ l,
    (x.1 = .normal ∧ ∃ n1 o1, k x.2 = some (n1, o1) ∧ (∀ nd ∈ n1, nd ∈ nds) ∧ ∀ y ∈ o1, y ∈ outs) ∨ (x.1 ≠ .normal ∧ x ∈ outs)
  | [], _, _, _, x, hx => by cases hx
  | (ek, s) :: r, nds, outs, h, x, hx => by
    cases ek with
    | normal =>
      unfold thenAll at h
      split at h
      · rename_i n1 o1 n2 o2 h1 h2
        cases h
        rcases List.mem_cons.1 hx with rfl | hx
        · exact .inl ⟨rfl, n1, o1, h1, fun nd hnd => by simp [hnd], fun y hy => by simp [hy]⟩
        · rcases thenAll_spec h2 x hx with ⟨e, n', o', g1, g2, g3⟩ | ⟨e, g⟩
          · exact .inl ⟨e, n', o', g1, fun nd hnd => by simp [g2 nd hnd], fun y hy => by simp [g3 y hy]⟩
          · exact .inr ⟨e, by simp [g]⟩
      · cases h
    | exit id =>
      unfold thenAll at h
      split at h
      · rename_i n o h1
        cases h
        rcases List.mem_cons.1 hx with rfl | hx
        · exact .inr ⟨(fun e => EK.noConfusion e), by simp⟩
        · rcases thenAll_spec h1 x hx with ⟨e, n', o', g1, g2, g3⟩ | ⟨e, g⟩
          · exact .inl ⟨e, n', o', g1, g2, fun y hy => by simp [g3 y hy]⟩
          · exact .inr ⟨e, by simp [g]⟩
      · cases h
    | ret =>
      unfold thenAll at h
      split at h
      · rename_i n o h1
        cases h
        rcases List.mem_cons.1 hx with rfl | hx
        · exact .inr ⟨(fun e => EK.noConfusion e), by simp⟩
        · rcases thenAll_spec h1 x hx with ⟨e, n', o', g1, g2, g3⟩ | ⟨e, g⟩
          · exact .inl ⟨e, n', o', g1, g2, fun y hy => by simp [g3 y hy]⟩
          · exact .inr ⟨e, by simp [g]⟩
      · cases h

def offBlock (id : Nat) (x : EK × St) : EK × St :=
  match x.1 with
  | .exit i => if Nat.beq i id then (.normal, x.2) else x
  | _ => x

def execLoop (k : St → Option Outs) : Nat → St → Option Outs
  | 0, _ => none
  | n + 1, s => match k s with
    | some (n1, o1) => match thenAll (execLoop k n) o1 with
      | some (n2, o2) => some (n1 ++ n2, o2)
      | none => none
    | none => none

def exec (P : Program) (Γ : List Entry) : Nat → Code → St → Option Outs
  | 0, _, _ => none
  | f + 1, c, s =>
    match c with
    | .skip => some ([], [(.normal, s)])
    | .region _ ops draw => match runRegion P Γ ops.toList draw s with
      | some (n, ss) => some (n, ss.map fun s => (.normal, s))
      | none => none
    | .seq a b => match exec P Γ f a s with
      | some (n1, o1) => match thenAll (exec P Γ f b) o1 with
        | some (n2, o2) => some (n1 ++ n2, o2)
        | none => none
      | none => none
    | .cond x a b => match s.get x with
      | some (.one (.sc (.bool q))) => match known s.asm q with
        | some true => exec P Γ f a s
        | some false => exec P Γ f b s
        | none => match exec P Γ f a { s with asm := (q, true) :: s.asm }, exec P Γ f b { s with asm := (q, false) :: s.asm } with
          | some (n1, o1), some (n2, o2) => some (n1 ++ n2, o1 ++ o2)
          | _, _ => none
      | _ => none
    | .block id a => match exec P Γ f a s with
      | some (n, o) => some (n, o.map (offBlock id))
      | none => none
    | .loop a => execLoop (exec P Γ f a) 300 s
    | .exit id => some ([], [(.exit id, s)])
    | .ret => some ([], [(.ret, s)])
    | _ => none

theorem execLoop_sound {P : Program} {Γ : List Entry} {base : List Int} {W : Nat → Nat → Prop} {w0 : World} {O : List (Nat × Nat)} {c : Code} {k : St → Option Outs} {Q : Exit → Act → World → Prop}
    (hk : ∀ (Q : Exit → Act → World → Prop) (s : St) (ρ : En) (a : Act) (w : World) (nds : List Need) (outs : List (EK × St)), k s = some (nds, outs) → (∀ nd ∈ nds, nd.holds Γ base) → RelA Γ base ρ s a → RelM W w0 O ρ s w →
      (∀ x ∈ outs, ∀ ρ' a' w', RelA Γ base ρ' x.2 a' → RelM W w0 O ρ' x.2 w' → Q x.1.ex a' w') → c.wp P Q a w) :
    ∀ (n : Nat) (s : St) (ρ : En) (a : Act) (w : World) (nds : List Need) (outs : List (EK × St)), execLoop k n s = some (nds, outs) → (∀ nd ∈ nds, nd.holds Γ base) → RelA Γ base ρ s a → RelM W w0 O ρ s w →
      (∀ x ∈ outs, ∀ ρ' a' w', RelA Γ base ρ' x.2 a' → RelM W w0 O ρ' x.2 w' → Q x.1.ex a' w') → Code.rounds P c Q n a w
  | 0, s, ρ, a, w, nds, outs, h, _, _, _, _ => by cases h
  | n + 1, s, ρ, a, w, nds, outs, h, hn, hA, hM, hQ => by
    unfold execLoop at h
    split at h
    · rename_i n1 o1 h1
      split at h
      · rename_i n2 o2 h2
        cases h
        rw [rounds_succ]
        refine hk _ s ρ a w n1 o1 h1 (fun nd hnd => hn nd (by simp [hnd])) hA hM fun x hx ρ' a' w' hA' hM' => ?_
        rcases thenAll_spec h2 x hx with ⟨e, n', o', g1, g2, g3⟩ | ⟨e, g⟩
        · rw [e]
          exact execLoop_sound hk n x.2 ρ' a' w' n' o' g1 (fun nd hnd => hn nd (by simp [g2 nd hnd])) hA' hM' fun y hy => hQ y (g3 y hy)
        · have := hQ x g ρ' a' w' hA' hM'
          cases hx1 : x.1 with
          | normal => exact (e hx1).elim
          | exit id => rw [hx1] at this; exact this
          | ret => rw [hx1] at this; exact this
      · cases h
    · cases h

theorem exec_sound {P : Program} {Γ : List Entry} (hmix : P.follows .mixedOrders = true) (hΓ : ∀ e ∈ Γ, Meets P e) {base : List Int} {W : Nat → Nat → Prop} {w0 : World} {O : List (Nat × Nat)} :
    ∀ (f : Nat) (c : Code) (Q : Exit → Act → World → Prop) (s : St) (ρ : En) (a : Act) (w : World) (nds : List Need) (outs : List (EK × St)), exec P Γ f c s = some (nds, outs) → (∀ nd ∈ nds, nd.holds Γ base) →
      RelA Γ base ρ s a → RelM W w0 O ρ s w → (∀ x ∈ outs, ∀ ρ' a' w', RelA Γ base ρ' x.2 a' → RelM W w0 O ρ' x.2 w' → Q x.1.ex a' w') → c.wp P Q a w
  | 0, c, Q, s, ρ, a, w, nds, outs, h, _, _, _, _ => by cases h
  | f + 1, c, Q, s, ρ, a, w, nds, outs, h, hn, hA, hM, hQ => by
    cases c with
    | skip =>
      cases h
      exact wp_skip (hQ (.normal, s) (by simp) ρ a w hA hM)
    | ret =>
      cases h
      exact wp_ret (hQ (.ret, s) (by simp) ρ a w hA hM)
    | exit id =>
      cases h
      exact wp_exit (hQ (.exit id, s) (by simp) ρ a w hA hM)
    | region id ops draw =>
      simp only [exec] at h
      split at h
      · rename_i n ss h1
        cases h
        obtain ⟨l⟩ := ops
        refine runRegion_sound hmix hΓ h1 hn hA hM fun s' hs' ρ' a' w' hA' hM' => ?_
        exact hQ (.normal, s') (List.mem_map.2 ⟨s', hs', rfl⟩) ρ' a' w' hA' hM'
      · cases h
    | seq x y =>
      simp only [exec] at h
      split at h
      · rename_i n1 o1 h1
        split at h
        · rename_i n2 o2 h2
          cases h
          refine wp_seq (exec_sound hmix hΓ f x _ s ρ a w n1 o1 h1 (fun nd hnd => hn nd (by simp [hnd])) hA hM fun z hz ρ' a' w' hA' hM' => ?_)
          rcases thenAll_spec h2 z hz with ⟨e, n', o', g1, g2, g3⟩ | ⟨e, g⟩
          · rw [e]
            exact exec_sound hmix hΓ f y Q z.2 ρ' a' w' n' o' g1 (fun nd hnd => hn nd (by simp [g2 nd hnd])) hA' hM' fun u hu => hQ u (g3 u hu)
          · have := hQ z g ρ' a' w' hA' hM'
            cases hx1 : z.1 with
            | normal => exact (e hx1).elim
            | exit id => rw [hx1] at this; exact this
            | ret => rw [hx1] at this; exact this
        · cases h
      · cases h
    | cond x y z =>
      simp only [exec] at h
      split at h
      · rename_i q hq
        have hg := get_sound hA hq
        have hev : a.eval x = .bool (q.val ρ.e != 0) := hg.1
        split at h
        · rename_i hk
          have hb := known_val hA.asm hk
          rw [hb] at hev
          exact wp_cond_true hev (exec_sound hmix hΓ f y Q s ρ a w nds outs h hn hA hM hQ)
        · rename_i hk
          have hb := known_val hA.asm hk
          rw [hb] at hev
          exact wp_cond_false hev (exec_sound hmix hΓ f z Q s ρ a w nds outs h hn hA hM hQ)
        · split at h
          · rename_i n1 o1 n2 o2 h1 h2
            cases h
            refine wp_cond_split hev (fun hb => ?_) (fun hb => ?_)
            · exact exec_sound hmix hΓ f y Q _ ρ a w n1 o1 h1 (fun nd hnd => hn nd (by simp [hnd])) (hA.test hg.2 hb) (hM.test _) fun u hu => hQ u (by simp [hu])
            · exact exec_sound hmix hΓ f z Q _ ρ a w n2 o2 h2 (fun nd hnd => hn nd (by simp [hnd])) (hA.test hg.2 hb) (hM.test _) fun u hu => hQ u (by simp [hu])
          · cases h
      · cases h
    | block id x =>
      simp only [exec] at h
      split at h
      · rename_i n o h1
        cases h
        refine wp_block (exec_sound hmix hΓ f x _ s ρ a w _ _ h1 hn hA hM fun z hz ρ' a' w' hA' hM' => ?_)
        have hq := hQ (offBlock id z) (List.mem_map.2 ⟨z, hz, rfl⟩) ρ' a' w'
        cases hz1 : z.1 with
        | normal =>
          simp only [offBlock, hz1] at hq
          exact hq hA' hM'
        | ret =>
          simp only [offBlock, hz1] at hq
          exact hq hA' hM'
        | exit i =>
          simp only [offBlock, hz1] at hq
          simp only [EK.ex, Exit.inBlock]
          by_cases hi : i = id
          · rw [if_pos hi]
            rw [if_pos (by rw [hi]; exact Nat.beq_refl id)] at hq
            exact hq hA' hM'
          · rw [if_neg hi]
            rw [if_neg (fun e => hi (Nat.eq_of_beq_eq_true e)), hz1] at hq
            exact hq hA' hM'
      · cases h
    | loop x =>
      simp only [exec] at h
      exact wp_loop_rounds _ (execLoop_sound (Γ := Γ) (base := base) (W := W) (w0 := w0) (O := O) (fun Q s ρ a w nds outs h hn hA hM hQ => exec_sound hmix hΓ f x Q s ρ a w nds outs h hn hA hM hQ) _ s ρ a w nds outs h hn hA hM hQ)
    | rangeFunc _ _ _ _ => cases h
    | scope _ => cases h
    | label _ => cases h
    | goto _ => cases h
    | refuse _ => cases h

end Go.Proofs.Ytfeancgmmonebaa.Sx

/-
  A whole function: from a symbolic run, reckoned by the kernel, to a contract. Conditions: none; each theorem bears its own.
-/
namespace Go.Proofs.Ytfeancgmmonebaa.Sx
open Go

/-! ## 1. The start -/

def initTm : Nat → List SV → Tr SV → Tr SV
  | _, [], t => t
  | i, v :: vs, t => initTm (i + 1) vs (Tr.set 20 t i (some v))

theorem initTm_get : ∀ (vs : List SV) (i : Nat) (t : Tr SV) (m : Nat) (y : SV), (initTm i vs t).get m = some y → (i ≤ m ∧ vs[m - i]? = some y) ∨ ((m < i ∨ i + vs.length ≤ m) ∧ t.get m = some y)
  | [], i, t, m, y, h => .inr ⟨by simp; omega, h⟩
  | v :: vs, i, t, m, y, h => by
    rcases initTm_get vs (i + 1) _ m y h with ⟨h1, h2⟩ | ⟨h1, h2⟩
    · exact .inl ⟨by omega, by rw [show m - i = (m - (i + 1)) + 1 by omega]; simpa using h2⟩
    · rcases Tr.get_set _ _ _ _ _ _ h2 with ⟨rfl, e⟩ | ⟨hne, h3⟩
      · exact .inl ⟨Nat.le_refl _, by simpa using e⟩
      · refine .inr ⟨?_, h3⟩
        simp only [List.length_cons]
        omega

def start (e : Entry) (nt : Nat) : St := { nt := nt, tm := initTm 0 (ini e.args).args .nil, mem := (ini e.args).mem, n := (ini e.args).n, defs := [], asm := [] }

def okStart (e : Entry) (nt : Nat) : Bool :=
  (ini e.args).args.all (SV.ok (ini e.args).n (ini e.args).mem.length) && (ini e.args).mem.all (fun so => so.cells.all (SC.ok (ini e.args).n (ini e.args).mem.length)) && Nat.ble (ini e.args).args.length nt

theorem start_relA {Γ : List Entry} {e : Entry} {nt : Nat} (hok : okStart e nt = true) {base : List Int} {bs : List (Nat × Nat)} (hb : base.length = (ini e.args).n) (hbs : bs.length = (ini e.args).mem.length) :
    RelA Γ base ⟨base, bs⟩ (start e nt) { tmps := ((ini e.args).args.map (SV.den ⟨base, bs⟩)).toArray ++ Array.replicate (nt - (((ini e.args).args.map (SV.den ⟨base, bs⟩)).toArray).size) undef, defers := [] } := by
  simp only [okStart, Bool.and_eq_true, Nat.ble_eq] at hok
  obtain ⟨⟨h1, h2⟩, h3⟩ := hok
  refine ⟨rfl, hb, hbs, ?_, rfl, ?_, (fun c hc => by cases hc), (fun c hc => by cases hc)⟩
  · simp [start]; omega
  · intro t sv ht
    rcases initTm_get _ _ _ _ _ ht with ⟨_, h⟩ | ⟨_, h⟩
    · rw [Nat.sub_zero] at h
      refine ⟨List.all_eq_true.1 h1 sv (List.mem_of_getElem? h), ?_⟩
      have hlt := (List.getElem?_eq_some_iff.1 h).1
      rw [Array.getElem?_append_left (by simpa using hlt)]
      simp [h]
    · simp [Tr.get] at h

theorem start_relM {e : Entry} {nt : Nat} (hok : okStart e nt = true) {base : List Int} {bs : List (Nat × Nat)} {w : World} (hm : MemOk w ⟨base, bs⟩ (ini e.args).mem) (hd : Dis ⟨base, bs⟩ (ini e.args).mem) :
    RelM (WOf ⟨base, bs⟩ (ini e.args).mem) w bs ⟨base, bs⟩ (start e nt) w := by
  simp only [okStart, Bool.and_eq_true, Nat.ble_eq] at hok
  obtain ⟨⟨h1, h2⟩, h3⟩ := hok
  exact ⟨hm, fun o so ho => List.all_eq_true.1 h2 so (List.mem_of_getElem? ho), hd, fun o so ho hw => .inr fun j hj => ⟨o, so, ho, hw, rfl, by omega, by omega⟩, Fr.refl _ _, [], by simp⟩

/-! ## 2. Results -/

def resOne (P : Program) (s : St) (r : ResultVar) : Option S1 :=
  match r with
  | .tmp t => match s.tm.get t with
    | some (.one v) => some v
    | _ => none
  | .cell a T => match s.tm.get a with
    | some (.one (.sc (.ptr o d))) => match s.mem[o]? with
      | some so => match isAggB P T, szOf P T with
        | some true, some n => if decide (d + n ≤ so.cells.length) then some (.agg ((so.cells.drop d).take n)) else none
        | some false, _ => (so.cells[d]?).map .sc
        | _, _ => none
      | none => none
    | _ => none

def resAll (P : Program) (s : St) : List ResultVar → Option (List S1)
  | [] => some []
  | r :: rs => match resOne P s r, resAll P s rs with
    | some v, some vs => some (v :: vs)
    | _, _ => none

def resF (tmps : Array Value) (r : ResultVar) : Sem Value :=
  match r with
  | .tmp t => pure (tmps.getD t undef)
  | .cell a t => do loadVar t (← asAddr (tmps.getD a undef))

theorem resOne_run {P : Program} {Γ : List Entry} {base : List Int} {ρ : En} {s : St} {a : Act} (hA : RelA Γ base ρ s a) {w : World} (hM : ObjsOk w ρ s) {r : ResultVar} {v : S1} (h : resOne P s r = some v) :
    (resF a.tmps r).run P w = .ok (v.den ρ) w := by
  cases r with
  | tmp t =>
    simp only [resOne] at h
    split at h
    · rename_i v' ht
      cases h
      have := (hA.tm t _ ht).2
      simp [resF, this, SV.den]
    · cases h
  | cell x T =>
    simp only [resOne] at h
    split at h
    · rename_i o d ht
      have hx := (hA.tm x _ ht).2
      split at h
      · rename_i so hso
        have ho := hM o so hso
        split at h
        · rename_i n ha hz
          split at h
          · rename_i hn
            cases h
            have := run_loadAt (P := P) (w := w) (ρ := ρ) ha hz (by simpa using hn) ho.cell
            simp only [Instr.loadAt, Instr.sureAddr] at this
            simp [resF, hx, SV.den, S1.den, SC.den, asAddr]
            simpa using this
          · cases h
        · rename_i ha
          obtain ⟨c, hc, rfl⟩ := Option.map_eq_some_iff.1 h
          have := ho.cell d c hc
          simp [resF, hx, SV.den, S1.den, SC.den, asAddr, loadVar, run_isAggB ha, this]
        · cases h
      · cases h
    · cases h

theorem resAll_run {P : Program} {Γ : List Entry} {base : List Int} {ρ : En} {s : St} {a : Act} (hA : RelA Γ base ρ s a) {w : World} (hM : ObjsOk w ρ s) : ∀ {l : List ResultVar} {vs : List S1}, resAll P s l = some vs →
    (l.mapM (resF a.tmps)).run P w = .ok (vs.map (S1.den ρ)) w
  | [], vs, h => by cases h; rfl
  | r :: l, vs, h => by
    unfold resAll at h
    split at h
    · rename_i v vs' h1 h2
      cases h
      simp [List.mapM_cons, resOne_run hA hM h1, resAll_run hA hM h2]
    · cases h

theorem retOf_den (ρ : En) (vs : List S1) : (retOf vs).den ρ = if h : (vs.map (S1.den ρ)).length = 1 then (vs.map (S1.den ρ))[0]'(by omega) else .tuple (vs.map (S1.den ρ)).toArray := by
  match vs with
  | [] => rfl
  | [v] => rfl
  | v :: u :: r => rfl

theorem results_run {P : Program} {Γ : List Entry} {base : List Int} {ρ : En} {s : St} {a : Act} (hA : RelA Γ base ρ s a) {w : World} (hM : ObjsOk w ρ s) {fn : Func} {vs : List S1} (h : resAll P s fn.results.toList = some vs) :
    (results fn a.tmps).run P w = .ok ((retOf vs).den ρ) w := by
  have h1 := resAll_run hA hM h
  have h2 : (fn.results.mapM (resF a.tmps)).run P w = .ok (vs.map (S1.den ρ)).toArray w := by
    rw [Array.mapM_eq_mapM_toList]
    simp [h1]
  have h3 : results fn a.tmps = (do let us ← fn.results.mapM (resF a.tmps); pure (if h : us.size = 1 then us[0] else .tuple us)) := by
    unfold results
    congr 1
  rw [h3]
  simp only [Sem.run_bind, h2, Result.andThen_ok, Sem.run_pure]
  rw [retOf_den]
  simp

/-! ## 3. A function's run -/

structure Path where
  defs : List Def
  asm : List (SI × Bool)
  outs : List SI

def outW (s : St) : Nat → List SO → List SI
  | _, [] => []
  | p, so :: r => if so.w then (match s.mem[p]? with | some x => siOf x.cells | none => []) ++ outW s (p + 1) r else outW s (p + 1) r

def outR (s : St) : List RSh → List S1 → List SI
  | .new ks :: rs, .sc (.ptr o d) :: vs => (match s.mem[o]? with | some x => siOf ((x.cells.drop d).take ks.length) | none => []) ++ outR s rs vs
  | .int _ :: rs, v :: vs => siOf v.cells ++ outR s rs vs
  | .bool :: rs, v :: vs => siOf v.cells ++ outR s rs vs
  | .agg _ :: rs, v :: vs => siOf v.cells ++ outR s rs vs
  | _ :: rs, _ :: vs => outR s rs vs
  | _, _ => []

def newsOf : List RSh → List S1 → List (Nat × Nat)
  | .new _ :: rs, .sc (.ptr o d) :: vs => (o, d) :: newsOf rs vs
  | _ :: rs, _ :: vs => newsOf rs vs
  | _, _ => []

def idOs : Nat → Nat → List (Nat × Nat)
  | _, 0 => []
  | i, n + 1 => (i, 0) :: idOs (i + 1) n

def idXs : Nat → Nat → List SI
  | _, 0 => []
  | i, n + 1 => .var i :: idXs (i + 1) n

def pathOf (P : Program) (e : Entry) (rs : List ResultVar) (s : St) : Option Path :=
  match resAll P s rs with
  | none => none
  | some vs =>
    let i := ini e.args
    let outs := outW s 0 i.mem ++ outR s e.res vs
    let nw := newsOf e.res vs
    let τ : Sub := ⟨idXs 0 i.n ++ outs, s.n, idOs 0 i.mem.length ++ nw, s.mem.length⟩
    if Nat.beq (i.n + outs.length) (fin e).n && Nat.beq (i.mem.length + nw.length) (fin e).mem.length && outs.all (SI.ok s.n) && nw.all (fun p => Nat.ble i.mem.length p.1 && Nat.blt p.1 s.mem.length)
        && Nat.ble i.n s.n && Nat.ble i.mem.length s.mem.length
        && lbeq S1.beq ((fin e).res.map τ.s1) vs && chkMem s τ (fin e).mem && chkDis τ (fin e).mem && chkFin i.mem (fin e).mem then
      some ⟨s.defs, s.asm, outs⟩
    else none

def pathsOf (P : Program) (e : Entry) (rs : List ResultVar) : List (EK × St) → Option (List Path)
  | [] => some []
  | (.exit _, _) :: _ => none
  | (_, s) :: r => match pathOf P e rs s, pathsOf P e rs r with
    | some p, some ps => some (p :: ps)
    | _, _ => none

def runFn (P : Program) (Γ : List Entry) (e : Entry) (nt : Nat) (rs : List ResultVar) (c : Code) : Option (List Need × List Path) :=
  if okStart e nt then
    match exec P Γ 4000 c (start e nt) with
    | some (nds, outs) => match pathsOf P e rs outs with
      | some ps => some (nds, ps)
      | none => none
    | none => none
  else none

def goFunc (P : Program) (f : FuncId) : Bool :=
  match P.funcs[f]? with
  | some fn => fn.body.isSome && !(fn.name == "runtime.NumGoroutine")
  | none => false

theorem goFunc_run {P : Program} {f : FuncId} (h : goFunc P f = true) (args : Array Value) (w : World) : (callFunc f args).run P w = .ok (.enter f args) w := by
  unfold goFunc at h
  split at h
  · rename_i fn hf
    simp only [Bool.and_eq_true, Bool.not_eq_true'] at h
    have hb : ¬ fn.body.isNone = true := by
      cases hq : fn.body with
      | none => rw [hq] at h; simp at h
      | some c => simp
    have hnm : ¬ (fn.name == "runtime.NumGoroutine") = true := by rw [h.2]; simp
    simp only [callFunc, Sem.run_bind, run_program, Result.andThen_ok, hf]
    rw [if_neg hnm, if_neg hb]
    rfl
  · cases h

theorem pathsOf_spec {P : Program} {e : Entry} {rs : List ResultVar} : ∀ {outs : List (EK × St)} {ps : List Path}, pathsOf P e rs outs = some ps → ∀ x ∈ outs, (x.1 = .normal ∨ x.1 = .ret) ∧ ∃ p ∈ ps, pathOf P e rs x.2 = some p
  | [], _, _, x, hx => by cases hx
  | (ek, s) :: r, ps, h, x, hx => by
    have key : ∀ (hne : ek = .normal ∨ ek = .ret), (match pathOf P e rs s, pathsOf P e rs r with | some p, some ps => some (p :: ps) | _, _ => none) = some ps →
        (x.1 = .normal ∨ x.1 = .ret) ∧ ∃ p ∈ ps, pathOf P e rs x.2 = some p := by
      intro hne h
      split at h
      · rename_i p ps' h1 h2
        cases h
        rcases List.mem_cons.1 hx with rfl | hx
        · exact ⟨hne, p, by simp, h1⟩
        · obtain ⟨g1, p', g2, g3⟩ := pathsOf_spec h2 x hx
          exact ⟨g1, p', by simp [g2], g3⟩
      · cases h
    cases ek with
    | exit id => simp [pathsOf] at h
    | normal => exact key (.inl rfl) h
    | ret => exact key (.inr rfl) h

theorem idXs_val (e : List Int) : ∀ (n i : Nat), (idXs i n).map (·.val e) = (List.range n).map fun j => e.getD (i + j) 0
  | 0, i => rfl
  | n + 1, i => by
    simp only [idXs, List.map_cons, idXs_val e n (i + 1), List.range_succ_eq_map, List.map_map, SI.val_var, Nat.add_zero]
    congr 1
    refine List.map_congr_left fun j _ => ?_
    simp only [Function.comp]
    rw [show i + 1 + j = i + (j + 1) by omega]

theorem idXs_base (base l : List Int) : (idXs 0 base.length).map (·.val (base ++ l)) = base := by
  rw [idXs_val]
  apply List.ext_getElem?
  intro j
  by_cases hj : j < base.length
  · simp [hj, List.getD, List.getElem?_append_left hj]
  · simp [hj]

theorem idOs_map (f : Nat → Nat × Nat) : ∀ (n i : Nat), (idOs i n).map (fun p => ((f p.1).1, (f p.1).2 + p.2)) = (List.range n).map fun j => f (i + j)
  | 0, i => rfl
  | n + 1, i => by
    simp only [idOs, List.map_cons, idOs_map f n (i + 1), List.range_succ_eq_map, List.map_map, Nat.add_zero]
    congr 1
    refine List.map_congr_left fun j _ => ?_
    simp only [Function.comp]
    rw [show i + 1 + j = i + (j + 1) by omega]

theorem idXs_length : ∀ (n i : Nat), (idXs i n).length = n
  | 0, _ => rfl
  | n + 1, i => by simp [idXs, idXs_length n]

theorem idOs_length : ∀ (n i : Nat), (idOs i n).length = n
  | 0, _ => rfl
  | n + 1, i => by simp [idOs, idOs_length n]

theorem idXs_ok (m : Nat) : ∀ (n i : Nat), i + n ≤ m → (idXs i n).all (SI.ok m) = true
  | 0, _, _ => rfl
  | n + 1, i, h => by
    simp only [idXs, List.all_cons, Bool.and_eq_true]
    exact ⟨by simp [SI.ok]; omega, idXs_ok m n (i + 1) (by omega)⟩

theorem idOs_ok (m : Nat) : ∀ (n i : Nat), i + n ≤ m → (idOs i n).all (fun p => Nat.blt p.1 m) = true
  | 0, _, _ => rfl
  | n + 1, i, h => by
    simp only [idOs, List.all_cons, Bool.and_eq_true]
    exact ⟨by simp; omega, idOs_ok m n (i + 1) (by omega)⟩

theorem runR_prefix (Γ : List Entry) (base : List Int) : ∀ (ds : List Def), ∃ l, runR Γ ds base = base ++ l
  | [] => ⟨[], by simp [runR]⟩
  | d :: ds => by
    obtain ⟨l, hl⟩ := runR_prefix Γ base ds
    exact ⟨l ++ d.ev Γ (runR Γ ds base), by simp only [runR]; conv => lhs; lhs; rw [hl]
                                            simp⟩

theorem fit_self : ∀ (l : List Int), fit l.length l = l
  | [] => rfl
  | x :: l => by simp [fit, fit_self l]

theorem range_base (bs p : List (Nat × Nat)) (e : List Int) : ((List.range bs.length).map fun j => (En.blk ⟨e, bs ++ p⟩ j, En.off ⟨e, bs ++ p⟩ j)) = bs := by
  apply List.ext_getElem?
  intro j
  by_cases hj : j < bs.length
  · simp [hj, En.blk, En.off, List.getD, List.getElem?_append_left hj]
  · simp [hj]

/-- THE CONTRACT OF A FUNCTION, out of its symbolic run: what is owed must hold under the entry's condition, and on each path whose tests hold 'F' must be what the path gives. -/
theorem meets_of_run {P : Program} {Γ : List Entry} {e : Entry} {fn : Func} {c : Code} (hmix : P.follows .mixedOrders = true) (hΓ : ∀ e ∈ Γ, Meets P e) (hf : P.funcs[e.f]? = some fn) (hb : fn.body = some c)
    (hgo : goFunc P e.f = true) {nds : List Need} {ps : List Path} (h : runFn P Γ e fn.ntmps fn.results.toList c = some (nds, ps))
    (hn : ∀ base : List Int, base.length = (ini e.args).n → (e.free = false → e.Pre base) → ∀ nd ∈ nds, nd.holds Γ base)
    (hF : ∀ base : List Int, base.length = (ini e.args).n → (e.free = false → e.Pre base) → ∀ p ∈ ps, asmHolds (runR Γ p.defs base) p.asm → e.F base = p.outs.map (·.val (runR Γ p.defs base))) : Meets P e := by
  unfold runFn at h
  split at h
  case isFalse => cases h
  rename_i hok
  split at h
  case h_2 => cases h
  rename_i nds' outs hex
  split at h
  case h_2 => cases h
  rename_i ps' hps
  simp only [Option.some.injEq, Prod.mk.injEq] at h
  obtain ⟨rfl, rfl⟩ := h
  intro base bs w hbl hbsl hpre hm hd
  refine .inl ⟨goFunc_run hgo _ _, ?_⟩
  refine calls_of_wp hf hb ?_
  refine exec_sound hmix hΓ 4000 c _ (start e fn.ntmps) ⟨base, bs⟩ _ w _ outs hex (hn base hbl hpre) (start_relA hok hbl hbsl) (start_relM hok hm hd) fun x hx ρ' a' w' hA hM => ?_
  obtain ⟨hx1, p, hp, hpath⟩ := pathsOf_spec hps x hx
  unfold pathOf at hpath
  split at hpath
  · cases hpath
  rename_i vs hvs
  simp only at hpath
  generalize houts : outW x.2 0 (ini e.args).mem ++ outR x.2 e.res vs = os at hpath
  generalize hnw : newsOf e.res vs = nw at hpath
  split at hpath
  case isFalse => cases hpath
  rename_i hc
  cases hpath
  simp only [Bool.and_eq_true, Nat.ble_eq] at hc
  obtain ⟨⟨⟨⟨⟨⟨⟨⟨⟨c1, c2⟩, c3⟩, c4⟩, c5⟩, c6⟩, c7⟩, c8⟩, c9⟩, c10⟩ := hc
  obtain ⟨f1, f2, f3⟩ := chkFin_spec c10
  have c1 := Nat.eq_of_beq_eq_true c1
  have c2 := Nat.eq_of_beq_eq_true c2
  have c7 := lbeq_eq S1.beq_eq _ _ c7
  generalize hτ : (⟨idXs 0 (ini e.args).n ++ os, x.2.n, idOs 0 (ini e.args).mem.length ++ nw, x.2.mem.length⟩ : Sub) = τ at c7 c8 c9
  have τx : τ.xs = idXs 0 (ini e.args).n ++ os := by rw [← hτ]
  have τo : τ.os = idOs 0 (ini e.args).mem.length ++ nw := by rw [← hτ]
  have τn : τ.n0 = x.2.n := by rw [← hτ]
  have τm : τ.m0 = x.2.mem.length := by rw [← hτ]
  have he : ρ'.e.length = τ.n0 := by rw [τn]; exact hA.len
  have hoo : ρ'.o.length = τ.m0 := by rw [τm]; exact hA.lenO
  have hxx : τ.xs.all (SI.ok τ.n0) = true := by
    rw [τx, τn, List.all_append, Bool.and_eq_true]
    exact ⟨idXs_ok _ _ _ (by omega), c3⟩
  have hpp : τ.os.all (fun p => Nat.blt p.1 τ.m0) = true := by
    rw [τo, τm, List.all_append, Bool.and_eq_true]
    refine ⟨idOs_ok _ _ _ (by omega), List.all_eq_true.2 fun q hq => ?_⟩
    have := List.all_eq_true.1 c4 q hq
    simp only [Bool.and_eq_true] at this
    exact this.2
  have hFv := hF base hbl hpre _ hp (by rw [← hA.env]; exact hA.asm)
  simp only at hFv
  rw [← hA.env] at hFv
  obtain ⟨l, hl⟩ := runR_prefix Γ base x.2.defs
  rw [← hA.env] at hl
  obtain ⟨q, hq⟩ := hM.pre
  -- the contract's environment is what the path gives
  have henv : e.env base bs (nw.map fun p => (ρ'.blk p.1, ρ'.off p.1 + p.2)) = ⟨(τ.env ρ'.e ρ'.o).1, (τ.env ρ'.e ρ'.o).2⟩ := by
    simp only [Entry.env, Sub.env, τx, τo, List.map_append, En.mk.injEq]
    refine ⟨?_, ?_⟩
    · have h1 : (idXs 0 (ini e.args).n).map (·.val ρ'.e) = base := by rw [← hbl, hl]; exact idXs_base base l
      have h2 : (fin e).n - (ini e.args).n = (os.map (·.val ρ'.e)).length := by simp; omega
      rw [h1, h2, hFv, fit_self]
    · congr 1
      have := idOs_map (fun o => (En.blk ⟨ρ'.e, ρ'.o⟩ o, En.off ⟨ρ'.e, ρ'.o⟩ o)) (ini e.args).mem.length 0
      simp only [Nat.zero_add] at this
      rw [this, ← hbsl, hq]
      exact (range_base bs q ρ'.e).symm
  have hnlen : (nw.map fun p => (ρ'.blk p.1, ρ'.off p.1 + p.2)).length = nw.length := by simp
  have hout : (fun (en : Ending) (w' : World) => ∃ nb : List (Nat × Nat), (ini e.args).mem.length + nb.length = (fin e).mem.length ∧ (∀ q ∈ nb, w.heap.size ≤ q.1) ∧ Dis (e.env base bs nb) (fin e).mem ∧
        en = Ending.returned ((retOf (fin e).res).den (e.env base bs nb)) ∧ MemOk w' (e.env base bs nb) (fin e).mem ∧ Fr (WOf ⟨base, bs⟩ (ini e.args).mem) w w') (Ending.returned ((retOf vs).den ρ')) w' := by
    have hlenOs : τ.os.length = (fin e).mem.length := by rw [τo, List.length_append, idOs_length]; exact c2
    have getQ : ∀ {p : Nat} {q : Nat × Nat}, τ.os[p]? = some q → p < τ.os.length ∧ τ.os.getD p (0, 0) = q := by
      intro p q hq
      obtain ⟨h1, h2⟩ := List.getElem?_eq_some_iff.1 hq
      exact ⟨h1, by simp [List.getD, hq]⟩
    have objEq : ∀ (p : Nat), p < τ.os.length → En.blk ⟨(τ.env ρ'.e ρ'.o).1, (τ.env ρ'.e ρ'.o).2⟩ p = ρ'.blk (τ.os.getD p (0, 0)).1 ∧
        En.off ⟨(τ.env ρ'.e ρ'.o).1, (τ.env ρ'.e ρ'.o).2⟩ p = ρ'.off (τ.os.getD p (0, 0)).1 + (τ.os.getD p (0, 0)).2 := by
      intro p hp
      have := Sub.blk_env he hoo hxx hpp [] [] p hp
      simpa using this
    have denEq : ∀ c : SC, (τ.sc c).den ρ' = c.den ⟨(τ.env ρ'.e ρ'.o).1, (τ.env ρ'.e ρ'.o).2⟩ := by
      intro c
      have := Sub.sc_den he hoo hxx hpp [] [] c
      simpa using this
    refine ⟨nw.map fun p => (ρ'.blk p.1, ρ'.off p.1 + p.2), by rw [hnlen]; exact c2, ?_, ?_, ?_, ?_, hM.fr⟩
    · intro b hb
      obtain ⟨q', hq', rfl⟩ := List.mem_map.1 hb
      obtain ⟨i, hi⟩ := List.getElem?_of_mem hq'
      -- the object, as the contract has it
      have hi2 : (ini e.args).mem.length + i < (fin e).mem.length := by have := (List.getElem?_eq_some_iff.1 hi).1; omega
      obtain ⟨fo, hfo⟩ := fin_get hi2
      obtain ⟨q2, so', h1, h2, h3, h4, h5, h6⟩ := chkMem_spec c8 hfo
      have hq2 : q2 = q' := by
        rw [τo, List.getElem?_append_right (by rw [idOs_length]; omega), idOs_length, show (ini e.args).mem.length + i - (ini e.args).mem.length = i by omega, hi] at h1
        exact (Option.some.inj h1).symm
      subst hq2
      have hw : fo.w = true := f3 _ fo (by omega) hfo
      rcases hM.own q2.1 so' h2 (h4 hw) with d | d
      · exact d
      · exfalso
        obtain ⟨o1, so1, e1, e2, e3, e4, e5⟩ := d 0 (by omega)
        have ho1 := mem_lt e1
        have hge : (ini e.args).mem.length ≤ q2.1 := by
          have := List.all_eq_true.1 c4 q2 hq'
          simp only [Bool.and_eq_true, Nat.ble_eq] at this
          exact this.1
        -- the object that came in is object o1 of the state
        obtain ⟨ff, hf1⟩ := fin_get (fmem := (fin e).mem) (p := o1) (by omega)
        obtain ⟨q3, so3, g1, g2, g3, g4, g5, g6⟩ := chkMem_spec c8 hf1
        have hq3 : q3 = (o1, 0) := by
          rw [τo, List.getElem?_append_left (by rw [idOs_length]; exact ho1)] at g1
          have hid : ∀ (n i j : Nat), j < n → (idOs i n)[j]? = some (i + j, 0) := by
            intro n
            induction n with
            | zero => intro i j hj; omega
            | succ n ih =>
              intro i j hj
              cases j with
              | zero => simp [idOs]
              | succ j =>
                simp only [idOs, List.getElem?_cons_succ]
                rw [ih (i + 1) j (by omega), show i + 1 + j = i + (j + 1) by omega]
          rw [hid _ _ _ ho1] at g1
          simpa using (Option.some.inj g1).symm
        subst hq3
        have hbo : En.blk ⟨base, bs⟩ o1 = ρ'.blk o1 := by
          have := En.blk_ext base ρ'.e bs q o1 (by rw [hbsl]; exact ho1)
          rw [← hq] at this
          exact this.symm
        have hof : En.off ⟨base, bs⟩ o1 = ρ'.off o1 := by
          have := En.off_ext base ρ'.e bs q o1 (by rw [hbsl]; exact ho1)
          rw [← hq] at this
          exact this.symm
        rcases hM.dis q2.1 o1 so' so3 (by omega) h2 g2 (h4 hw) with d' | d' | d'
        · exact d' (by rw [← hbo]; exact e3.symm)
        · rw [← hof] at d'
          simp at e5
          omega
        · rw [hbo] at e3
          rw [hof] at e4 e5
          simp only [Nat.add_zero] at e4 e5
          have hlen3 := f2 o1 so1 ff e1 hf1
          omega
    · rw [henv]
      intro p1 p2 a1 a2 hne h1 h2 hw
      obtain ⟨q1, s1, g1, g2, g3, g4, g5, g6⟩ := chkMem_spec c8 h1
      obtain ⟨q2, s2, k1, k2, k3, k4, k5, k6⟩ := chkMem_spec c8 h2
      obtain ⟨hl1, hq1⟩ := getQ g1
      obtain ⟨hl2, hq2⟩ := getQ k1
      obtain ⟨b1, b2⟩ := objEq p1 hl1
      obtain ⟨b3, b4⟩ := objEq p2 hl2
      rw [hq1] at b1 b2
      rw [hq2] at b3 b4
      rw [b1, b2, b3, b4]
      by_cases hbe : q1.1 = q2.1
      · rcases chkDis_spec c9 h1 h2 g1 k1 hne hw with d | d
        · exact (d hbe).elim
        · right; rw [hbe]; omega
      · rcases hM.dis q1.1 q2.1 s1 s2 hbe g2 k2 (g4 hw) with d | d | d
        · exact .inl d
        · right; left; omega
        · right; right; omega
    · rw [henv, ← c7]
      have := Sub.sv_den he hoo hxx hpp [] [] (retOf (fin e).res)
      simp only [List.append_nil] at this
      rw [← this]
      congr 2
      generalize (fin e).res = fr
      match fr with
      | [] => rfl
      | [v] => rfl
      | v :: u :: r => rfl
    · rw [henv]
      intro p1 a1 h1
      obtain ⟨q1, s1, g1, g2, g3, g4, g5, g6⟩ := chkMem_spec c8 h1
      obtain ⟨hl1, hq1⟩ := getQ g1
      obtain ⟨b1, b2⟩ := objEq p1 hl1
      rw [hq1] at b1 b2
      have g := hM.objs q1.1 s1 g2
      refine ⟨by rw [b1]; exact g.blk, fun i c hc => ?_, fun hw i hi => ?_⟩
      · rw [b1, b2, ← denEq, Nat.add_assoc]
        exact g.cell _ _ (chkMem_cells g3 hc)
      · rw [b1, b2, Nat.add_assoc]
        exact g.thaw (g4 hw) _ (by omega)
  have hres := results_run hA hM.objs hvs
  rcases hx1 with hx1 | hx1 <;> rw [hx1]
  · exact bodyPost_end hres hA.dfr hout
  · exact bodyPost_ret hres hA.dfr hout

end Go.Proofs.Ytfeancgmmonebaa.Sx
