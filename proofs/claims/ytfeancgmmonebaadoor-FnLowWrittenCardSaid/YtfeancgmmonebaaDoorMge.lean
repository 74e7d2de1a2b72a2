/-
  A region that asks for an order, by its flow of values: if each operation waits for those whose slots it looks at, any order gives what the text's order gives. A check that is quick to reckon. Conditions: none; each theorem bears its own.
-/
import Derived.Test.YtfeancgmmonebaaDoorMgd
namespace Go.Proofs.YtfeancgmmonebaaDoor.Sx
open Go

def hasEdge (o : Oper) (j : Nat) : Bool := o.after.toList.any fun e => Region.binds .any e && Nat.beq e.on j

def backOnly (o : Oper) (i : Nat) : Bool := o.after.toList.all fun e => !Region.binds .any e || Nat.blt e.on i

def notSelect (o : Oper) : Bool := match o.op with
  | .select .. => false
  | _ => true

def findW : List (Tmp × Nat) → Tmp → Option Nat
  | [], _ => none
  | (d, i) :: r, t => if Nat.beq d t then some i else findW r t

def memN : List Nat → Nat → Bool
  | [], _ => false
  | d :: r, t => Nat.beq d t || memN r t

/-- The operations from number i on: 'w': which slot was written by which operation; 'rd': the slots that were looked at. -/
def flow (ops : Array Oper) : List Oper → Nat → List (Tmp × Nat) → List Tmp → Bool
  | [], _, _, _ => true
  | o :: r, i, w, rd =>
    (o.looksAt ops).all (fun t => match findW w t with
      | some j => hasEdge o j
      | none => true) && backOnly o i && notSelect o &&
    match o.dst with
    | none => flow ops r (i + 1) w (o.looksAt ops ++ rd)
    | some d => (findW w d).isNone && !memN (o.looksAt ops ++ rd) d && flow ops r (i + 1) ((d, i) :: w) (o.looksAt ops ++ rd)

structure Flow (ops : Array Oper) (l : List Oper) (n : Nat) : Prop where
  edge : ∀ (i j : Nat) (o p : Oper) (t : Tmp), i < n → j < n → l[i]? = some o → l[j]? = some p → t ∈ o.looksAt ops → p.dst = some t → j < i ∧ hasEdge o j = true
  back : ∀ (i : Nat) (o : Oper), i < n → l[i]? = some o → backOnly o i = true
  dst : ∀ (i j : Nat) (o p : Oper) (d : Tmp), i < n → j < n → l[i]? = some o → l[j]? = some p → o.dst = some d → p.dst = some d → i = j
  sel : ∀ (i : Nat) (o : Oper), i < n → l[i]? = some o → notSelect o = true

theorem memN_mem : ∀ {l : List Nat} {t : Nat}, t ∈ l → memN l t = true
  | d :: r, t, h => by
    rcases List.mem_cons.1 h with rfl | h
    · simp [memN]
    · simp [memN, memN_mem h]

/-- What is known in the midst: of the operations before i. -/
structure FlowAt (ops : Array Oper) (l : List Oper) (i : Nat) (w : List (Tmp × Nat)) (rd : List Tmp) : Prop where
  wr : ∀ (j : Nat) (p : Oper) (t : Tmp), j < i → l[j]? = some p → p.dst = some t → findW w t = some j
  rd : ∀ (j : Nat) (p : Oper) (t : Tmp), j < i → l[j]? = some p → t ∈ p.looksAt ops → t ∈ rd
  fl : Flow ops l i

theorem findW_cons {w : List (Tmp × Nat)} {d t : Tmp} {i j : Nat} (h : findW w t = some j) (hn : findW w d = none) : findW ((d, i) :: w) t = some j := by
  simp only [findW]
  split
  · rename_i e
    have := Nat.eq_of_beq_eq_true e
    subst this
    rw [hn] at h
    cases h
  · exact h

theorem flow_spec (ops : Array Oper) (l : List Oper) : ∀ (r : List Oper) (i : Nat) (w : List (Tmp × Nat)) (rd : List Tmp), (∀ j, j < r.length → r[j]? = l[i + j]?) → flow ops r i w rd = true → FlowAt ops l i w rd → Flow ops l (i + r.length)
  | [], i, w, rd, _, _, h => h.fl
  | o :: r, i, w, rd, hl, hf, h => by
    have h0 : l[i]? = some o := by simpa using (hl 0 (by simp)).symm
    have hl' : ∀ j, j < r.length → r[j]? = l[i + 1 + j]? := fun j hj => by have := hl (j + 1) (by simp; omega); simpa [Nat.add_assoc, Nat.add_comm 1 j] using this
    simp only [flow, Bool.and_eq_true] at hf
    obtain ⟨⟨⟨f1, f2⟩, f3⟩, f4⟩ := hf
    have rdNew : ∀ (j : Nat) (p : Oper) (t : Tmp), j < i + 1 → l[j]? = some p → t ∈ p.looksAt ops → t ∈ o.looksAt ops ++ rd := by
      intro j p t hj hp ht
      rcases Nat.lt_or_ge j i with hji | hji
      · exact List.mem_append_right _ (h.rd j p t hji hp ht)
      · obtain rfl : j = i := by omega
        rw [h0] at hp
        cases hp
        exact List.mem_append_left _ ht
    have edgeNew : (∀ d, o.dst = some d → memN (o.looksAt ops ++ rd) d = false) → ∀ (a b : Nat) (x p : Oper) (t : Tmp), a < i + 1 → b < i + 1 → l[a]? = some x → l[b]? = some p → t ∈ x.looksAt ops → p.dst = some t → b < a ∧ hasEdge x b = true := by
      intro hrd a b x p t ha hb hx hp ht hd
      rcases Nat.lt_or_ge b i with hbi | hbi
      · rcases Nat.lt_or_ge a i with hai | hai
        · exact h.fl.edge a b x p t hai hbi hx hp ht hd
        · obtain rfl : a = i := by omega
          rw [h0] at hx
          cases hx
          have := List.all_eq_true.1 f1 t ht
          rw [h.wr b p t hbi hp hd] at this
          exact ⟨hbi, this⟩
      · obtain rfl : b = i := by omega
        rw [h0] at hp
        cases hp
        have := hrd t hd
        rw [memN_mem (rdNew a x t ha hx ht)] at this
        cases this
    have backNew : ∀ (a : Nat) (x : Oper), a < i + 1 → l[a]? = some x → backOnly x a = true := by
      intro a x ha hx
      rcases Nat.lt_or_ge a i with hai | hai
      · exact h.fl.back a x hai hx
      · obtain rfl : a = i := by omega
        rw [h0] at hx
        cases hx
        exact f2
    have selNew : ∀ (a : Nat) (x : Oper), a < i + 1 → l[a]? = some x → notSelect x = true := by
      intro a x ha hx
      rcases Nat.lt_or_ge a i with hai | hai
      · exact h.fl.sel a x hai hx
      · obtain rfl : a = i := by omega
        rw [h0] at hx
        cases hx
        exact f3
    rw [show i + (o :: r).length = i + 1 + r.length by simp; omega]
    cases hd : o.dst with
    | none =>
      rw [hd] at f4
      refine flow_spec ops l r (i + 1) w (o.looksAt ops ++ rd) hl' f4 ⟨?_, rdNew, edgeNew (fun d hd' => by rw [hd] at hd'; cases hd'), backNew, ?_, selNew⟩
      · intro j p t hj hp hdt
        rcases Nat.lt_or_ge j i with hji | hji
        · exact h.wr j p t hji hp hdt
        · obtain rfl : j = i := by omega
          rw [h0] at hp
          cases hp
          rw [hd] at hdt
          cases hdt
      · intro a b x p d ha hb hx hp hdx hdp
        rcases Nat.lt_or_ge a i with hai | hai <;> rcases Nat.lt_or_ge b i with hbi | hbi
        · exact h.fl.dst a b x p d hai hbi hx hp hdx hdp
        · obtain rfl : b = i := by omega
          rw [h0] at hp; cases hp; rw [hd] at hdp; cases hdp
        · obtain rfl : a = i := by omega
          rw [h0] at hx; cases hx; rw [hd] at hdx; cases hdx
        · omega
    | some d =>
      rw [hd] at f4
      simp only [Bool.and_eq_true, Bool.not_eq_true', Option.isNone_iff_eq_none] at f4
      obtain ⟨⟨g1, g2⟩, g3⟩ := f4
      refine flow_spec ops l r (i + 1) _ (o.looksAt ops ++ rd) hl' g3 ⟨?_, rdNew, edgeNew (fun d' hd' => by rw [hd] at hd'; cases hd'; exact g2), backNew, ?_, selNew⟩
      · intro j p t hj hp hdt
        rcases Nat.lt_or_ge j i with hji | hji
        · exact findW_cons (h.wr j p t hji hp hdt) g1
        · obtain rfl : j = i := by omega
          rw [h0] at hp
          cases hp
          rw [hd] at hdt
          cases hdt
          simp [findW]
      · intro a b x p d' ha hb hx hp hdx hdp
        rcases Nat.lt_or_ge a i with hai | hai <;> rcases Nat.lt_or_ge b i with hbi | hbi
        · exact h.fl.dst a b x p d' hai hbi hx hp hdx hdp
        · obtain rfl : b = i := by omega
          rw [h0] at hp; cases hp; rw [hd] at hdp; cases hdp
          rw [h.wr a x d hai hx hdx] at g1; cases g1
        · obtain rfl : a = i := by omega
          rw [h0] at hx; cases hx; rw [hd] at hdx; cases hdx
          rw [h.wr b p d hbi hp hdp] at g1; cases g1
        · omega

/-! ## The text's order, and any other one -/
section
variable {P : Program} {C : World → Prop} {l : List Oper}

def lexA (l : List Oper) (vs : Nat → Value) (a : Act) : Nat → Act
  | 0 => a
  | i + 1 => match l[i]? with
    | some o => (lexA l vs a i).put o.dst (vs i)
    | none => lexA l vs a i

/-- A frame in which just the operations of 'S' have been carried out. -/
structure Done (l : List Oper) (n : Nat) (vs : Nat → Value) (a : Act) (S : Nat → Bool) (b : Act) : Prop where
  size : b.tmps.size = a.tmps.size
  dfr : b.defers = a.defers
  put : ∀ (j : Nat) (o : Oper) (d : Tmp), j < n → l[j]? = some o → o.dst = some d → S j = true → d < a.tmps.size → b.tmps[d]? = some (vs j)
  old : ∀ (t : Tmp), (∀ (j : Nat) (o : Oper), j < n → l[j]? = some o → S j = true → o.dst ≠ some t) → b.tmps[t]? = a.tmps[t]?

theorem Done.step {n : Nat} {vs : Nat → Value} {a b : Act} {S : Nat → Bool} (hF : Flow l.toArray l n) (h : Done l n vs a S b) {i : Nat} {o : Oper} (hi : i < n) (ho : l[i]? = some o) (hS : S i = false) :
    Done l n vs a (fun j => S j || Nat.beq j i) (b.put o.dst (vs i)) := by
  cases hd : o.dst with
  | none =>
    refine ⟨h.size, h.dfr, fun j p d hj hp hdp hSj hlt => ?_, fun t ht => ?_⟩
    · simp only [Bool.or_eq_true] at hSj
      rcases hSj with hSj | hSj
      · exact h.put j p d hj hp hdp hSj hlt
      · obtain rfl := Nat.eq_of_beq_eq_true hSj
        rw [ho] at hp; cases hp; rw [hd] at hdp; cases hdp
    · exact h.old t fun j p hj hp hSj => ht j p hj hp (by simp [hSj])
  | some d =>
    refine ⟨by simp [Act.put, h.size], by simp [Act.put, h.dfr], fun j p d' hj hp hdp hSj hlt => ?_, fun t ht => ?_⟩
    · simp only [Act.put, Array.getElem?_setIfInBounds]
      by_cases hji : j = i
      · subst hji
        rw [ho] at hp; cases hp; rw [hd] at hdp; cases hdp
        rw [if_pos rfl, if_pos (by rw [h.size]; exact hlt)]
      · have hne : d ≠ d' := fun e => hji (hF.dst j i p o d' hj hi hp ho hdp (by rw [hd, e]))
        rw [if_neg hne]
        simp only [Bool.or_eq_true] at hSj
        rcases hSj with hSj | hSj
        · exact h.put j p d' hj hp hdp hSj hlt
        · exact (hji (Nat.eq_of_beq_eq_true hSj)).elim
    · simp only [Act.put, Array.getElem?_setIfInBounds]
      have hne : d ≠ t := fun e => ht i o hi ho (by simp) (by rw [hd, e])
      rw [if_neg hne]
      exact h.old t fun j p hj hp hSj => ht j p hj hp (by simp [hSj])

theorem Done.congr {n : Nat} {vs : Nat → Value} {a b : Act} {S S' : Nat → Bool} (h : Done l n vs a S b) (he : ∀ j, j < n → S j = S' j) : Done l n vs a S' b :=
  ⟨h.size, h.dfr, fun j o d hj ho hd hS hlt => h.put j o d hj ho hd (by rw [he j hj]; exact hS) hlt, fun t ht => h.old t fun j o hj ho hS => ht j o hj ho (by rw [← he j hj]; exact hS)⟩

theorem Done.start (n : Nat) (vs : Nat → Value) (a : Act) : Done l n vs a (fun _ => false) a := ⟨rfl, rfl, (fun _ _ _ _ _ _ h => by cases h), (fun _ _ => rfl)⟩

theorem Done.lex {n : Nat} {vs : Nat → Value} {a : Act} (hF : Flow l.toArray l n) (hn : n ≤ l.length) : ∀ i, i ≤ n → Done l n vs a (fun j => Nat.blt j i) (lexA l vs a i)
  | 0, _ => (Done.start n vs a).congr fun j _ => by cases j <;> rfl
  | i + 1, hi => by
    have hl : i < l.length := by omega
    have h := (Done.lex (vs := vs) (a := a) hF hn i (by omega)).step hF (i := i) (o := l[i]) (by omega) (List.getElem?_eq_getElem hl) (by rw [Bool.eq_false_iff]; simp)
    have e : lexA l vs a (i + 1) = (lexA l vs a i).put (l[i]).dst (vs i) := by simp [lexA, hl]
    rw [e]
    refine h.congr fun j _ => ?_
    rw [Bool.eq_iff_iff]
    simp only [Bool.or_eq_true, Nat.blt_eq]
    constructor
    · rintro (h | h)
      · omega
      · have := Nat.eq_of_beq_eq_true h
        omega
    · intro h
      by_cases hji : j = i
      · subst hji; exact .inr (Nat.beq_refl j)
      · exact .inl (by omega)

/-- Two frames in which all that an operation looks at has been carried out look alike to it. -/
theorem Done.alike {n : Nat} {vs : Nat → Value} {a b c : Act} {S T : Nat → Bool} (hF : Flow l.toArray l n) (hb : Done l n vs a S b) (hc : Done l n vs a T c) {i : Nat} {o : Oper} (hi : i < n) (ho : l[i]? = some o)
    (hS : ∀ j, hasEdge o j = true → S j = true) (hT : ∀ j, j < i → T j = true) {t : Tmp} (ht : t ∈ o.looksAt l.toArray) : b.tmps[t]? = c.tmps[t]? := by
  by_cases hex : ∃ j p, j < n ∧ l[j]? = some p ∧ p.dst = some t
  · obtain ⟨j, p, hj, hp, hd⟩ := hex
    obtain ⟨h1, h2⟩ := hF.edge i j o p t hi hj ho hp ht hd
    rcases Nat.lt_or_ge t a.tmps.size with hlt | hge
    · rw [hb.put j p t hj hp hd (hS j h2) hlt, hc.put j p t hj hp hd (hT j h1) hlt]
    · rw [Array.getElem?_eq_none (by rw [hb.size]; exact hge), Array.getElem?_eq_none (by rw [hc.size]; exact hge)]
  · rw [hb.old t fun j p hj hp _ hd => hex ⟨j, p, hj, hp, hd⟩, hc.old t fun j p hj hp _ hd => hex ⟨j, p, hj, hp, hd⟩]

theorem yields_alike {o : Oper} {v : Value} {b c : Act} (hsel : notSelect o = true) (hy : YieldsIn P l.toArray C o v c) (h : ∀ t ∈ o.looksAt l.toArray, b.tmps[t]? = c.tmps[t]?) : YieldsIn P l.toArray C o v b := by
  refine hy.of_same (execOp_congr o (fun cs bb e => by rw [notSelect, e] at hsel; cases hsel) fun x hx => ?_) ?_
  · cases x with
    | tmp t =>
      have := h t (List.mem_append_left _ (List.mem_filterMap.2 ⟨.tmp t, by simpa using hx, rfl⟩))
      simp [Act.eval, this]
    | _ => rfl
  · unfold Region.wanted
    cases hg : o.guard with
    | none => rfl
    | some gw =>
      obtain ⟨g, want⟩ := gw
      have : yielded l.toArray b.tmps g = yielded l.toArray c.tmps g := by
        unfold yielded
        cases ht : (l.toArray[g]?).bind (·.dst) with
        | none => rfl
        | some t =>
          have := h t (by simp only [Oper.looksAt, hg, ht]; simp)
          simp [this]
      simp only [this]

/-- The values of the text's order. -/
theorem lex_values {Q : Act → Prop} : ∀ (r : List Oper) (i : Nat) (b : Act), (∀ j, j < r.length → r[j]? = l[i + j]?) → wpQuiet P l.toArray C Q r b →
    ∃ vs : Nat → Value, (∀ j o, j < r.length → r[j]? = some o → YieldsIn P l.toArray C o (vs j) (lexA r vs b j)) ∧ Q (lexA r vs b r.length)
  | [], i, b, _, h => ⟨fun _ => undef, fun j o hj => by simp at hj, h⟩
  | o :: r, i, b, hl, h => by
    have h0 : l.toArray[i]? = some o := by simpa using (hl 0 (by simp)).symm
    have hq : qOp P l.toArray C i (wpQuiet P l.toArray C Q r) b := by unfold qOp; simp only [h0]; exact h
    obtain ⟨v, hy, hK⟩ := yieldsIn_of_qOp h0 hq
    obtain ⟨vs, h1, h2⟩ := lex_values r (i + 1) _ (fun j hj => by have := hl (j + 1) (by simp; omega); simpa [Nat.add_assoc, Nat.add_comm 1 j] using this) hK
    let us : Nat → Value := fun j => match j with
      | 0 => v
      | j + 1 => vs j
    have shift : ∀ j, lexA (o :: r) us b (j + 1) = lexA r vs (b.put o.dst v) j := by
      intro j
      induction j with
      | zero => rfl
      | succ j ih =>
        show (match (o :: r)[j + 1]? with | some o' => (lexA (o :: r) us b (j + 1)).put o'.dst (us (j + 1)) | none => lexA (o :: r) us b (j + 1)) = _
        rw [ih]
        simp only [List.getElem?_cons_succ]
        rfl
    refine ⟨us, fun j p hj hp => ?_, ?_⟩
    · cases j with
      | zero =>
        simp only [List.getElem?_cons_zero, Option.some.injEq] at hp
        subst hp
        exact hy
      | succ j =>
        rw [shift]
        exact h1 j p (by simpa using hj) (by simpa using hp)
    · rw [List.length_cons, shift]
      exact h2

def cnt (listed : Array Bool) : Nat → Nat
  | 0 => 0
  | k + 1 => cnt listed k + if listed.getD k false then 0 else 1

theorem getD_set (listed : Array Bool) (i k : Nat) (hi : i < listed.size) : (listed.setIfInBounds i true).getD k false = (listed.getD k false || Nat.beq k i) := by
  by_cases h : k = i
  · subst h
    simp [hi]
  · have : Nat.beq k i = false := by rw [Bool.eq_false_iff]; exact fun e => h (Nat.eq_of_beq_eq_true e)
    rw [this, Bool.or_false]
    simp [Array.getElem?_setIfInBounds_ne (Ne.symm h)]

theorem cnt_le (listed : Array Bool) (i : Nat) (hi : i < listed.size) : ∀ k, cnt (listed.setIfInBounds i true) k ≤ cnt listed k
  | 0 => Nat.le_refl _
  | k + 1 => by
    have := cnt_le listed i hi k
    simp only [cnt, getD_set listed i k hi]
    cases listed.getD k false <;> simp <;> (try split) <;> omega

theorem cnt_lt (listed : Array Bool) (i : Nat) (hi : i < listed.size) (hu : listed.getD i false = false) : ∀ k, i < k → cnt (listed.setIfInBounds i true) k + 1 ≤ cnt listed k
  | 0, h => by omega
  | k + 1, h => by
    by_cases hik : i = k
    · subst hik
      have := cnt_le listed i hi i
      simp only [cnt, getD_set listed i i hi, hu]
      simp
      exact this
    · have := cnt_lt listed i hi hu k (by omega)
      have hb : Nat.beq k i = false := by rw [Bool.eq_false_iff]; exact fun e => hik (Nat.eq_of_beq_eq_true e).symm
      simp only [cnt, getD_set listed i k hi, hb, Bool.or_false]
      omega

theorem cnt_zero (listed : Array Bool) : ∀ k, cnt listed k = 0 → ∀ i, i < k → listed.getD i false = true
  | 0, _, i, h => by omega
  | k + 1, h0, i, h => by
    simp only [cnt] at h0
    by_cases hik : i = k
    · subst hik
      cases hc : listed.getD i false with
      | true => rfl
      | false => rw [hc] at h0; simp at h0
    · exact cnt_zero listed k (by omega) i (by omega)

theorem least_false (f : Nat → Bool) : ∀ n, (∃ i, i < n ∧ f i = false) → ∃ i, i < n ∧ f i = false ∧ ∀ j, j < i → f j = true
  | 0, ⟨i, h, _⟩ => by omega
  | n + 1, ⟨i, h, hf⟩ => by
    by_cases hex : ∃ i, i < n ∧ f i = false
    · obtain ⟨k, h1, h2, h3⟩ := least_false f n hex
      exact ⟨k, by omega, h2, h3⟩
    · refine ⟨n, by omega, ?_, fun j hj => ?_⟩
      · by_cases hin : i = n
        · rw [← hin]; exact hf
        · exact (hex ⟨i, by omega, hf⟩).elim
      · cases hc : f j with
        | true => rfl
        | false => exact (hex ⟨j, hj, hc⟩).elim

def onsOf (o : Oper) : List Nat := o.after.toList.filterMap fun e => if Region.binds .any e then some e.on else none

/-- Every operation of the head is waited for by a later one, up to the first of the tail. -/
def covers (l : List Oper) (n : Nat) : Bool := (List.range n).all (memN ((l.take (n + 1)).flatMap onsOf))

def chain : List Oper → Nat → Bool
  | [], _ => true
  | o :: r, i => hasEdge o (i - 1) && chain r (i + 1)

def backs : List Oper → Nat → Bool
  | [], _ => true
  | o :: r, i => backOnly o i && backs r (i + 1)

/-- The check: the head's flow; if there is a tail: it is a chain that waits for the whole head. -/
def flowB (l : List Oper) (n : Nat) : Bool :=
  Nat.ble n l.length && flow l.toArray (l.take n) 0 [] [] && backs (l.drop n) n && (Nat.beq n l.length || (covers l n && chain (l.drop (n + 1)) (n + 1)))

theorem hasEdge_spec {o : Oper} {j : Nat} (h : hasEdge o j = true) : ∃ e ∈ o.after, Region.binds .any e = true ∧ e.on = j := by
  obtain ⟨e, he, hb⟩ := List.any_eq_true.1 h
  simp only [Bool.and_eq_true] at hb
  exact ⟨e, by simpa using he, hb.1, Nat.eq_of_beq_eq_true hb.2⟩

theorem backOnly_spec {o : Oper} {i : Nat} (h : backOnly o i = true) : ∀ e ∈ o.after, Region.binds .any e = true → e.on < i := fun e he hb => by
  have := List.all_eq_true.1 h e (by simpa using he)
  rw [hb] at this
  simpa using this

theorem chain_spec : ∀ (r : List Oper) (i j : Nat) (o : Oper), chain r i = true → r[j]? = some o → hasEdge o (i + j - 1) = true
  | [], i, j, o, _, h => by simp at h
  | x :: r, i, 0, o, hc, h => by
    simp only [chain, Bool.and_eq_true] at hc
    simp at h; subst h; exact hc.1
  | x :: r, i, j + 1, o, hc, h => by
    simp only [chain, Bool.and_eq_true] at hc
    have := chain_spec r (i + 1) j o hc.2 (by simpa using h)
    rwa [show i + 1 + j - 1 = i + (j + 1) - 1 by omega] at this

theorem backs_spec : ∀ (r : List Oper) (i j : Nat) (o : Oper), backs r i = true → r[j]? = some o → backOnly o (i + j) = true
  | [], i, j, o, _, h => by simp at h
  | x :: r, i, 0, o, hc, h => by
    simp only [backs, Bool.and_eq_true] at hc
    simp at h; subst h; exact hc.1
  | x :: r, i, j + 1, o, hc, h => by
    simp only [backs, Bool.and_eq_true] at hc
    have := backs_spec r (i + 1) j o hc.2 (by simpa using h)
    rwa [show i + 1 + j = i + (j + 1) by omega] at this

theorem memN_of {l : List Nat} {t : Nat} (h : memN l t = true) : t ∈ l := by
  induction l with
  | nil => cases h
  | cons d r ih =>
    simp only [memN, Bool.or_eq_true] at h
    rcases h with h | h
    · rw [Nat.eq_of_beq_eq_true h]; simp
    · exact List.mem_cons_of_mem _ (ih h)

theorem lexA_take (vs : Nat → Value) (a : Act) (n : Nat) : ∀ i, i ≤ n → lexA (l.take n) vs a i = lexA l vs a i
  | 0, _ => rfl
  | i + 1, h => by
    have ih := lexA_take vs a n i (by omega)
    simp only [lexA, ih, List.getElem?_take]
    rw [if_pos (by omega)]

theorem getD_tf {listed : Array Bool} {i : Nat} (h : i < listed.size) : listed.getD i true = listed.getD i false := by simp [h]

theorem Act_ext {b c : Act} (h1 : b.tmps = c.tmps) (h2 : b.defers = c.defers) : b = c := by
  cases b; cases c; simp at h1 h2; simp [h1, h2]

theorem tail_any {Q : Exit → Act → World → Prop} {n : Nat} (hback : ∀ i o, l[i]? = some o → backOnly o i = true) (hch : ∀ i o, n < i → l[i]? = some o → hasEdge o (i - 1) = true) :
    ∀ (r : List Oper) (k f : Nat) (listed : Array Bool) (b : Act) (w : World), n ≤ k → (∀ j, r[j]? = l[k + j]?) → listed.size = l.length → (∀ j, j < k → listed.getD j false = true) → (∀ j, k ≤ j → listed.getD j false = false) →
      r.length ≤ f → wpList P l.toArray Q r b w → wpAny P .any l.toArray Q f listed b w
  | [], k, f, listed, b, w, hk, hl, hs, h1, h2, hf, h => by
    have hr : Region.ready .any l.toArray listed = [] := by
      refine List.eq_nil_iff_forall_not_mem.2 fun i hi => ?_
      obtain ⟨g1, o, g2, _⟩ := mem_ready.1 hi
      have hlt : i < l.length := by simpa using (Array.getElem?_eq_some_iff.1 g2).1
      rw [getD_tf (by rw [hs]; exact hlt)] at g1
      rcases Nat.lt_or_ge i k with hik | hik
      · rw [h1 i hik] at g1; cases g1
      · have := hl (i - k)
        rw [show k + (i - k) = i by omega] at this
        simp [List.getElem?_eq_getElem hlt] at this
    cases f with
    | zero => exact ⟨hr, h⟩
    | succ f => exact ⟨fun _ => h, fun i hi => by rw [hr] at hi; cases hi⟩
  | o :: r, k, f, listed, b, w, hk, hl, hs, h1, h2, hf, h => by
    have h0 : l[k]? = some o := by simpa using (hl 0).symm
    have hlt : k < l.length := (List.getElem?_eq_some_iff.1 h0).1
    obtain ⟨f, rfl⟩ : ∃ g, f = g + 1 := ⟨f - 1, by simp at hf; omega⟩
    have hk' : k ∈ Region.ready .any l.toArray listed := mem_ready.2 ⟨by rw [getD_tf (by rw [hs]; exact hlt)]; exact h2 k (Nat.le_refl _), o, by simpa using h0, fun e he hb => h1 _ (backOnly_spec (hback k o h0) e he hb)⟩
    refine ⟨(fun hr => by rw [hr] at hk'; cases hk'), fun i hi => ?_⟩
    obtain ⟨g1, oi, g2, g3⟩ := mem_ready.1 hi
    have hilt : i < l.length := by simpa using (Array.getElem?_eq_some_iff.1 g2).1
    rw [getD_tf (by rw [hs]; exact hilt)] at g1
    have hik : i = k := by
      rcases Nat.lt_trichotomy i k with hlt' | he | hgt
      · rw [h1 i hlt'] at g1; cases g1
      · exact he
      · obtain ⟨e, he1, he2, he3⟩ := hasEdge_spec (hch i oi (by omega) (by simpa using g2))
        have := g3 e he1 he2
        rw [he3, h2 (i - 1) (by omega)] at this
        cases this
    subst hik
    have hw : wpOp P l.toArray Q i (wpList P l.toArray Q r) b w := by
      unfold wpOp
      have h0' : l.toArray[i]? = some o := by simpa using h0
      simp only [h0']
      exact h
    refine wpOp_mono (fun b' w' h' => ?_) hw
    refine tail_any hback hch r (i + 1) f _ b' w' (by omega) (fun j => by have := hl (j + 1); simpa [Nat.add_assoc, Nat.add_comm 1 j] using this) (by simp [hs]) (fun j hj => ?_) (fun j hj => ?_) (by simp at hf; omega) h'
    · rw [getD_set _ _ _ (by rw [hs]; exact hlt)]
      rcases Nat.lt_or_ge j i with hji | hji
      · rw [h1 j hji]; rfl
      · obtain rfl : j = i := by omega
        simp
    · rw [getD_set _ _ _ (by rw [hs]; exact hlt), h2 j (by omega), Bool.false_or, Bool.eq_false_iff]
      exact fun e => by have := Nat.eq_of_beq_eq_true e; omega

theorem any_flow {Q : Exit → Act → World → Prop} {n : Nat} (hn : n ≤ l.length) (hF : Flow l.toArray l n) (hback : ∀ i o, l[i]? = some o → backOnly o i = true) (hch : ∀ i o, n < i → l[i]? = some o → hasEdge o (i - 1) = true)
    (hcov : n < l.length → covers l n = true) {vs : Nat → Value} {a : Act} (hy : ∀ j o, j < n → l[j]? = some o → YieldsIn P l.toArray C o (vs j) (lexA l vs a j))
    (hQ : ∀ w, C w → wpList P l.toArray Q (l.drop n) (lexA l vs a n) w) :
    ∀ (f : Nat) (listed : Array Bool) (b : Act) (w : World), C w → listed.size = l.length → cnt listed n ≤ f → (∀ j o, j < n → l[j]? = some o → listed.getD j false = true → ∀ e ∈ o.after, Region.binds .any e = true → listed.getD e.on false = true) →
      (∀ j, n ≤ j → listed.getD j false = false) → Done l n vs a (fun j => listed.getD j false) b → wpAny P .any l.toArray Q (f + (l.length - n)) listed b w := by
  intro f
  induction f with
  | zero =>
    intro listed b w hC hs hc hcl ht hD
    exact done listed b w hC hs (by omega) ht hD
  | succ f ih =>
    intro listed b w hC hs hc hcl ht hD
    by_cases hex : ∃ i, i < n ∧ listed.getD i false = false
    · obtain ⟨k, k1, k2, k3⟩ := least_false (fun i => listed.getD i false) n hex
      have hkl : k < l.length := by omega
      have hk0 : l[k]? = some l[k] := List.getElem?_eq_getElem hkl
      have hkr : k ∈ Region.ready .any l.toArray listed := mem_ready.2 ⟨by rw [getD_tf (by rw [hs]; exact hkl)]; exact k2, l[k], by simp [hkl], fun e he hb => k3 _ (backOnly_spec (hback k _ hk0) e he hb)⟩
      rw [show f + 1 + (l.length - n) = (f + (l.length - n)) + 1 by omega]
      refine ⟨(fun hr => by rw [hr] at hkr; cases hkr), fun i hi => ?_⟩
      obtain ⟨g1, oi, g2, g3⟩ := mem_ready.1 hi
      have hil : i < l.length := by simpa using (Array.getElem?_eq_some_iff.1 g2).1
      have g2' : l[i]? = some oi := by simpa using g2
      rw [getD_tf (by rw [hs]; exact hil)] at g1
      have hin : i < n := by
        rcases Nat.lt_or_ge i n with h | h
        · exact h
        · exfalso
          by_cases hgt : n < i
          · obtain ⟨e, he1, he2, he3⟩ := hasEdge_spec (hch i oi hgt g2')
            have := g3 e he1 he2
            rw [he3, ht (i - 1) (by omega)] at this
            cases this
          · obtain rfl : i = n := by omega
            have hcov' := hcov hil
            have all : ∀ d k, i - k = d → k < i → listed.getD k false = true := by
              intro d
              induction d using Nat.strongRecOn with
              | _ d ihd =>
                intro k hd hk
                have hm := memN_of (List.all_eq_true.1 hcov' k (List.mem_range.2 hk))
                obtain ⟨o, ho1, ho2⟩ := List.mem_flatMap.1 hm
                obtain ⟨e, he1, he2⟩ := List.mem_filterMap.1 ho2
                split at he2
                · rename_i hb
                  cases he2
                  obtain ⟨j, hj⟩ := List.getElem?_of_mem ho1
                  rw [List.getElem?_take] at hj
                  split at hj
                  · rename_i hjn
                    have hbo := backOnly_spec (hback j o hj) e (by simpa using he1) hb
                    rcases Nat.lt_or_ge j i with hji | hji
                    · exact hcl j o hji hj (ihd (i - j) (by omega) j rfl hji) e (by simpa using he1) hb
                    · obtain rfl : j = i := by omega
                      rw [g2'] at hj
                      cases hj
                      exact g3 e (by simpa using he1) hb
                  · cases hj
                · cases he2
            have := all (i - k) k rfl k1
            rw [k2] at this
            cases this
      have hedge : ∀ j, hasEdge oi j = true → listed.getD j false = true := fun j hj => by
        obtain ⟨e, he1, he2, he3⟩ := hasEdge_spec hj
        rw [← he3]
        exact g3 e he1 he2
      have hlex := Done.lex (vs := vs) (a := a) hF hn i (by omega)
      have hyi : YieldsIn P l.toArray C oi (vs i) b := yields_alike (hF.sel i oi hin g2') (hy i oi hin g2') fun t ht' => hD.alike hF hlex hin g2' hedge (fun j hj => by simpa using hj) ht'
      refine wpOp_of_qOp (K := fun c => c = b.put oi.dst (vs i)) hC (fun b' w' hw' hb' => ?_) (hyi.qOp (by simpa using g2') rfl)
      subst hb'
      refine ih _ _ w' hw' (by simp [hs]) ?_ ?_ ?_ ?_
      · have := cnt_lt listed i (by rw [hs]; exact hil) g1 n hin
        omega
      · intro j o hj ho hl e he hb
        rw [getD_set _ _ _ (by rw [hs]; exact hil)] at hl ⊢
        simp only [Bool.or_eq_true] at hl ⊢
        rcases hl with hl | hl
        · exact .inl (hcl j o hj ho hl e he hb)
        · obtain rfl := Nat.eq_of_beq_eq_true hl
          rw [g2'] at ho
          cases ho
          exact .inl (g3 e he hb)
      · intro j hj
        rw [getD_set _ _ _ (by rw [hs]; exact hil), ht j hj, Bool.false_or, Bool.eq_false_iff]
        exact fun e => by have := Nat.eq_of_beq_eq_true e; omega
      · refine (hD.step hF hin g2' g1).congr fun j _ => ?_
        rw [getD_set _ _ _ (by rw [hs]; exact hil)]
    · have hc0 : ∀ i, i < n → listed.getD i false = true := fun i hi => by
        cases h : listed.getD i false with
        | true => rfl
        | false => exact (hex ⟨i, hi, h⟩).elim
      exact fin0 (f + 1) listed b w hC hs hc0 ht hD
where
  fin0 (f : Nat) (listed : Array Bool) (b : Act) (w : World) (hC : C w) (hs : listed.size = l.length) (hall : ∀ i, i < n → listed.getD i false = true) (ht : ∀ j, n ≤ j → listed.getD j false = false)
      (hD : Done l n vs a (fun j => listed.getD j false) b) : wpAny P .any l.toArray Q (f + (l.length - n)) listed b w := by
    have hb : b = lexA l vs a n := by
      have hlex := Done.lex (vs := vs) (a := a) hF hn n (Nat.le_refl _)
      refine Act_ext (Array.ext_getElem? fun t => ?_) (hD.dfr.trans hlex.dfr.symm)
      by_cases hx : ∃ j p, j < n ∧ l[j]? = some p ∧ p.dst = some t
      · obtain ⟨j, p, hj, hp, hd⟩ := hx
        rcases Nat.lt_or_ge t a.tmps.size with hlt | hge
        · rw [hD.put j p t hj hp hd (hall j hj) hlt, hlex.put j p t hj hp hd (by simpa using hj) hlt]
        · rw [Array.getElem?_eq_none (by rw [hD.size]; exact hge), Array.getElem?_eq_none (by rw [hlex.size]; exact hge)]
      · rw [hD.old t fun j p hj hp _ hd => hx ⟨j, p, hj, hp, hd⟩, hlex.old t fun j p hj hp _ hd => hx ⟨j, p, hj, hp, hd⟩]
    rw [hb]
    exact tail_any hback hch (l.drop n) n _ listed _ w (Nat.le_refl _) (fun j => by simp [List.getElem?_drop]) hs hall ht (by simp) (hQ w hC)
  done (listed : Array Bool) (b : Act) (w : World) (hC : C w) (hs : listed.size = l.length) (hc : cnt listed n = 0) (ht : ∀ j, n ≤ j → listed.getD j false = false)
      (hD : Done l n vs a (fun j => listed.getD j false) b) : wpAny P .any l.toArray Q (0 + (l.length - n)) listed b w :=
    fin0 0 listed b w hC hs (cnt_zero listed n hc) ht hD

theorem wp_region_flow {id : Nat} {Q : Exit → Act → World → Prop} {a : Act} {w : World} (n : Nat) (hm : P.follows .mixedOrders = true) (hB : flowB l n = true) (hC : C { w with drawn := w.drawn + 1 })
    (h : wpQuiet P l.toArray C (fun a' => ∀ w', C w' → wpList P l.toArray Q (l.drop n) a' w') (l.take n) a) : (Code.region id l.toArray true).wp P Q a w := by
  simp only [flowB, Bool.and_eq_true, Nat.ble_eq, Bool.or_eq_true] at hB
  obtain ⟨⟨⟨b1, b2⟩, b3⟩, b4⟩ := hB
  have htl : (l.take n).length = n := by simp; omega
  have hF0 := flow_spec l.toArray l (l.take n) 0 [] [] (fun j hj => by rw [List.getElem?_take, if_pos (by omega), Nat.zero_add]) b2
    ⟨fun j p t hj => by omega, fun j p t hj => by omega, ⟨fun i j o p t hi => by omega, fun i o hi => by omega, fun i j o p d hi => by omega, fun i o hi => by omega⟩⟩
  rw [htl, Nat.zero_add] at hF0
  have hback : ∀ i o, l[i]? = some o → backOnly o i = true := fun i o ho => by
    rcases Nat.lt_or_ge i n with hi | hi
    · exact hF0.back i o hi ho
    · have := backs_spec (l.drop n) n (i - n) o b3 (by rw [List.getElem?_drop, show n + (i - n) = i by omega]; exact ho)
      rwa [show n + (i - n) = i by omega] at this
  have hch : ∀ i o, n < i → l[i]? = some o → hasEdge o (i - 1) = true := fun i o hi ho => by
    rcases b4 with b4 | b4
    · have := Nat.eq_of_beq_eq_true b4
      have := (List.getElem?_eq_some_iff.1 ho).1
      omega
    · have := chain_spec (l.drop (n + 1)) (n + 1) (i - (n + 1)) o b4.2 (by rw [List.getElem?_drop, show n + 1 + (i - (n + 1)) = i by omega]; exact ho)
      rwa [show n + 1 + (i - (n + 1)) - 1 = i - 1 by omega] at this
  have hcov : n < l.length → covers l n = true := fun hlt => by
    rcases b4 with b4 | b4
    · have := Nat.eq_of_beq_eq_true b4; omega
    · exact b4.1
  obtain ⟨vs, h1, h2⟩ := lex_values (P := P) (C := C) (l := l) (l.take n) 0 a (fun j hj => by rw [List.getElem?_take, if_pos (by omega), Nat.zero_add]) h
  rw [htl, lexA_take vs a n n (Nat.le_refl _)] at h2
  have hy : ∀ j o, j < n → l[j]? = some o → YieldsIn P l.toArray C o (vs j) (lexA l vs a j) := fun j o hj ho => by
    have := h1 j o (by rw [htl]; exact hj) (by rw [List.getElem?_take, if_pos hj]; exact ho)
    rwa [lexA_take vs a n j (by omega)] at this
  refine wp_region_any hm ?_
  have := any_flow (Q := Q) b1 hF0 hback hch hcov hy h2 n (Array.replicate l.length false) a _ hC (by simp) ?_ ?_ ?_ ?_
  · rw [show n + (l.length - n) = l.length by omega] at this
    simpa using this
  · have : ∀ (k : Nat) (L : Array Bool), cnt L k ≤ k := by
      intro k L
      induction k with
      | zero => exact Nat.le_refl _
      | succ k ih => simp only [cnt]; split <;> omega
    exact this n _
  · intro j o hj ho hl
    rw [getD_replicate_false] at hl
    cases hl
  · intro j _
    exact getD_replicate_false _ _
  · exact (Done.start n vs a).congr fun j _ => (getD_replicate_false _ _).symm

end

end Go.Proofs.YtfeancgmmonebaaDoor.Sx

