/-
  Bounds and polynomials over a whole run; what a kernel's check of them says. Conditions: none; each theorem bears its own.
-/
import Derived.Test.YtfeancgmmonebaaSyb
namespace Go.Proofs.Ytfeancgmmonebaa.Sx
open Go

/-! ## 1. A run, the oldest definition first -/

def arity : Def → Nat
  | .pr _ _ => 1
  | .app _ _ m => m

def okD (n : Nat) : Def → Bool
  | .pr _ xs => xs.all (SI.ok n)
  | .app _ xs _ => xs.all (SI.ok n)

def okDs : Nat → List Def → Bool
  | _, [] => true
  | n, d :: ds => okD n d && okDs (n + arity d) ds

def SatL (Γ : List Entry) (E : List Int) : Nat → List Def → Prop
  | _, [] => True
  | n, .pr p xs :: ds => E.getD n 0 = p.ev (xs.map (·.val E)) ∧ SatL Γ E (n + 1) ds
  | n, .app j xs m :: ds => (∀ i, i < m → E.getD (n + i) 0 = ((Γ.getD j noEntry).F (xs.map (·.val E))).getD i 0) ∧ SatL Γ E (n + m) ds

def runL (Γ : List Entry) : List Def → List Int → List Int
  | [], e => e
  | d :: ds, e => runL Γ ds (e ++ d.ev Γ e)

theorem runL_append (Γ : List Entry) : ∀ (a b : List Def) (e : List Int), runL Γ (a ++ b) e = runL Γ b (runL Γ a e)
  | [], _, _ => rfl
  | _ :: a, b, _ => runL_append Γ a b _

theorem runR_eq (Γ : List Entry) (e : List Int) : ∀ ds : List Def, runR Γ ds e = runL Γ ds.reverse e
  | [] => rfl
  | d :: ds => by
    rw [List.reverse_cons, runL_append, ← runR_eq Γ e ds]
    rfl

theorem ev_length (Γ : List Entry) (e : List Int) (d : Def) : (d.ev Γ e).length = arity d := by
  cases d with
  | pr p xs => rfl
  | app j xs m => exact fit_length _ _

theorem runL_prefix (Γ : List Entry) : ∀ (ds : List Def) (e : List Int), ∃ s, runL Γ ds e = e ++ s
  | [], e => ⟨[], by simp [runL]⟩
  | d :: ds, e => by
    obtain ⟨s, hs⟩ := runL_prefix Γ ds (e ++ d.ev Γ e)
    exact ⟨d.ev Γ e ++ s, by simp only [runL]; rw [hs, List.append_assoc]⟩

theorem vals_ext {e s : List Int} {xs : List SI} (h : xs.all (SI.ok e.length) = true) : xs.map (·.val (e ++ s)) = xs.map (·.val e) :=
  List.map_congr_left fun x hx => SI.val_ext (List.all_eq_true.1 h x hx)

theorem fit_getD : ∀ (m : Nat) (l : List Int) (i : Nat), i < m → (fit m l).getD i 0 = l.getD i 0
  | 0, _, _, h => by omega
  | m + 1, [], 0, _ => rfl
  | m + 1, x :: l, 0, _ => rfl
  | m + 1, [], i + 1, h => by
    have := fit_getD m [] i (by omega)
    simpa [fit] using this
  | m + 1, x :: l, i + 1, h => by
    have := fit_getD m l i (by omega)
    simpa [fit] using this

theorem satL_run (Γ : List Entry) : ∀ (ds : List Def) (e : List Int), okDs e.length ds = true → SatL Γ (runL Γ ds e) e.length ds
  | [], _, _ => trivial
  | d :: ds, e, h => by
    simp only [okDs, Bool.and_eq_true] at h
    obtain ⟨s, hs⟩ := runL_prefix Γ ds (e ++ d.ev Γ e)
    have ih := satL_run Γ ds (e ++ d.ev Γ e) (by rw [List.length_append, ev_length]; exact h.2)
    rw [List.length_append, ev_length] at ih
    have hE : runL Γ (d :: ds) e = e ++ (d.ev Γ e ++ s) := by simp only [runL]; rw [hs, List.append_assoc]
    have at' : ∀ i, i < arity d → (runL Γ (d :: ds) e).getD (e.length + i) 0 = (d.ev Γ e).getD i 0 := by
      intro i hi
      rw [hE]
      simp only [List.getD]
      rw [List.getElem?_append_right (by omega), Nat.add_sub_cancel_left, List.getElem?_append_left (by rw [ev_length]; exact hi)]
    cases d with
    | pr p xs =>
      refine ⟨?_, ih⟩
      have := at' 0 (by show 0 < 1; decide)
      rw [Nat.add_zero] at this
      rw [this, hE, vals_ext h.1]
      rfl
    | app j xs m =>
      refine ⟨fun i hi => ?_, ih⟩
      rw [at' i hi, hE, vals_ext h.1]
      exact fit_getD m _ i hi

/-! ## 2. The rules -/

inductive ARule where
  | out (pre post : List (Int × Int))
  | sub64
  | add64
  | none

def inB (l : List (Int × Int)) (xs : List Int) : Prop := ∀ (i : Nat) (b : Int × Int), l[i]? = some b → b.1 ≤ xs.getD i 0 ∧ xs.getD i 0 ≤ b.2

def RuleOk (e : Entry) : ARule → Prop
  | .out pre post => ∀ xs : List Int, xs.length = pre.length → inB pre xs → inB post (e.F xs)
  | .sub64 => ∀ x y b : Int, 0 ≤ x → x < 2 ^ 64 → 0 ≤ y → y < 2 ^ 64 → 0 ≤ b → b ≤ 1 →
      ∃ c, e.F [x, y, b] = [x - y - b + 2 ^ 64 * c, c] ∧ 0 ≤ c ∧ c ≤ 1 ∧ 0 ≤ x - y - b + 2 ^ 64 * c ∧ x - y - b + 2 ^ 64 * c < 2 ^ 64
  | .add64 => ∀ x y b : Int, 0 ≤ x → x < 2 ^ 64 → 0 ≤ y → y < 2 ^ 64 → 0 ≤ b → b ≤ 1 →
      ∃ c, e.F [x, y, b] = [x + y + b - 2 ^ 64 * c, c] ∧ 0 ≤ c ∧ c ≤ 1 ∧ 0 ≤ x + y + b - 2 ^ 64 * c ∧ x + y + b - 2 ^ 64 * c < 2 ^ 64
  | .none => True

def prIf (T : Tr If) (n : Nat) (p : Pr) (xs : List SI) : Option If :=
  match p, xs with
  | .bin op k, [x, y] =>
    if isCmp op then some (bit n) else
    match unsB k, siIf T x, siIf T y with
    | some b, some f, some g => binIf op b n x y f g
    | _, _, _ => none
  | .conv k, [x] =>
    match unsB k, siIf T x with
    | some b, some f =>
      if decide (0 ≤ f.lo) then if decide (f.hi < 2 ^ b) then some f else (shAtom x f b).map fun a => modIf b a f else some (fall b n)
    | _, _ => none
  | .neg, _ => some (bit n)
  | .beq, _ => some (bit n)
  | .eqs _, _ => some (bit n)
  | .nes _, _ => some (bit n)
  | _, _ => none

def allIn : List (Int × Int) → List (Option If) → Bool
  | [], [] => true
  | b :: bs, some f :: fs => decide (b.1 ≤ f.lo) && decide (f.hi ≤ b.2) && allIn bs fs
  | _, _ => false

def setOuts : Nat → List (Int × Int) → Tr If → Tr If
  | _, [], T => T
  | n, b :: bs, T => setOuts (n + 1) bs (Tr.set 20 T n (some ⟨b.1, b.2, 0, patom (n, 0)⟩))

def aiStep (R : List ARule) (n : Nat) (T : Tr If) (d : Def) : Option (Tr If) :=
  match d with
  | .pr p xs => (prIf T n p xs).map fun f => Tr.set 20 T n (some f)
  | .app j xs m =>
    match R.getD j .none with
    | .out pre post => if allIn pre (xs.map (siIf T)) && Nat.beq m post.length then some (setOuts n post T) else none
    | .sub64 =>
      match xs with
      | [x, y, b] =>
        match siIf T x, siIf T y, siIf T b with
        | some f, some g, some h =>
          if decide (0 ≤ f.lo) && decide (f.hi < 2 ^ 64) && decide (0 ≤ g.lo) && decide (g.hi < 2 ^ 64) && decide (0 ≤ h.lo) && decide (h.hi ≤ 1) && Nat.beq m 2 then
            some (Tr.set 20 (Tr.set 20 T n (some ⟨0, 2 ^ 64 - 1, 0, padd (pscale (2 ^ 64) (patom (n + 1, 0))) (padd (pscale (-1) h.p) (padd (pscale (-1) g.p) f.p))⟩)) (n + 1) (some ⟨0, 1, 0, patom (n + 1, 0)⟩))
          else none
        | _, _, _ => none
      | _ => none
    | .add64 =>
      match xs with
      | [x, y, b] =>
        match siIf T x, siIf T y, siIf T b with
        | some f, some g, some h =>
          if decide (0 ≤ f.lo) && decide (f.hi < 2 ^ 64) && decide (0 ≤ g.lo) && decide (g.hi < 2 ^ 64) && decide (0 ≤ h.lo) && decide (h.hi ≤ 1) && Nat.beq m 2 then
            some (Tr.set 20 (Tr.set 20 T n (some ⟨0, 2 ^ 64 - 1, 0, padd (pscale (-(2 ^ 64)) (patom (n + 1, 0))) (padd h.p (padd g.p f.p))⟩)) (n + 1) (some ⟨0, 1, 0, patom (n + 1, 0)⟩))
          else none
        | _, _, _ => none
      | _ => none
    | .none => none

def aiRun (R : List ARule) : Nat → List Def → Tr If → Option (Tr If)
  | _, [], T => some T
  | n, d :: ds, T => match aiStep R n T d with
    | some T' => aiRun R (n + arity d) ds T'
    | none => none

def Inv (E : List Int) (T : Tr If) : Prop := ∀ (i : Nat) (f : If), T.get i = some f → IfOk E (E.getD i 0) f

theorem Inv.set {E : List Int} {T : Tr If} (h : Inv E T) {n : Nat} {f : If} (hf : IfOk E (E.getD n 0) f) : Inv E (Tr.set 20 T n (some f)) := by
  intro i g hg
  rcases Tr.get_set _ _ _ _ _ _ hg with ⟨rfl, e⟩ | ⟨_, hg⟩
  · cases e; exact hf
  · exact h i g hg

theorem siIf_ok {E : List Int} {T : Tr If} (h : Inv E T) {x : SI} {f : If} (hx : siIf T x = some f) : IfOk E (x.val E) f := by
  cases x with
  | lit n =>
    cases hx
    exact ⟨Int.le_refl _, Int.le_refl _, ⟨_, (Int.one_mul _).symm⟩, by show n = polyV E (pconst n); rw [pconst_val]⟩
  | var i => exact h i f hx

theorem prIf_sound {E : List Int} {T : Tr If} (h : Inv E T) {n : Nat} {p : Pr} {xs : List SI} {f : If} (hp : prIf T n p xs = some f) (hv : E.getD n 0 = p.ev (xs.map (·.val E))) : IfOk E (E.getD n 0) f := by
  unfold prIf at hp
  split at hp
  · rename_i op k x y
    simp only [Pr.ev, List.map, List.getD_cons_zero, List.getD_cons_succ] at hv
    split at hp
    · rename_i hc
      cases hp
      cases op <;> simp [isCmp] at hc
      · exact bit_ok hv
      · exact bit_ok' hv
      · exact bit_ok hv
      · exact bit_ok hv
      · exact bit_ok hv
      · exact bit_ok hv
    · split at hp
      · rename_i b f g hk hf hg
        exact binIf_sound hk (siIf_ok h hf) (siIf_ok h hg) hp hv
      · cases hp
  · rename_i k x
    simp only [Pr.ev, List.map, List.getD_cons_zero] at hv
    split at hp
    · rename_i b f hk hf
      have hx := siIf_ok h hf
      split at hp
      · rename_i h0
        have h0 : 0 ≤ f.lo := by simpa using h0
        have := hx.lo
        split at hp
        · rename_i h1
          have h1 : f.hi < 2 ^ b := by simpa using h1
          cases hp
          have := hx.hi
          rw [hv, uns_wrap hk, mod_in (by omega) (by omega)]
          exact hx
        · obtain ⟨a, ha, rfl⟩ := Option.map_eq_some_iff.1 hp
          rw [hv, uns_wrap hk]
          exact mod_ok hx (shAtom_val ha hx)
      · cases hp
        exact fall_ok hk hv
    · cases hp
  · cases hp; exact bit_ok hv
  · cases hp; exact bit_ok hv
  · cases hp; exact bit_ok hv
  · cases hp; exact bit_ok' hv
  · cases hp

theorem allIn_spec {E : List Int} {T : Tr If} (h : Inv E T) : ∀ (pre : List (Int × Int)) (xs : List SI), allIn pre (xs.map (siIf T)) = true → xs.length = pre.length ∧ inB pre (xs.map (·.val E))
  | [], [], _ => ⟨rfl, fun i b hb => by simp at hb⟩
  | [], x :: xs, hh => by simp [allIn] at hh
  | b :: bs, [], hh => by simp [allIn] at hh
  | b :: bs, x :: xs, hh => by
    simp only [List.map_cons] at hh
    cases hx : siIf T x with
    | none => rw [hx] at hh; simp [allIn] at hh
    | some f =>
      rw [hx] at hh
      simp only [allIn, Bool.and_eq_true, decide_eq_true_eq] at hh
      obtain ⟨i1, i2⟩ := allIn_spec h bs xs hh.2
      have g := siIf_ok h hx
      refine ⟨by simp [i1], fun i c hc => ?_⟩
      cases i with
      | zero =>
        simp at hc
        subst hc
        have := g.lo; have := g.hi
        simp only [List.map_cons, List.getD_cons_zero]
        omega
      | succ i =>
        have := i2 i c (by simpa using hc)
        simpa using this

theorem setOuts_inv {E : List Int} : ∀ (post : List (Int × Int)) (n : Nat) (T : Tr If), Inv E T → (∀ (i : Nat) (b : Int × Int), post[i]? = some b → b.1 ≤ E.getD (n + i) 0 ∧ E.getD (n + i) 0 ≤ b.2) → Inv E (setOuts n post T)
  | [], _, _, h, _ => h
  | b :: bs, n, T, h, hb => by
    refine setOuts_inv bs (n + 1) _ (h.set ?_) fun i c hc => ?_
    · have := hb 0 b rfl
      rw [Nat.add_zero] at this
      exact ⟨this.1, this.2, ⟨_, (Int.one_mul _).symm⟩, by rw [patom_val, atom0]⟩
    · have := hb (i + 1) c (by simpa using hc)
      rwa [show n + (i + 1) = n + 1 + i by omega] at this

theorem aiRun_sound {Γ : List Entry} {R : List ARule} (hR : ∀ j, RuleOk (Γ.getD j noEntry) (R.getD j .none)) {E : List Int} : ∀ (ds : List Def) (n : Nat) (T T' : Tr If), SatL Γ E n ds → Inv E T → aiRun R n ds T = some T' → Inv E T'
  | [], _, _, _, _, h, hr => by cases hr; exact h
  | d :: ds, n, T, T', hs, h, hr => by
    unfold aiRun at hr
    split at hr
    · rename_i T1 h1
      cases d with
      | pr p xs =>
        obtain ⟨s1, s2⟩ := hs
        obtain ⟨f, hf, rfl⟩ := Option.map_eq_some_iff.1 (show (prIf T n p xs).map (fun f => Tr.set 20 T n (some f)) = some T1 from h1)
        exact aiRun_sound hR ds (n + 1) _ T' s2 (h.set (prIf_sound h hf s1)) hr
      | app j xs m =>
        obtain ⟨s1, s2⟩ := hs
        refine aiRun_sound hR ds (n + m) T1 T' s2 ?_ hr
        have hRj := hR j
        simp only [aiStep] at h1
        split at h1
        · rename_i pre post hrule
          rw [hrule] at hRj
          split at h1
          · rename_i hc
            cases h1
            simp only [Bool.and_eq_true] at hc
            have hm := Nat.eq_of_beq_eq_true hc.2
            obtain ⟨i1, i2⟩ := allIn_spec h pre xs hc.1
            have hp := hRj (xs.map (·.val E)) (by simpa using i1) i2
            refine setOuts_inv post n T h fun i b hb => ?_
            have hi : i < m := by rw [hm]; exact (List.getElem?_eq_some_iff.1 hb).1
            rw [s1 i hi]
            exact hp i b hb
          · cases h1
        · rename_i hrule
          rw [hrule] at hRj
          split at h1
          · rename_i x y b
            split at h1
            · rename_i f g k hf hg hk
              split at h1
              · rename_i hc
                cases h1
                simp only [Bool.and_eq_true, decide_eq_true_eq] at hc
                obtain ⟨⟨⟨⟨⟨⟨c1, c2⟩, c3⟩, c4⟩, c5⟩, c6⟩, c7⟩ := hc
                have hm := Nat.eq_of_beq_eq_true c7
                have f' := siIf_ok h hf
                have g' := siIf_ok h hg
                have k' := siIf_ok h hk
                have := f'.lo; have := f'.hi; have := g'.lo; have := g'.hi; have := k'.lo; have := k'.hi
                obtain ⟨c, e1, e2, e3, e4, e5⟩ := hRj (x.val E) (y.val E) (b.val E) (by omega) (by omega) (by omega) (by omega) (by omega) (by omega)
                have v0 := s1 0 (by omega)
                have v1 := s1 1 (by omega)
                simp only [List.map, e1, List.getD_cons_zero, List.getD_cons_succ, Nat.add_zero] at v0 v1
                refine (h.set ?_).set ?_
                · refine ⟨by rw [v0]; exact e4, by rw [v0]; show _ ≤ (2 : Int) ^ 64 - 1; omega, ⟨_, (Int.one_mul _).symm⟩, ?_⟩
                  show E.getD n 0 = polyV E (padd (pscale (2 ^ 64) (patom (n + 1, 0))) (padd (pscale (-1) k.p) (padd (pscale (-1) g.p) f.p)))
                  rw [padd_val, pscale_val, patom_val, atom0, padd_val, pscale_val, padd_val, pscale_val, ← f'.val, ← g'.val, ← k'.val, v0, v1]
                  omega
                · exact ⟨by rw [v1]; exact e2, by rw [v1]; exact e3, ⟨_, (Int.one_mul _).symm⟩, by show _ = polyV E (patom (n + 1, 0)); rw [patom_val, atom0]⟩
              · cases h1
            · cases h1
          · cases h1
        · rename_i hrule
          rw [hrule] at hRj
          split at h1
          · rename_i x y b
            split at h1
            · rename_i f g k hf hg hk
              split at h1
              · rename_i hc
                cases h1
                simp only [Bool.and_eq_true, decide_eq_true_eq] at hc
                obtain ⟨⟨⟨⟨⟨⟨c1, c2⟩, c3⟩, c4⟩, c5⟩, c6⟩, c7⟩ := hc
                have hm := Nat.eq_of_beq_eq_true c7
                have f' := siIf_ok h hf
                have g' := siIf_ok h hg
                have k' := siIf_ok h hk
                have := f'.lo; have := f'.hi; have := g'.lo; have := g'.hi; have := k'.lo; have := k'.hi
                obtain ⟨c, e1, e2, e3, e4, e5⟩ := hRj (x.val E) (y.val E) (b.val E) (by omega) (by omega) (by omega) (by omega) (by omega) (by omega)
                have v0 := s1 0 (by omega)
                have v1 := s1 1 (by omega)
                simp only [List.map, e1, List.getD_cons_zero, List.getD_cons_succ, Nat.add_zero] at v0 v1
                refine (h.set ?_).set ?_
                · refine ⟨by rw [v0]; exact e4, by rw [v0]; show _ ≤ (2 : Int) ^ 64 - 1; omega, ⟨_, (Int.one_mul _).symm⟩, ?_⟩
                  show E.getD n 0 = polyV E (padd (pscale (-(2 ^ 64)) (patom (n + 1, 0))) (padd k.p (padd g.p f.p)))
                  rw [padd_val, pscale_val, patom_val, atom0, padd_val, padd_val, ← f'.val, ← g'.val, ← k'.val, v0, v1]
                  omega
                · exact ⟨by rw [v1]; exact e2, by rw [v1]; exact e3, ⟨_, (Int.one_mul _).symm⟩, by show _ = polyV E (patom (n + 1, 0)); rw [patom_val, atom0]⟩
              · cases h1
            · cases h1
          · cases h1
        · cases h1
    · cases hr

/-! ## 3. Checks -/

abbrev Lin := List (SI × Int)

def linV (E : List Int) : Lin → Int
  | [] => 0
  | t :: r => t.2 * t.1.val E + linV E r

def linP (T : Tr If) : Lin → Option Poly
  | [] => some []
  | t :: r => match siIf T t.1, linP T r with
    | some f, some q => some (padd (pscale t.2 f.p) q)
    | _, _ => none

theorem linP_val {E : List Int} {T : Tr If} (h : Inv E T) : ∀ {l : Lin} {q : Poly}, linP T l = some q → linV E l = polyV E q
  | [], q, hq => by cases hq; rfl
  | t :: r, q, hq => by
    unfold linP at hq
    split at hq
    · rename_i f q' h1 h2
      cases hq
      rw [padd_val, pscale_val, ← linP_val h h2, ← (siIf_ok h h1).val]
      rfl
    · cases hq

def chkMod (p : Int) (T : Tr If) (l : Lin) : Bool :=
  match linP T l with
  | some q => q.all fun t => decide (t.2 % p = 0)
  | none => false

def chkZero (T : Tr If) (l : Lin) : Bool :=
  match linP T l with
  | some q => q.isEmpty
  | none => false

def chkIn (T : Tr If) (x : SI) (lo hi : Int) : Bool :=
  match siIf T x with
  | some f => decide (lo ≤ f.lo) && decide (f.hi ≤ hi)
  | none => false

theorem polyV_dvd (E : List Int) (p : Int) : ∀ q : Poly, (q.all fun t => decide (t.2 % p = 0)) = true → p ∣ polyV E q
  | [], _ => ⟨0, by simp [polyV]⟩
  | t :: r, h => by
    simp only [List.all_cons, Bool.and_eq_true, decide_eq_true_eq] at h
    exact Int.dvd_add (Int.dvd_mul_of_dvd_left (Int.dvd_of_emod_eq_zero h.1)) (polyV_dvd E p r h.2)

theorem chkMod_spec {E : List Int} {T : Tr If} (h : Inv E T) {p : Int} {l : Lin} (hc : chkMod p T l = true) : p ∣ linV E l := by
  unfold chkMod at hc
  split at hc
  · rename_i q hq
    rw [linP_val h hq]
    exact polyV_dvd E p q hc
  · cases hc

theorem chkZero_spec {E : List Int} {T : Tr If} (h : Inv E T) {l : Lin} (hc : chkZero T l = true) : linV E l = 0 := by
  unfold chkZero at hc
  split at hc
  · rename_i q hq
    rw [linP_val h hq, List.isEmpty_iff.1 hc]
    rfl
  · cases hc

theorem chkIn_spec {E : List Int} {T : Tr If} (h : Inv E T) {x : SI} {lo hi : Int} (hc : chkIn T x lo hi = true) : lo ≤ x.val E ∧ x.val E ≤ hi := by
  unfold chkIn at hc
  split at hc
  · rename_i f hf
    simp only [Bool.and_eq_true, decide_eq_true_eq] at hc
    have g := siIf_ok h hf
    have := g.lo; have := g.hi
    omega
  · cases hc

def initT : Nat → List (Int × Int) → Tr If
  | _, [] => .nil
  | n, b :: bs => Tr.set 20 (initT (n + 1) bs) n (some ⟨b.1, b.2, 0, patom (n, 0)⟩)

theorem initT_inv {E : List Int} : ∀ (bs : List (Int × Int)) (n : Nat), (∀ (i : Nat) (b : Int × Int), bs[i]? = some b → b.1 ≤ E.getD (n + i) 0 ∧ E.getD (n + i) 0 ≤ b.2) → Inv E (initT n bs)
  | [], _, _ => fun i f hf => by simp [initT, Tr.get] at hf
  | b :: bs, n, h => by
    refine (initT_inv bs (n + 1) fun i c hc => ?_).set ?_
    · have := h (i + 1) c (by simpa using hc)
      rwa [show n + (i + 1) = n + 1 + i by omega] at this
    · have := h 0 b rfl
      rw [Nat.add_zero] at this
      exact ⟨this.1, this.2, ⟨_, (Int.one_mul _).symm⟩, by show _ = polyV E (patom (n, 0)); rw [patom_val, atom0]⟩

/-- What a check asks: numbers in bounds, sums that vanish, sums that p divides. -/
structure Ask where
  ins : List (SI × Int × Int) := []
  zeros : List Lin := []
  mods : List (Int × Lin) := []

def aiChk (R : List ARule) (bnds : List (Int × Int)) (defs : List Def) (q : Ask) : Bool :=
  okDs bnds.length defs.reverse &&
  match aiRun R bnds.length defs.reverse (initT 0 bnds) with
  | some T => q.ins.all (fun x => chkIn T x.1 x.2.1 x.2.2) && q.zeros.all (chkZero T) && q.mods.all fun x => chkMod x.1 T x.2
  | none => false

/-- WHAT THE CHECK SAYS. -/
theorem aiChk_sound {Γ : List Entry} {R : List ARule} (hR : ∀ j, RuleOk (Γ.getD j noEntry) (R.getD j .none)) {bnds : List (Int × Int)} {defs : List Def} {q : Ask} (h : aiChk R bnds defs q = true)
    {base : List Int} (hl : base.length = bnds.length) (hb : inB bnds base) :
    SatL Γ (runR Γ defs base) base.length defs.reverse ∧ (∀ x ∈ q.ins, x.2.1 ≤ x.1.val (runR Γ defs base) ∧ x.1.val (runR Γ defs base) ≤ x.2.2) ∧ (∀ l ∈ q.zeros, linV (runR Γ defs base) l = 0) ∧
      ∀ x ∈ q.mods, x.1 ∣ linV (runR Γ defs base) x.2 := by
  simp only [aiChk, Bool.and_eq_true] at h
  obtain ⟨h1, h2⟩ := h
  rw [runR_eq]
  rw [← hl] at h1 h2
  have hs := satL_run Γ defs.reverse base h1
  split at h2
  · rename_i T hT
    simp only [Bool.and_eq_true] at h2
    have hi : Inv (runL Γ defs.reverse base) (initT 0 bnds) := initT_inv bnds 0 fun i b hb' => by
      obtain ⟨s, hs'⟩ := runL_prefix Γ defs.reverse base
      have hlt : i < base.length := by rw [hl]; exact (List.getElem?_eq_some_iff.1 hb').1
      have := hb i b hb'
      rw [Nat.zero_add, hs']
      simpa [List.getD, List.getElem?_append_left hlt] using this
    have hT' := aiRun_sound hR _ _ _ _ hs hi hT
    exact ⟨hs, fun x hx => chkIn_spec hT' (List.all_eq_true.1 h2.1.1 x hx), fun l hl' => chkZero_spec hT' (List.all_eq_true.1 h2.1.2 l hl'), fun x hx => chkMod_spec hT' (List.all_eq_true.1 h2.2 x hx)⟩
  · cases h2

/-- The definition of the number at place i. -/
def defAt : Nat → List Def → Nat → Option Def
  | _, [], _ => none
  | n, d :: ds, i => if Nat.beq n i then some d else defAt (n + arity d) ds i

theorem satL_at {Γ : List Entry} {E : List Int} : ∀ {ds : List Def} {n i : Nat} {p : Pr} {xs : List SI}, SatL Γ E n ds → defAt n ds i = some (.pr p xs) → E.getD i 0 = p.ev (xs.map (·.val E))
  | [], _, _, _, _, _, h => by cases h
  | d :: ds, n, i, p, xs, hs, h => by
    unfold defAt at h
    split at h
    · rename_i hn
      cases h
      rw [← Nat.eq_of_beq_eq_true hn]
      exact hs.1
    · cases d with
      | pr p' xs' => exact satL_at hs.2 h
      | app j xs' m => exact satL_at hs.2 h

end Go.Proofs.Ytfeancgmmonebaa.Sx
