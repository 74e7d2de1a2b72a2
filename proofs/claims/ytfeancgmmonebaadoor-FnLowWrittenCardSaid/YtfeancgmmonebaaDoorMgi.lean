/-
  Digits of numbers. Conditions: none; each theorem bears its own.
-/
import Derived.Test.YtfeancgmmonebaaDoorMgh
namespace Go.Proofs.YtfeancgmmonebaaDoor.Sx
open Go

def num (w : Nat) : List Int → Int
  | [] => 0
  | x :: l => x + 2 ^ w * num w l

def dig (w : Nat) : Nat → Int → List Int
  | 0, _ => []
  | n + 1, V => V % 2 ^ w :: dig w n (V / 2 ^ w)

def Dg (w : Nat) (l : List Int) : Prop := ∀ x ∈ l, 0 ≤ x ∧ x < 2 ^ w

theorem two_pos (w : Nat) : (0 : Int) < 2 ^ w := Int.pow_pos (by decide)

theorem dig_length (w : Nat) : ∀ (n : Nat) (V : Int), (dig w n V).length = n
  | 0, _ => rfl
  | n + 1, V => by simp [dig, dig_length w n]

theorem dig_dg (w : Nat) : ∀ (n : Nat) (V : Int), Dg w (dig w n V)
  | 0, _ => fun x hx => by cases hx
  | n + 1, V => fun x hx => by
    rcases List.mem_cons.1 hx with rfl | hx
    · exact ⟨Int.emod_nonneg _ (by have := two_pos w; omega), Int.emod_lt_of_pos _ (two_pos w)⟩
    · exact dig_dg w n _ x hx

theorem Dg.tail {w : Nat} {x : Int} {l : List Int} (h : Dg w (x :: l)) : Dg w l := fun y hy => h y (List.mem_cons_of_mem _ hy)
theorem Dg.head {w : Nat} {x : Int} {l : List Int} (h : Dg w (x :: l)) : 0 ≤ x ∧ x < 2 ^ w := h x List.mem_cons_self

theorem num_bounds {w : Nat} : ∀ {l : List Int}, Dg w l → 0 ≤ num w l ∧ num w l < 2 ^ (w * l.length)
  | [], _ => by simp [num]
  | x :: l, h => by
    obtain ⟨h0, h1⟩ := h.head
    obtain ⟨g0, g1⟩ := num_bounds h.tail
    have hp := two_pos w
    refine ⟨?_, ?_⟩
    · exact Int.add_nonneg h0 (Int.mul_nonneg (by omega) g0)
    · rw [List.length_cons, Nat.mul_add, Nat.mul_one, Nat.add_comm, Int.pow_add]
      have : 2 ^ w * (num w l + 1) ≤ 2 ^ w * 2 ^ (w * l.length) := Int.mul_le_mul_of_nonneg_left (by omega) (by omega)
      rw [Int.mul_add] at this
      show x + 2 ^ w * num w l < _
      omega

theorem dig_num {w : Nat} : ∀ {l : List Int}, Dg w l → dig w l.length (num w l) = l
  | [], _ => rfl
  | x :: l, h => by
    obtain ⟨h0, h1⟩ := h.head
    have hp := two_pos w
    have e1 : (x + 2 ^ w * num w l) % 2 ^ w = x := by
      rw [Int.add_mul_emod_self_left]; exact Int.emod_eq_of_lt h0 h1
    have e2 : (x + 2 ^ w * num w l) / 2 ^ w = num w l := by
      rw [Int.add_mul_ediv_left _ _ (by omega), Int.ediv_eq_zero_of_lt h0 h1, Int.zero_add]
    simp only [List.length_cons, dig, num, e1, e2]
    rw [dig_num h.tail]

theorem num_dig (w : Nat) : ∀ (n : Nat) (V : Int), 0 ≤ V → V < 2 ^ (w * n) → num w (dig w n V) = V
  | 0, V, h0, h1 => by simp at h1; simp only [dig, num]; omega
  | n + 1, V, h0, h1 => by
    have hp := two_pos w
    have h2 : V / 2 ^ w < 2 ^ (w * n) := by
      apply Int.ediv_lt_of_lt_mul hp
      rw [Nat.mul_add, Nat.mul_one, Int.pow_add] at h1
      exact h1
    simp only [dig, num]
    rw [num_dig w n _ (Int.ediv_nonneg h0 (by omega)) h2]
    exact Int.emod_add_mul_ediv V (2 ^ w)

theorem dig_eq {w : Nat} {l : List Int} {V : Int} (h : Dg w l) (hv : num w l = V) : l = dig w l.length V := by rw [← hv, dig_num h]

theorem dig_add_mul (w : Nat) : ∀ (n : Nat) (V c : Int), dig w n (V + 2 ^ (w * n) * c) = dig w n V
  | 0, _, _ => rfl
  | n + 1, V, c => by
    have hp := two_pos w
    have e : V + 2 ^ (w * (n + 1)) * c = V + 2 ^ w * (2 ^ (w * n) * c) := by
      rw [Nat.mul_add, Nat.mul_one, Int.pow_add, Int.mul_comm (2 ^ (w * n)), Int.mul_assoc]
    simp only [dig]
    rw [e, Int.add_mul_emod_self_left, Int.add_mul_ediv_left _ _ (by omega), dig_add_mul w n]

theorem dig_mod (w n : Nat) (V : Int) : dig w n (V % 2 ^ (w * n)) = dig w n V := by
  have := dig_add_mul w n (V % 2 ^ (w * n)) (V / 2 ^ (w * n))
  rw [Int.emod_add_mul_ediv] at this
  exact this.symm

/-- Digits that are alike modulo 2^(w n). -/
theorem dig_eq_mod {w : Nat} {l : List Int} {V : Int} (h : Dg w l) (hv : (2 : Int) ^ (w * l.length) ∣ num w l - V) : l = dig w l.length V := by
  obtain ⟨c, hc⟩ := hv
  have : V = num w l + 2 ^ (w * l.length) * (-c) := by rw [Int.mul_neg]; omega
  rw [this, dig_add_mul, dig_num h]

theorem dig_inj {w n : Nat} {A B : Int} (ha : 0 ≤ A) (ha' : A < 2 ^ (w * n)) (hb : 0 ≤ B) (hb' : B < 2 ^ (w * n)) (h : dig w n A = dig w n B) : A = B := by
  rw [← num_dig w n A ha ha', ← num_dig w n B hb hb', h]

/-- Numbers with weights. -/
def linOf (w : Nat) (c : Int) : List SI → Lin
  | [] => []
  | x :: r => (x, c) :: linOf w (c * 2 ^ w) r

theorem linOf_val (E : List Int) (w : Nat) : ∀ (xs : List SI) (c : Int), linV E (linOf w c xs) = c * num w (xs.map (·.val E))
  | [], c => by simp [linOf, linV, num]
  | x :: r, c => by
    simp only [linOf, linV, linOf_val E w r, List.map_cons, num]
    rw [Int.mul_add, Int.mul_assoc]

theorem linV_append (E : List Int) : ∀ a b : Lin, linV E (a ++ b) = linV E a + linV E b
  | [], b => by simp [linV]
  | t :: a, b => by simp only [List.cons_append, linV, linV_append E a b]; omega

def vars : Nat → Nat → List SI
  | _, 0 => []
  | i, n + 1 => .var i :: vars (i + 1) n

theorem vars_val (E : List Int) : ∀ (n i : Nat), (vars i n).map (·.val E) = fit n (E.drop i)
  | 0, _ => rfl
  | n + 1, i => by
    simp only [vars, List.map_cons, fit]
    rw [vars_val E n (i + 1), List.tail_drop]
    congr 1
    simp [SI.val, List.getD, List.headD_eq_head?_getD]

theorem fit_eq : ∀ {n : Nat} {l : List Int}, l.length = n → fit n l = l
  | 0, [], _ => rfl
  | n + 1, x :: l, h => by simp only [fit, List.headD_cons, List.tail_cons]; rw [fit_eq (by simpa using h)]

theorem fit_append : ∀ {n : Nat} {l r : List Int}, l.length = n → fit n (l ++ r) = l
  | 0, [], _, _ => rfl
  | n + 1, x :: l, r, h => by simp only [List.cons_append, fit, List.headD_cons, List.tail_cons]; rw [fit_append (by simpa using h)]

/-! ## Tests, symbolically -/

inductive BF where
  | eq (x y : SI)
  | lt (x y : SI)
  | and (f g : BF)
  | or (f g : BF)
  | not (f : BF)

def BF.ev (E : List Int) : BF → Bool
  | .eq x y => decide (x.val E = y.val E)
  | .lt x y => decide (x.val E < y.val E)
  | .and f g => f.ev E && g.ev E
  | .or f g => f.ev E || g.ev E
  | .not f => !f.ev E

/-- What a called test says, of numbers of 32 bits. -/
inductive BRule where
  | eq
  | lt
  | le
  | gt
  | ge
  | none

def b01 (b : Bool) : Int := if b then 1 else 0

def BRuleOk (e : Entry) (r : BRule) : Prop :=
  ∀ x y : Int, 0 ≤ x → x < 2 ^ 32 → 0 ≤ y → y < 2 ^ 32 → match r with
    | .eq => e.F [x, y] = [b01 (decide (x = y))]
    | .lt => e.F [x, y] = [b01 (decide (x < y))]
    | .le => e.F [x, y] = [b01 (!decide (y < x))]
    | .gt => e.F [x, y] = [b01 (decide (y < x))]
    | .ge => e.F [x, y] = [b01 (!decide (x < y))]
    | .none => True

def in32 (T : Tr If) (x : SI) : Bool :=
  match siIf T x with
  | some f => decide (0 ≤ f.lo) && decide (f.hi < 2 ^ 32)
  | none => false

def bfOf (T : Tr If) (R : List BRule) (TB : Tr BF) (d : Def) : Option BF :=
  match d with
  | .app j [x, y] 1 =>
    if in32 T x && in32 T y then
      match R.getD j .none with
      | .eq => some (.eq x y)
      | .lt => some (.lt x y)
      | .le => some (.not (.lt y x))
      | .gt => some (.lt y x)
      | .ge => some (.not (.lt x y))
      | .none => none
    else none
  | .pr (.bin .eql _) [x, y] => some (.eq x y)
  | .pr (.bin .neq _) [.var i, .lit n] => match TB.get i with
    | some f => if n = 0 then some f else some (.not (.eq (.var i) (.lit n)))
    | none => some (.not (.eq (.var i) (.lit n)))
  | .pr (.bin .neq _) [x, y] => some (.not (.eq x y))
  | .pr (.bin .lss _) [x, y] => some (.lt x y)
  | .pr (.bin .and k) [.var i, .var j] => match unsB k, TB.get i, TB.get j with
    | some _, some f, some g => some (.and f g)
    | _, _, _ => none
  | .pr (.bin .or k) [.var i, .var j] => match unsB k, TB.get i, TB.get j with
    | some _, some f, some g => some (.or f g)
    | _, _, _ => none
  | .pr .neg [.var i] => (TB.get i).map .not
  | _ => none

def bfRun (T : Tr If) (R : List BRule) : Nat → List Def → Tr BF → Tr BF
  | _, [], TB => TB
  | n, d :: ds, TB => bfRun T R (n + arity d) ds (match bfOf T R TB d with
    | some f => Tr.set 20 TB n (some f)
    | none => TB)

def InvB (E : List Int) (TB : Tr BF) : Prop := ∀ (i : Nat) (f : BF), TB.get i = some f → E.getD i 0 = b01 (f.ev E)

theorem InvB.set {E : List Int} {TB : Tr BF} (h : InvB E TB) {n : Nat} {f : BF} (hf : E.getD n 0 = b01 (f.ev E)) : InvB E (Tr.set 20 TB n (some f)) := by
  intro i g hg
  rcases Tr.get_set _ _ _ _ _ _ hg with ⟨rfl, e⟩ | ⟨_, hg⟩
  · cases e; exact hf
  · exact h i g hg

theorem bits_b01 {k : IntKind} {b : Nat} (hk : unsB k = some b) (p q : Bool) : bits .and k (b01 p) (b01 q) = b01 (p && q) ∧ bits .or k (b01 p) (b01 q) = b01 (p || q) := by
  cases k <;> simp [unsB] at hk <;> cases p <;> cases q <;> exact ⟨rfl, rfl⟩

theorem in32_spec {E : List Int} {T : Tr If} (h : Inv E T) {x : SI} (hx : in32 T x = true) : 0 ≤ x.val E ∧ x.val E < 2 ^ 32 := by
  unfold in32 at hx
  split at hx
  · rename_i f hf
    have := siIf_ok h hf
    simp only [Bool.and_eq_true, decide_eq_true_eq] at hx
    have h1 := this.lo
    have h2 := this.hi
    omega
  · cases hx

theorem ite_b01 (p : Prop) [Decidable p] : (if p then (1 : Int) else 0) = b01 (decide p) := by by_cases h : p <;> simp [b01, h]
theorem ite_b01' (p : Prop) [Decidable p] : (if p then (0 : Int) else 1) = b01 (!decide p) := by by_cases h : p <;> simp [b01, h]
theorem b01_ne (b : Bool) : decide (b01 b = 0) = !b := by cases b <;> rfl

theorem bfOf_sound {Γ : List Entry} {R : List BRule} (hR : ∀ j, BRuleOk (Γ.getD j noEntry) (R.getD j .none)) {E : List Int} {T : Tr If} (hT : Inv E T) {TB : Tr BF} (h : InvB E TB) {n : Nat} {d : Def} {f : BF} (hs : SatL Γ E n [d])
    (hf : bfOf T R TB d = some f) : E.getD n 0 = b01 (f.ev E) := by
  unfold bfOf at hf
  split at hf
  · rename_i j x y
    split at hf
    · rename_i hb
      simp only [Bool.and_eq_true] at hb
      obtain ⟨x0, x1⟩ := in32_spec hT hb.1
      obtain ⟨y0, y1⟩ := in32_spec hT hb.2
      have h1 := hs.1 0 (by decide)
      have h2 := hR j (x.val E) (y.val E) x0 x1 y0 y1
      simp only [Nat.add_zero, List.map_cons, List.map_nil] at h1
      rw [h1]
      split at hf <;> rename_i hr <;> rw [hr] at h2 <;> simp only [Option.some.injEq, reduceCtorEq] at hf <;> subst hf <;> simp only at h2 <;> rw [h2] <;> rfl
    · cases hf
  · rename_i x y
    cases hf
    rw [hs.1]
    exact ite_b01 _
  · rename_i i m
    have h1 : E.getD n 0 = b01 (!decide (E.getD i 0 = m)) := by rw [hs.1]; exact ite_b01' _
    split at hf
    · rename_i g hg
      split at hf
      · rename_i hm
        cases hf
        subst hm
        rw [h1, h i f hg, b01_ne, Bool.not_not]
      · cases hf; exact h1
    · cases hf; exact h1
  · cases hf
    rw [hs.1]
    exact ite_b01' _
  · cases hf
    rw [hs.1]
    exact ite_b01 _
  · rename_i k i j
    split at hf
    · rename_i b f1 g1 hk hf1 hg1
      cases hf
      rw [hs.1]
      have : Pr.ev (.bin .and k) ([SI.var i, SI.var j].map (·.val E)) = bits .and k (E.getD i 0) (E.getD j 0) := rfl
      rw [this, h i f1 hf1, h j g1 hg1, (bits_b01 hk _ _).1]
      rfl
    · cases hf
  · rename_i k i j
    split at hf
    · rename_i b f1 g1 hk hf1 hg1
      cases hf
      rw [hs.1]
      have : Pr.ev (.bin .or k) ([SI.var i, SI.var j].map (·.val E)) = bits .or k (E.getD i 0) (E.getD j 0) := rfl
      rw [this, h i f1 hf1, h j g1 hg1, (bits_b01 hk _ _).2]
      rfl
    · cases hf
  · rename_i i
    obtain ⟨g, hg, rfl⟩ := Option.map_eq_some_iff.1 hf
    rw [hs.1]
    have : Pr.ev .neg ([SI.var i].map (·.val E)) = if E.getD i 0 = 0 then 1 else 0 := rfl
    rw [this, ite_b01, h i g hg, b01_ne]
    rfl
  · cases hf

theorem bfRun_sound {Γ : List Entry} {R : List BRule} (hR : ∀ j, BRuleOk (Γ.getD j noEntry) (R.getD j .none)) {E : List Int} {T : Tr If} (hT : Inv E T) : ∀ (ds : List Def) (n : Nat) (TB : Tr BF), SatL Γ E n ds → InvB E TB → InvB E (bfRun T R n ds TB)
  | [], _, _, _, h => h
  | d :: ds, n, TB, hs, h => by
    have h1 : SatL Γ E n [d] ∧ SatL Γ E (n + arity d) ds := by
      cases d with
      | pr p xs => exact ⟨⟨hs.1, trivial⟩, hs.2⟩
      | app j xs m => exact ⟨⟨hs.1, trivial⟩, hs.2⟩
    unfold bfRun
    refine bfRun_sound hR hT ds _ _ h1.2 ?_
    split
    · rename_i f hf
      exact h.set (bfOf_sound hR hT h h1.1 hf)
    · exact h

/-- A test that a run leaves, as the kernel reckons it. -/
def bfAt (R : List ARule) (RB : List BRule) (bnds : List (Int × Int)) (defs : List Def) (i : Nat) : Option BF :=
  match aiRun R bnds.length defs.reverse (initT 0 bnds) with
  | some T => (bfRun T RB bnds.length defs.reverse .nil).get i
  | none => none

theorem bfAt_sound {Γ : List Entry} {R : List ARule} {RB : List BRule} (hR : ∀ j, RuleOk (Γ.getD j noEntry) (R.getD j .none)) (hB : ∀ j, BRuleOk (Γ.getD j noEntry) (RB.getD j .none)) {bnds : List (Int × Int)} {defs : List Def} {i : Nat} {f : BF}
    (hok : okDs bnds.length defs.reverse = true) (h : bfAt R RB bnds defs i = some f) {base : List Int} (hl : base.length = bnds.length) (hb : inB bnds base) : (runR Γ defs base).getD i 0 = b01 (f.ev (runR Γ defs base)) := by
  unfold bfAt at h
  rw [runR_eq]
  rw [← hl] at h hok
  have hs := satL_run Γ defs.reverse base hok
  split at h
  · rename_i T hT
    have hi : Inv (runL Γ defs.reverse base) (initT 0 bnds) := initT_inv bnds 0 fun i b hb' => by
      obtain ⟨s, hs'⟩ := runL_prefix Γ defs.reverse base
      have hlt : i < base.length := by rw [hl]; exact (List.getElem?_eq_some_iff.1 hb').1
      have := hb i b hb'
      rw [Nat.zero_add, hs']
      simpa [List.getD, List.getElem?_append_left hlt] using this
    have hT' := aiRun_sound hR _ _ _ _ hs hi hT
    exact bfRun_sound hB hT' _ _ _ hs (fun i f hf => by cases hf) i f h
  · cases h

end Go.Proofs.YtfeancgmmonebaaDoor.Sx

