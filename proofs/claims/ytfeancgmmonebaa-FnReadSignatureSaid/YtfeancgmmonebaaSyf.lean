/-
  When a number that a run leaves is 0, symbolically. Conditions: none; each theorem bears its own.
-/
import Derived.Test.YtfeancgmmonebaaSzf
namespace Go.Proofs.Ytfeancgmmonebaa.Sx
open Go

def zOp (TZ : Tr BF) : SI → BF
  | .var j => (TZ.get j).getD (.eq (.var j) (.lit 0))
  | .lit n => .eq (.lit n) (.lit 0)

def inBits (T : Tr If) (b : Nat) (x : SI) : Bool :=
  match siIf T x with
  | some f => decide (0 ≤ f.lo) && decide (f.hi < 2 ^ b)
  | none => false

def zOf (T : Tr If) (TZ : Tr BF) (d : Def) : Option BF :=
  match d with
  | .pr (.bin .or k) [x, y] => match unsB k with
    | some b => if inBits T b x && inBits T b y then some (.and (zOp TZ x) (zOp TZ y)) else none
    | none => none
  | .pr (.bin .xor k) [x, y] => match unsB k with
    | some b => if inBits T b x && inBits T b y then some (.eq x y) else none
    | none => none
  | _ => none

def zRun (T : Tr If) : Nat → List Def → Tr BF → Tr BF
  | _, [], TZ => TZ
  | n, d :: ds, TZ => zRun T (n + arity d) ds (match zOf T TZ d with
    | some f => Tr.set 20 TZ n (some f)
    | none => TZ)

def InvZ (E : List Int) (TZ : Tr BF) : Prop := ∀ (i : Nat) (f : BF), TZ.get i = some f → (E.getD i 0 = 0 ↔ f.ev E = true)

theorem InvZ.set {E : List Int} {TZ : Tr BF} (h : InvZ E TZ) {n : Nat} {f : BF} (hf : E.getD n 0 = 0 ↔ f.ev E = true) : InvZ E (Tr.set 20 TZ n (some f)) := by
  intro i g hg
  rcases Tr.get_set _ _ _ _ _ _ hg with ⟨rfl, e⟩ | ⟨_, hg⟩
  · cases e; exact hf
  · exact h i g hg

theorem zOp_spec {E : List Int} {TZ : Tr BF} (h : InvZ E TZ) (x : SI) : x.val E = 0 ↔ (zOp TZ x).ev E = true := by
  cases x with
  | lit n =>
    show n = 0 ↔ decide (n = 0) = true
    rw [decide_eq_true_eq]
  | var j =>
    show E.getD j 0 = 0 ↔ ((TZ.get j).getD (.eq (.var j) (.lit 0))).ev E = true
    cases hg : TZ.get j with
    | none =>
      show E.getD j 0 = 0 ↔ decide (E.getD j 0 = 0) = true
      rw [decide_eq_true_eq]
    | some f => exact h j f hg

theorem inBits_spec {E : List Int} {T : Tr If} (h : Inv E T) {b : Nat} {x : SI} (hx : inBits T b x = true) : 0 ≤ x.val E ∧ x.val E < 2 ^ b := by
  unfold inBits at hx
  split at hx
  · rename_i f hf
    have := siIf_ok h hf
    simp only [Bool.and_eq_true, decide_eq_true_eq] at hx
    have h1 := this.lo
    have h2 := this.hi
    omega
  · cases hx

theorem nat_or_zero {a b : Nat} : a ||| b = 0 ↔ a = 0 ∧ b = 0 := by
  constructor
  · intro h
    have h1 : a ≤ a ||| b := Nat.left_le_or
    have h2 : b ≤ a ||| b := Nat.right_le_or
    omega
  · rintro ⟨rfl, rfl⟩
    rfl

theorem nat_xor_zero {a b : Nat} : a ^^^ b = 0 ↔ a = b := by
  constructor
  · intro h
    rw [← Nat.xor_zero a, ← Nat.xor_self b, ← Nat.xor_assoc, h, Nat.zero_xor]
  · rintro rfl
    exact Nat.xor_self a

theorem zOf_sound {Γ : List Entry} {E : List Int} {T : Tr If} (hT : Inv E T) {TZ : Tr BF} (h : InvZ E TZ) {n : Nat} {d : Def} {f : BF} (hs : SatL Γ E n [d]) (hf : zOf T TZ d = some f) : E.getD n 0 = 0 ↔ f.ev E = true := by
  unfold zOf at hf
  split at hf
  · rename_i k x y
    split at hf
    · rename_i b hk
      split at hf
      · rename_i hb
        cases hf
        simp only [Bool.and_eq_true] at hb
        obtain ⟨x0, x1⟩ := inBits_spec hT hb.1
        obtain ⟨y0, y1⟩ := inBits_spec hT hb.2
        have e : E.getD n 0 = bits .or k (x.val E) (y.val E) := hs.1
        rw [e, bits_or hk x0 x1 y0 y1]
        simp only [BF.ev, Bool.and_eq_true]
        rw [← zOp_spec h, ← zOp_spec h]
        have := nat_or_zero (a := (x.val E).toNat) (b := (y.val E).toNat)
        omega
      · cases hf
    · cases hf
  · rename_i k x y
    split at hf
    · rename_i b hk
      split at hf
      · rename_i hb
        cases hf
        simp only [Bool.and_eq_true] at hb
        obtain ⟨x0, x1⟩ := inBits_spec hT hb.1
        obtain ⟨y0, y1⟩ := inBits_spec hT hb.2
        have e : E.getD n 0 = bits .xor k (x.val E) (y.val E) := hs.1
        rw [e, bits_xor hk x0 x1 y0 y1]
        simp only [BF.ev, decide_eq_true_eq]
        have := nat_xor_zero (a := (x.val E).toNat) (b := (y.val E).toNat)
        omega
      · cases hf
    · cases hf
  · cases hf

theorem zRun_sound {Γ : List Entry} {E : List Int} {T : Tr If} (hT : Inv E T) : ∀ (ds : List Def) (n : Nat) (TZ : Tr BF), SatL Γ E n ds → InvZ E TZ → InvZ E (zRun T n ds TZ)
  | [], _, _, _, h => h
  | d :: ds, n, TZ, hs, h => by
    have h1 : SatL Γ E n [d] ∧ SatL Γ E (n + arity d) ds := by
      cases d with
      | pr p xs => exact ⟨⟨hs.1, trivial⟩, hs.2⟩
      | app j xs m => exact ⟨⟨hs.1, trivial⟩, hs.2⟩
    unfold zRun
    refine zRun_sound hT ds _ _ h1.2 ?_
    split
    · rename_i f hf
      exact h.set (zOf_sound hT h h1.1 hf)
    · exact h

def zAt (R : List ARule) (bnds : List (Int × Int)) (defs : List Def) (i : Nat) : Option BF :=
  match aiRun R bnds.length defs.reverse (initT 0 bnds) with
  | some T => (zRun T bnds.length defs.reverse .nil).get i
  | none => none

theorem zAt_sound {Γ : List Entry} {R : List ARule} (hR : ∀ j, RuleOk (Γ.getD j noEntry) (R.getD j .none)) {bnds : List (Int × Int)} {defs : List Def} {i : Nat} {f : BF}
    (hok : okDs bnds.length defs.reverse = true) (h : zAt R bnds defs i = some f) {base : List Int} (hl : base.length = bnds.length) (hb : inB bnds base) : (runR Γ defs base).getD i 0 = 0 ↔ f.ev (runR Γ defs base) = true := by
  unfold zAt at h
  rw [runR_eq]
  rw [← hl] at h hok
  have hs := satL_run Γ defs.reverse base hok
  split at h
  · rename_i T hT
    have hi : Inv (runL Γ defs.reverse base) (initT 0 bnds) := initT_inv bnds 0 fun i b hb' => by
      obtain ⟨s, hs'⟩ := runL_prefix Γ defs.reverse base
      have hlt : i < base.length := by rw [hl]; exact (List.getElem?_eq_some_iff.1 hb').1
      have := hb i b hb'
      rw [Nat.zero_add, hs']
      simpa [List.getD, List.getElem?_append_left hlt] using this
    have hT' := aiRun_sound hR _ _ _ _ hs hi hT
    exact zRun_sound hT' _ _ _ hs (fun i f hf => by cases hf) i f h
  · cases h

end Go.Proofs.Ytfeancgmmonebaa.Sx
