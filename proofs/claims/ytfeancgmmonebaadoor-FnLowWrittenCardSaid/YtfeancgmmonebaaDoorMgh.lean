/-
  Bounds and polynomials of a run's numbers: soundness. Conditions: none; each theorem bears its own.
-/
import Derived.Test.YtfeancgmmonebaaDoorMgg
import Derived.Test.YtfeancgmmonebaaDoorChecked
import Derived.KernelRfl
import Derived.Laws.Externs
namespace Go.Proofs.YtfeancgmmonebaaDoor.Sx
open Go

theorem atom0 (E : List Int) (n : Nat) : atomV E (n, 0) = E.getD n 0 := by simp [atomV]

theorem fall_ok {E : List Int} {k : IntKind} {b n : Nat} (hk : unsB k = some b) {z : Int} (h : E.getD n 0 = k.wrap z) : IfOk E (E.getD n 0) (fall b n) := by
  have hp : (0 : Int) < 2 ^ b := Int.pow_pos (by decide)
  refine ⟨?_, ?_, ?_, ?_⟩
  · rw [h, uns_wrap hk]; exact Int.emod_nonneg _ (by omega)
  · rw [h, uns_wrap hk]; have := Int.emod_lt_of_pos z hp; show z % 2 ^ b ≤ 2 ^ b - 1; omega
  · exact ⟨_, (Int.one_mul _).symm⟩
  · rw [show (fall b n).p = patom (n, 0) from rfl, patom_val, atom0]

theorem fall_in {E : List Int} {n : Nat} {m : Int} (h0 : 0 ≤ E.getD n 0) (h1 : E.getD n 0 ≤ m) : IfOk E (E.getD n 0) ⟨0, m, 0, patom (n, 0)⟩ :=
  ⟨h0, h1, ⟨_, (Int.one_mul _).symm⟩, by rw [patom_val, atom0]⟩

theorem ofInt_toNat {b : Nat} {x : Int} (h0 : 0 ≤ x) (h1 : x < 2 ^ b) : (BitVec.ofInt b x).toNat = x.toNat := by
  rw [BitVec.toNat_ofInt, Int.emod_eq_of_lt h0 (by simpa using h1)]

theorem toNat_lt {b : Nat} {x : Int} (h0 : 0 ≤ x) (h1 : x < 2 ^ b) : x.toNat < 2 ^ b := by
  have : ((x.toNat : Nat) : Int) < ((2 ^ b : Nat) : Int) := by rw [Int.toNat_of_nonneg h0]; simpa using h1
  exact Int.ofNat_lt.1 this

theorem wrap_nat {k : IntKind} {b : Nat} (hk : unsB k = some b) {n : Nat} (h : n < 2 ^ b) : k.wrap (n : Int) = n := by
  rw [uns_wrap hk]
  exact Int.emod_eq_of_lt (by omega) (by have : (n : Int) < ((2 ^ b : Nat) : Int) := Int.ofNat_lt.2 h; simpa using this)

theorem bits_and {k : IntKind} {b : Nat} (hk : unsB k = some b) {x y : Int} (hx0 : 0 ≤ x) (hx : x < 2 ^ b) (hy0 : 0 ≤ y) (hy : y < 2 ^ b) : bits .and k x y = ((x.toNat &&& y.toNat : Nat) : Int) := by
  obtain rfl := uns_bits hk
  unfold bits
  simp only [BitVec.toNat_and, ofInt_toNat hx0 hx, ofInt_toNat hy0 hy]
  exact wrap_nat hk (Nat.lt_of_le_of_lt Nat.and_le_left (toNat_lt hx0 hx))

theorem bits_or {k : IntKind} {b : Nat} (hk : unsB k = some b) {x y : Int} (hx0 : 0 ≤ x) (hx : x < 2 ^ b) (hy0 : 0 ≤ y) (hy : y < 2 ^ b) : bits .or k x y = ((x.toNat ||| y.toNat : Nat) : Int) := by
  obtain rfl := uns_bits hk
  unfold bits
  simp only [BitVec.toNat_or, ofInt_toNat hx0 hx, ofInt_toNat hy0 hy]
  exact wrap_nat hk (Nat.or_lt_two_pow (toNat_lt hx0 hx) (toNat_lt hy0 hy))

theorem bits_wrap (op : BinOp) (k : IntKind) (x y : Int) : ∃ z, bits op k x y = k.wrap z := ⟨_, rfl⟩

theorem or_disj {x y : Nat} {t : Nat} (hx : x < 2 ^ t) (hy : 2 ^ t ∣ y) : x ||| y = x + y := by
  obtain ⟨c, rfl⟩ := hy
  rw [Nat.or_comm, ← Nat.two_pow_add_eq_or_of_lt hx, Nat.add_comm]

theorem pow_dvd_pow {a b : Nat} (h : a ≤ b) : (2 : Int) ^ a ∣ 2 ^ b := ⟨2 ^ (b - a), by rw [← Int.pow_add]; congr 1; omega⟩

theorem dvd_nat {t : Nat} {x : Int} (h0 : 0 ≤ x) (h : (2 : Int) ^ t ∣ x) : 2 ^ t ∣ x.toNat := by
  have : ((2 ^ t : Nat) : Int) ∣ ((x.toNat : Nat) : Int) := by rw [Int.toNat_of_nonneg h0]; simpa using h
  exact Int.ofNat_dvd.1 this

theorem add_ok {E : List Int} {x y : Int} {f g : If} (hf : IfOk E x f) (hg : IfOk E y g) : IfOk E (x + y) (addIf f g) := by
  refine ⟨?_, ?_, ?_, ?_⟩
  · have := hf.lo; have := hg.lo; show f.lo + g.lo ≤ x + y; omega
  · have := hf.hi; have := hg.hi; show x + y ≤ f.hi + g.hi; omega
  · exact Int.dvd_add (Int.dvd_trans (pow_dvd_pow (Nat.min_le_left _ _)) hf.tz) (Int.dvd_trans (pow_dvd_pow (Nat.min_le_right _ _)) hg.tz)
  · show _ = polyV E (padd f.p g.p); rw [padd_val, ← hf.val, ← hg.val]

theorem isMask_spec {m : Int} {t : Nat} (h : isMask m = some t) : m = 2 ^ t - 1 := by
  unfold isMask at h
  simp only at h
  split at h
  · rename_i hm
    cases h
    simpa using hm
  · cases h

theorem mod_ok {E : List Int} {x : Int} {f : If} {t : Nat} {a : Atom} (hf : IfOk E x f) (ha : atomV E a = x / 2 ^ t) : IfOk E (x % 2 ^ t) (modIf t a f) := by
  have hp : (0 : Int) < 2 ^ t := Int.pow_pos (by decide)
  have hm := Int.emod_add_mul_ediv x (2 ^ t)
  refine ⟨Int.emod_nonneg _ (by omega), ?_, ?_, ?_⟩
  · have := Int.emod_lt_of_pos x hp; show x % 2 ^ t ≤ 2 ^ t - 1; omega
  · show (2 : Int) ^ (min f.tz t) ∣ x % 2 ^ t
    have h1 : (2 : Int) ^ (min f.tz t) ∣ x := Int.dvd_trans (pow_dvd_pow (Nat.min_le_left _ _)) hf.tz
    have h2 : (2 : Int) ^ (min f.tz t) ∣ 2 ^ t * (x / 2 ^ t) := Int.dvd_mul_of_dvd_left (pow_dvd_pow (Nat.min_le_right _ _))
    have h3 := Int.dvd_sub h1 h2
    rwa [show x - 2 ^ t * (x / 2 ^ t) = x % 2 ^ t by omega] at h3
  · show x % 2 ^ t = polyV E (padd (pscale (-(2 ^ t)) (patom a)) f.p)
    rw [padd_val, pscale_val, patom_val, ha, ← hf.val, Int.neg_mul]
    omega

theorem shr_ok {E : List Int} {x : Int} {f : If} {t : Nat} {a : Atom} (hf : IfOk E x f) (ha : atomV E a = x / 2 ^ t) : IfOk E (x / 2 ^ t) (shrIf t a f) := by
  have hp : (0 : Int) < 2 ^ t := Int.pow_pos (by decide)
  have h1 := Int.ediv_le_ediv hp hf.lo
  have h2 := Int.ediv_le_ediv hp hf.hi
  refine ⟨h1, h2, ⟨_, (Int.one_mul _).symm⟩, ?_⟩
  show _ = polyV E (if f.lo / 2 ^ t = f.hi / 2 ^ t then pconst (f.lo / 2 ^ t) else patom a)
  split
  · rename_i h
    rw [pconst_val]
    omega
  · rw [patom_val, ha]

theorem scale_ok {E : List Int} {x : Int} {f : If} {s : Nat} (hf : IfOk E x f) : IfOk E (x * 2 ^ s) (scaleIf s f) := by
  have hp : (0 : Int) ≤ 2 ^ s := Int.pow_nonneg (by decide)
  refine ⟨Int.mul_le_mul_of_nonneg_right hf.lo hp, Int.mul_le_mul_of_nonneg_right hf.hi hp, ?_, ?_⟩
  · show (2 : Int) ^ (f.tz + s) ∣ x * 2 ^ s
    rw [Int.pow_add]
    exact Int.mul_dvd_mul hf.tz (Int.dvd_refl _)
  · show x * 2 ^ s = polyV E (pscale (2 ^ s) f.p)
    rw [pscale_val, ← hf.val, Int.mul_comm]

theorem bit_ok {E : List Int} {n : Nat} {p : Prop} [Decidable p] (h : E.getD n 0 = if p then 1 else 0) : IfOk E (E.getD n 0) (bit n) := by
  refine ⟨?_, ?_, ⟨_, (Int.one_mul _).symm⟩, by rw [show (bit n).p = patom (n, 0) from rfl, patom_val, atom0]⟩
  · show (0 : Int) ≤ _; rw [h]; split <;> decide
  · show _ ≤ (1 : Int); rw [h]; split <;> decide

theorem bit_ok' {E : List Int} {n : Nat} {p : Prop} [Decidable p] (h : E.getD n 0 = if p then 0 else 1) : IfOk E (E.getD n 0) (bit n) := by
  refine ⟨?_, ?_, ⟨_, (Int.one_mul _).symm⟩, by rw [show (bit n).p = patom (n, 0) from rfl, patom_val, atom0]⟩
  · show (0 : Int) ≤ _; rw [h]; split <;> decide
  · show _ ≤ (1 : Int); rw [h]; split <;> decide

theorem zero_one {x : Int} (h0 : 0 ≤ x) (h1 : x ≤ 1) : x = 0 ∨ x = 1 := by omega

theorem mul_le_mul' {a b c d : Int} (h1 : a ≤ b) (h2 : c ≤ d) (hc : 0 ≤ c) (hb : 0 ≤ b) : a * c ≤ b * d :=
  Int.le_trans (Int.mul_le_mul_of_nonneg_right h1 hc) (Int.mul_le_mul_of_nonneg_left h2 hb)

theorem binIf_sound {E : List Int} {op : BinOp} {k : IntKind} {b n : Nat} {x y : SI} {f g r : If} (hk : unsB k = some b) (hf : IfOk E (x.val E) f) (hg : IfOk E (y.val E) g)
    (h : binIf op b n x y f g = some r) (hv : E.getD n 0 = binEv op k (x.val E) (y.val E)) : IfOk E (E.getD n 0) r := by
  have hp : (0 : Int) < 2 ^ b := Int.pow_pos (by decide)
  cases op
  case add =>
    simp only [binIf, Bool.and_eq_true, decide_eq_true_eq] at h
    split at h
    · rename_i hc
      cases h
      have ha := add_ok hf hg
      rw [hv]
      simp only [binEv]
      rw [uns_wrap hk, mod_in (by have := hf.lo; have := hg.lo; omega) (by have := hf.hi; have := hg.hi; omega)]
      exact ha
    · cases h; exact fall_ok hk hv
  case sub =>
    simp only [binIf, Bool.and_eq_true, decide_eq_true_eq] at h
    split at h
    · rename_i hc
      cases h
      rw [hv]
      simp only [binEv]
      have h1 := hf.lo; have h2 := hf.hi; have h3 := hg.lo; have h4 := hg.hi
      rw [uns_wrap hk, mod_in (by omega) (by omega)]
      refine ⟨by show f.lo - g.hi ≤ _; omega, by show _ ≤ f.hi - g.lo; omega, ?_, ?_⟩
      · exact Int.dvd_sub (Int.dvd_trans (pow_dvd_pow (Nat.min_le_left _ _)) hf.tz) (Int.dvd_trans (pow_dvd_pow (Nat.min_le_right _ _)) hg.tz)
      · show _ = polyV E (padd (pscale (-1) g.p) f.p)
        rw [padd_val, pscale_val, ← hf.val, ← hg.val]
        omega
    · cases h; exact fall_ok hk hv
  case mul =>
    simp only [binIf, Bool.and_eq_true, decide_eq_true_eq] at h
    split at h
    · rename_i hc
      cases h
      rw [hv]
      simp only [binEv]
      have h1 := hf.lo; have h2 := hf.hi; have h3 := hg.lo; have h4 := hg.hi
      have l0 : 0 ≤ x.val E * y.val E := Int.mul_nonneg (by omega) (by omega)
      have l1 : f.lo * g.lo ≤ x.val E * y.val E := mul_le_mul' h1 h3 hc.1.2 (by omega)
      have l2 : x.val E * y.val E ≤ f.hi * g.hi := mul_le_mul' h2 h4 (by omega) (by omega)
      rw [uns_wrap hk, mod_in l0 (by omega)]
      refine ⟨l1, l2, ?_, ?_⟩
      · show (2 : Int) ^ (f.tz + g.tz) ∣ _
        rw [Int.pow_add]
        exact Int.mul_dvd_mul hf.tz hg.tz
      · show _ = polyV E (pmul f.p g.p)
        rw [pmul_val, ← hf.val, ← hg.val]
    · cases h; exact fall_ok hk hv
  case and =>
    simp only [binIf, Bool.and_eq_true, decide_eq_true_eq] at h
    split at h
    · rename_i hc
      have h1 := hf.lo; have h2 := hf.hi; have h3 := hg.lo; have h4 := hg.hi
      have hb := bits_and hk (x := x.val E) (y := y.val E) (by omega) (by omega) (by omega) (by omega)
      simp only [binEv] at hv
      rw [hb] at hv
      have hle : ((((x.val E).toNat &&& (y.val E).toNat : Nat)) : Int) ≤ x.val E := by
        have : (x.val E).toNat &&& (y.val E).toNat ≤ (x.val E).toNat := Nat.and_le_left
        omega
      have hle' : ((((x.val E).toNat &&& (y.val E).toNat : Nat)) : Int) ≤ y.val E := by
        have : (x.val E).toNat &&& (y.val E).toNat ≤ (y.val E).toNat := Nat.and_le_right
        omega
      cases y with
      | lit m =>
        simp only at h
        simp only [SI.val_lit] at hv hle' h3 h4
        split at h
        · rename_i t ht
          have hm := isMask_spec ht
          have hmod : E.getD n 0 = x.val E % 2 ^ t := by
            rw [hv, hm]
            have e1 : ((2 : Int) ^ t - 1).toNat = 2 ^ t - 1 := by
              have : (1 : Nat) ≤ 2 ^ t := Nat.one_le_two_pow
              have : ((2 ^ t - 1 : Nat) : Int) = 2 ^ t - 1 := by rw [Int.ofNat_sub this]; simp
              omega
            rw [e1, Nat.and_two_pow_sub_one_eq_mod]
            rw [Int.natCast_emod, Int.toNat_of_nonneg (by omega)]
            simp
          split at h
          · rename_i hlt
            cases h
            rw [hmod, mod_in (by omega) (by omega)]
            exact hf
          · obtain ⟨a, ha, rfl⟩ := Option.map_eq_some_iff.1 h
            rw [hmod]
            exact mod_ok hf (shAtom_val ha hf)
        · cases h
          exact fall_in (by rw [hv]; omega) (by rw [hv]; exact hle')
      | var j =>
        simp only at h
        split at h
        · rename_i h01
          cases h
          have e : E.getD n 0 = x.val E * (SI.var j).val E := by
            rw [hv]
            rcases zero_one (by omega) (show x.val E ≤ 1 by omega) with hx | hx <;> rcases zero_one (by omega) (show (SI.var j).val E ≤ 1 by omega) with hy | hy <;> rw [hx, hy] <;> rfl
          refine ⟨by rw [hv]; show (0 : Int) ≤ _; omega, by rw [hv]; show _ ≤ (1 : Int); omega, ⟨_, (Int.one_mul _).symm⟩, ?_⟩
          show _ = polyV E (pmul f.p g.p)
          rw [pmul_val, ← hf.val, ← hg.val, e]
        · cases h
          exact fall_in (by rw [hv]; omega) (by rw [hv]; omega)
    · cases h
      obtain ⟨z, hz⟩ := bits_wrap .and k (x.val E) (y.val E)
      exact fall_ok hk (hv.trans hz)
  case or =>
    simp only [binIf, Bool.and_eq_true, decide_eq_true_eq, Bool.or_eq_true] at h
    split at h
    · rename_i hc
      have h1 := hf.lo; have h2 := hf.hi; have h3 := hg.lo; have h4 := hg.hi
      have hb := bits_or hk (x := x.val E) (y := y.val E) (by omega) (by omega) (by omega) (by omega)
      simp only [binEv] at hv
      rw [hb] at hv
      split at h
      · rename_i hd
        cases h
        have e : E.getD n 0 = x.val E + y.val E := by
          rw [hv]
          rcases hd with hd | hd
          · rw [or_disj (toNat_lt (by omega) (by omega)) (dvd_nat (by omega) hg.tz)]
            omega
          · rw [Nat.or_comm, or_disj (toNat_lt (by omega) (by omega)) (dvd_nat (by omega) hf.tz)]
            omega
        rw [e]
        exact add_ok hf hg
      · split at h
        · rename_i h01
          cases h
          have e : E.getD n 0 = x.val E + y.val E - x.val E * y.val E := by
            rw [hv]
            rcases zero_one (by omega) (show x.val E ≤ 1 by omega) with hx | hx <;> rcases zero_one (by omega) (show y.val E ≤ 1 by omega) with hy | hy <;> rw [hx, hy] <;> rfl
          have e2 : E.getD n 0 = 0 ∨ E.getD n 0 = 1 := by
            rw [e]
            rcases zero_one (by omega) (show x.val E ≤ 1 by omega) with hx | hx <;> rcases zero_one (by omega) (show y.val E ≤ 1 by omega) with hy | hy <;> rw [hx, hy] <;> simp
          refine ⟨by show (0 : Int) ≤ _; omega, by show _ ≤ (1 : Int); omega, ⟨_, (Int.one_mul _).symm⟩, ?_⟩
          show _ = polyV E (padd (pscale (-1) (pmul f.p g.p)) (padd f.p g.p))
          rw [padd_val, pscale_val, pmul_val, padd_val, ← hf.val, ← hg.val, e]
          omega
        · cases h
          obtain ⟨z, hz⟩ := bits_wrap .or k (x.val E) (y.val E)
          exact fall_ok hk ((hv.trans hb.symm).trans hz)
    · cases h
      obtain ⟨z, hz⟩ := bits_wrap .or k (x.val E) (y.val E)
      exact fall_ok hk (hv.trans hz)
  case xor =>
    simp only [binIf, Option.some.injEq] at h
    subst h
    obtain ⟨z, hz⟩ := bits_wrap .xor k (x.val E) (y.val E)
    exact fall_ok hk (hv.trans hz)
  case andNot =>
    simp only [binIf, Option.some.injEq] at h
    subst h
    obtain ⟨z, hz⟩ := bits_wrap .andNot k (x.val E) (y.val E)
    exact fall_ok hk (hv.trans hz)
  case quo =>
    simp only [binIf, Option.some.injEq] at h
    subst h
    exact fall_ok hk hv
  case rem => simp [binIf] at h
  case shl =>
    cases y with
    | var j =>
      simp only [binIf, Option.some.injEq] at h
      subst h
      exact fall_ok hk hv
    | lit s =>
      simp only [binIf, Bool.and_eq_true, decide_eq_true_eq] at h
      split at h
      · rename_i hc
        cases h
        have h1 := hf.lo; have h2 := hf.hi
        have e : min s.toNat k.bits = s.toNat := by rw [uns_bits hk]; omega
        have hps : (0 : Int) ≤ 2 ^ s.toNat := Int.pow_nonneg (by decide)
        have hle : x.val E * 2 ^ s.toNat ≤ f.hi * 2 ^ s.toNat := Int.mul_le_mul_of_nonneg_right h2 hps
        rw [hv]
        simp only [binEv, SI.val_lit, e]
        rw [uns_wrap hk, mod_in (Int.mul_nonneg (by omega) hps) (by omega)]
        exact scale_ok hf
      · cases h; exact fall_ok hk hv
  case shr =>
    cases y with
    | var j => simp [binIf] at h
    | lit s =>
      simp only [binIf, Bool.and_eq_true, decide_eq_true_eq] at h
      split at h
      · rename_i hc
        obtain ⟨a, ha, rfl⟩ := Option.map_eq_some_iff.1 h
        have e : min s.toNat k.bits = s.toNat := by rw [uns_bits hk]; omega
        rw [hv]
        simp only [binEv, SI.val_lit, e]
        rw [Int.fdiv_eq_ediv_of_nonneg _ (Int.pow_nonneg (by decide))]
        exact shr_ok hf (shAtom_val ha hf)
      · cases h
  case eql => simp only [binIf, Option.some.injEq] at h; subst h; exact bit_ok hv
  case neq => simp only [binIf, Option.some.injEq] at h; subst h; exact bit_ok' hv
  case lss => simp only [binIf, Option.some.injEq] at h; subst h; exact bit_ok hv
  case leq => simp only [binIf, Option.some.injEq] at h; subst h; exact bit_ok hv
  case gtr => simp only [binIf, Option.some.injEq] at h; subst h; exact bit_ok hv
  case geq => simp only [binIf, Option.some.injEq] at h; subst h; exact bit_ok hv

end Go.Proofs.YtfeancgmmonebaaDoor.Sx

/-
  Bounds and polynomials over a whole run; what a kernel's check of them says. Conditions: none; each theorem bears its own.
-/
namespace Go.Proofs.YtfeancgmmonebaaDoor.Sx
open Go

/-! ## 1. A run, the oldest definition first -/

def arity : Def → Nat
  | .pr _ _ => 1
  | .app _ _ m => m

def okD (n : Nat) : Def → Bool
  | .pr _ xs => xs.all (SI.ok n)
  | .app _ xs _ => xs.all (SI.ok n)

def okDs : Nat → List Def → Bool
  | _, [] => true
  | n, d :: ds => okD n d && okDs (n + arity d) ds

def SatL (Γ : List Entry) (E : List Int) : Nat → List Def → Prop
  | _, [] => True
  | n, .pr p xs :: ds => E.getD n 0 = p.ev (xs.map (·.val E)) ∧ SatL Γ E (n + 1) ds
  | n, .app j xs m :: ds => (∀ i, i < m → E.getD (n + i) 0 = ((Γ.getD j noEntry).F (xs.map (·.val E))).getD i 0) ∧ SatL Γ E (n + m) ds

def runL (Γ : List Entry) : List Def → List Int → List Int
  | [], e => e
  | d :: ds, e => runL Γ ds (e ++ d.ev Γ e)

theorem runL_append (Γ : List Entry) : ∀ (a b : List Def) (e : List Int), runL Γ (a ++ b) e = runL Γ b (runL Γ a e)
  | [], _, _ => rfl
  | _ :: a, b, _ => runL_append Γ a b _

theorem runR_eq (Γ : List Entry) (e : List Int) : ∀ ds : List Def, runR Γ ds e = runL Γ ds.reverse e
  | [] => rfl
  | d :: ds => by
    rw [List.reverse_cons, runL_append, ← runR_eq Γ e ds]
    rfl

theorem ev_length (Γ : List Entry) (e : List Int) (d : Def) : (d.ev Γ e).length = arity d := by
  cases d with
  | pr p xs => rfl
  | app j xs m => exact fit_length _ _

theorem runL_prefix (Γ : List Entry) : ∀ (ds : List Def) (e : List Int), ∃ s, runL Γ ds e = e ++ s
  | [], e => ⟨[], by simp [runL]⟩
  | d :: ds, e => by
    obtain ⟨s, hs⟩ := runL_prefix Γ ds (e ++ d.ev Γ e)
    exact ⟨d.ev Γ e ++ s, by simp only [runL]; rw [hs, List.append_assoc]⟩

theorem vals_ext {e s : List Int} {xs : List SI} (h : xs.all (SI.ok e.length) = true) : xs.map (·.val (e ++ s)) = xs.map (·.val e) :=
  List.map_congr_left fun x hx => SI.val_ext (List.all_eq_true.1 h x hx)

theorem fit_getD : ∀ (m : Nat) (l : List Int) (i : Nat), i < m → (fit m l).getD i 0 = l.getD i 0
  | 0, _, _, h => by omega
  | m + 1, [], 0, _ => rfl
  | m + 1, x :: l, 0, _ => rfl
  | m + 1, [], i + 1, h => by
    have := fit_getD m [] i (by omega)
    simpa [fit] using this
  | m + 1, x :: l, i + 1, h => by
    have := fit_getD m l i (by omega)
    simpa [fit] using this

theorem satL_run (Γ : List Entry) : ∀ (ds : List Def) (e : List Int), okDs e.length ds = true → SatL Γ (runL Γ ds e) e.length ds
  | [], _, _ => trivial
  | d :: ds, e, h => by
    simp only [okDs, Bool.and_eq_true] at h
    obtain ⟨s, hs⟩ := runL_prefix Γ ds (e ++ d.ev Γ e)
    have ih := satL_run Γ ds (e ++ d.ev Γ e) (by rw [List.length_append, ev_length]; exact h.2)
    rw [List.length_append, ev_length] at ih
    have hE : runL Γ (d :: ds) e = e ++ (d.ev Γ e ++ s) := by simp only [runL]; rw [hs, List.append_assoc]
    have at' : ∀ i, i < arity d → (runL Γ (d :: ds) e).getD (e.length + i) 0 = (d.ev Γ e).getD i 0 := by
      intro i hi
      rw [hE]
      simp only [List.getD]
      rw [List.getElem?_append_right (by omega), Nat.add_sub_cancel_left, List.getElem?_append_left (by rw [ev_length]; exact hi)]
    cases d with
    | pr p xs =>
      refine ⟨?_, ih⟩
      have := at' 0 (by show 0 < 1; decide)
      rw [Nat.add_zero] at this
      rw [this, hE, vals_ext h.1]
      rfl
    | app j xs m =>
      refine ⟨fun i hi => ?_, ih⟩
      rw [at' i hi, hE, vals_ext h.1]
      exact fit_getD m _ i hi

/-! ## 2. The rules -/

inductive ARule where
  | out (pre post : List (Int × Int))
  | sub64
  | add64
  | none

def inB (l : List (Int × Int)) (xs : List Int) : Prop := ∀ (i : Nat) (b : Int × Int), l[i]? = some b → b.1 ≤ xs.getD i 0 ∧ xs.getD i 0 ≤ b.2

def RuleOk (e : Entry) : ARule → Prop
  | .out pre post => ∀ xs : List Int, xs.length = pre.length → inB pre xs → inB post (e.F xs)
  | .sub64 => ∀ x y b : Int, 0 ≤ x → x < 2 ^ 64 → 0 ≤ y → y < 2 ^ 64 → 0 ≤ b → b ≤ 1 →
      ∃ c, e.F [x, y, b] = [x - y - b + 2 ^ 64 * c, c] ∧ 0 ≤ c ∧ c ≤ 1 ∧ 0 ≤ x - y - b + 2 ^ 64 * c ∧ x - y - b + 2 ^ 64 * c < 2 ^ 64
  | .add64 => ∀ x y b : Int, 0 ≤ x → x < 2 ^ 64 → 0 ≤ y → y < 2 ^ 64 → 0 ≤ b → b ≤ 1 →
      ∃ c, e.F [x, y, b] = [x + y + b - 2 ^ 64 * c, c] ∧ 0 ≤ c ∧ c ≤ 1 ∧ 0 ≤ x + y + b - 2 ^ 64 * c ∧ x + y + b - 2 ^ 64 * c < 2 ^ 64
  | .none => True

def prIf (T : Tr If) (n : Nat) (p : Pr) (xs : List SI) : Option If :=
  match p, xs with
  | .bin op k, [x, y] =>
    if isCmp op then some (bit n) else
    match unsB k, siIf T x, siIf T y with
    | some b, some f, some g => binIf op b n x y f g
    | _, _, _ => none
  | .conv k, [x] =>
    match unsB k, siIf T x with
    | some b, some f =>
      if decide (0 ≤ f.lo) then if decide (f.hi < 2 ^ b) then some f else (shAtom x f b).map fun a => modIf b a f else some (fall b n)
    | _, _ => none
  | .neg, _ => some (bit n)
  | .beq, _ => some (bit n)
  | .eqs _, _ => some (bit n)
  | .nes _, _ => some (bit n)
  | _, _ => none

def allIn : List (Int × Int) → List (Option If) → Bool
  | [], [] => true
  | b :: bs, some f :: fs => decide (b.1 ≤ f.lo) && decide (f.hi ≤ b.2) && allIn bs fs
  | _, _ => false

def setOuts : Nat → List (Int × Int) → Tr If → Tr If
  | _, [], T => T
  | n, b :: bs, T => setOuts (n + 1) bs (Tr.set 20 T n (some ⟨b.1, b.2, 0, patom (n, 0)⟩))

def aiStep (R : List ARule) (n : Nat) (T : Tr If) (d : Def) : Option (Tr If) :=
  match d with
  | .pr p xs => (prIf T n p xs).map fun f => Tr.set 20 T n (some f)
  | .app j xs m =>
    match R.getD j .none with
    | .out pre post => if allIn pre (xs.map (siIf T)) && Nat.beq m post.length then some (setOuts n post T) else none
    | .sub64 =>
      match xs with
      | [x, y, b] =>
        match siIf T x, siIf T y, siIf T b with
        | some f, some g, some h =>
          if decide (0 ≤ f.lo) && decide (f.hi < 2 ^ 64) && decide (0 ≤ g.lo) && decide (g.hi < 2 ^ 64) && decide (0 ≤ h.lo) && decide (h.hi ≤ 1) && Nat.beq m 2 then
            some (Tr.set 20 (Tr.set 20 T n (some ⟨0, 2 ^ 64 - 1, 0, padd (pscale (2 ^ 64) (patom (n + 1, 0))) (padd (pscale (-1) h.p) (padd (pscale (-1) g.p) f.p))⟩)) (n + 1) (some ⟨0, 1, 0, patom (n + 1, 0)⟩))
          else none
        | _, _, _ => none
      | _ => none
    | .add64 =>
      match xs with
      | [x, y, b] =>
        match siIf T x, siIf T y, siIf T b with
        | some f, some g, some h =>
          if decide (0 ≤ f.lo) && decide (f.hi < 2 ^ 64) && decide (0 ≤ g.lo) && decide (g.hi < 2 ^ 64) && decide (0 ≤ h.lo) && decide (h.hi ≤ 1) && Nat.beq m 2 then
            some (Tr.set 20 (Tr.set 20 T n (some ⟨0, 2 ^ 64 - 1, 0, padd (pscale (-(2 ^ 64)) (patom (n + 1, 0))) (padd h.p (padd g.p f.p))⟩)) (n + 1) (some ⟨0, 1, 0, patom (n + 1, 0)⟩))
          else none
        | _, _, _ => none
      | _ => none
    | .none => none

def aiRun (R : List ARule) : Nat → List Def → Tr If → Option (Tr If)
  | _, [], T => some T
  | n, d :: ds, T => match aiStep R n T d with
    | some T' => aiRun R (n + arity d) ds T'
    | none => none

def Inv (E : List Int) (T : Tr If) : Prop := ∀ (i : Nat) (f : If), T.get i = some f → IfOk E (E.getD i 0) f

theorem Inv.set {E : List Int} {T : Tr If} (h : Inv E T) {n : Nat} {f : If} (hf : IfOk E (E.getD n 0) f) : Inv E (Tr.set 20 T n (some f)) := by
  intro i g hg
  rcases Tr.get_set _ _ _ _ _ _ hg with ⟨rfl, e⟩ | ⟨_, hg⟩
  · cases e; exact hf
  · exact h i g hg

theorem siIf_ok {E : List Int} {T : Tr If} (h : Inv E T) {x : SI} {f : If} (hx : siIf T x = some f) : IfOk E (x.val E) f := by
  cases x with
  | lit n =>
    cases hx
    exact ⟨Int.le_refl _, Int.le_refl _, ⟨_, (Int.one_mul _).symm⟩, by show n = polyV E (pconst n); rw [pconst_val]⟩
  | var i => exact h i f hx

theorem prIf_sound {E : List Int} {T : Tr If} (h : Inv E T) {n : Nat} {p : Pr} {xs : List SI} {f : If} (hp : prIf T n p xs = some f) (hv : E.getD n 0 = p.ev (xs.map (·.val E))) : IfOk E (E.getD n 0) f := by
  unfold prIf at hp
  split at hp
  · rename_i op k x y
    simp only [Pr.ev, List.map, List.getD_cons_zero, List.getD_cons_succ] at hv
    split at hp
    · rename_i hc
      cases hp
      cases op <;> simp [isCmp] at hc
      · exact bit_ok hv
      · exact bit_ok' hv
      · exact bit_ok hv
      · exact bit_ok hv
      · exact bit_ok hv
      · exact bit_ok hv
    · split at hp
      · rename_i b f g hk hf hg
        exact binIf_sound hk (siIf_ok h hf) (siIf_ok h hg) hp hv
      · cases hp
  · rename_i k x
    simp only [Pr.ev, List.map, List.getD_cons_zero] at hv
    split at hp
    · rename_i b f hk hf
      have hx := siIf_ok h hf
      split at hp
      · rename_i h0
        have h0 : 0 ≤ f.lo := by simpa using h0
        have := hx.lo
        split at hp
        · rename_i h1
          have h1 : f.hi < 2 ^ b := by simpa using h1
          cases hp
          have := hx.hi
          rw [hv, uns_wrap hk, mod_in (by omega) (by omega)]
          exact hx
        · obtain ⟨a, ha, rfl⟩ := Option.map_eq_some_iff.1 hp
          rw [hv, uns_wrap hk]
          exact mod_ok hx (shAtom_val ha hx)
      · cases hp
        exact fall_ok hk hv
    · cases hp
  · cases hp; exact bit_ok hv
  · cases hp; exact bit_ok hv
  · cases hp; exact bit_ok hv
  · cases hp; exact bit_ok' hv
  · cases hp

theorem allIn_spec {E : List Int} {T : Tr If} (h : Inv E T) : ∀ (pre : List (Int × Int)) (xs : List SI), allIn pre (xs.map (siIf T)) = true → xs.length = pre.length ∧ inB pre (xs.map (·.val E))
  | [], [], _ => ⟨rfl, fun i b hb => by simp at hb⟩
  | [], x :: xs, hh => by simp [allIn] at hh
  | b :: bs, [], hh => by simp [allIn] at hh
  | b :: bs, x :: xs, hh => by
    simp only [List.map_cons] at hh
    cases hx : siIf T x with
    | none => rw [hx] at hh; simp [allIn] at hh
    | some f =>
      rw [hx] at hh
      simp only [allIn, Bool.and_eq_true, decide_eq_true_eq] at hh
      obtain ⟨i1, i2⟩ := allIn_spec h bs xs hh.2
      have g := siIf_ok h hx
      refine ⟨by simp [i1], fun i c hc => ?_⟩
      cases i with
      | zero =>
        simp at hc
        subst hc
        have := g.lo; have := g.hi
        simp only [List.map_cons, List.getD_cons_zero]
        omega
      | succ i =>
        have := i2 i c (by simpa using hc)
        simpa using this

theorem setOuts_inv {E : List Int} : ∀ (post : List (Int × Int)) (n : Nat) (T : Tr If), Inv E T → (∀ (i : Nat) (b : Int × Int), post[i]? = some b → b.1 ≤ E.getD (n + i) 0 ∧ E.getD (n + i) 0 ≤ b.2) → Inv E (setOuts n post T)
  | [], _, _, h, _ => h
  | b :: bs, n, T, h, hb => by
    refine setOuts_inv bs (n + 1) _ (h.set ?_) fun i c hc => ?_
    · have := hb 0 b rfl
      rw [Nat.add_zero] at this
      exact ⟨this.1, this.2, ⟨_, (Int.one_mul _).symm⟩, by rw [patom_val, atom0]⟩
    · have := hb (i + 1) c (by simpa using hc)
      rwa [show n + (i + 1) = n + 1 + i by omega] at this

theorem aiRun_sound {Γ : List Entry} {R : List ARule} (hR : ∀ j, RuleOk (Γ.getD j noEntry) (R.getD j .none)) {E : List Int} : ∀ (ds : List Def) (n : Nat) (T T' : Tr If), SatL Γ E n ds → Inv E T → aiRun R n ds T = some T' → Inv E T'
  | [], _, _, _, _, h, hr => by cases hr; exact h
  | d :: ds, n, T, T', hs, h, hr => by
    unfold aiRun at hr
    split at hr
    · rename_i T1 h1
      cases d with
      | pr p xs =>
        obtain ⟨s1, s2⟩ := hs
        obtain ⟨f, hf, rfl⟩ := Option.map_eq_some_iff.1 (show (prIf T n p xs).map (fun f => Tr.set 20 T n (some f)) = some T1 from h1)
        exact aiRun_sound hR ds (n + 1) _ T' s2 (h.set (prIf_sound h hf s1)) hr
      | app j xs m =>
        obtain ⟨s1, s2⟩ := hs
        refine aiRun_sound hR ds (n + m) T1 T' s2 ?_ hr
        have hRj := hR j
        simp only [aiStep] at h1
        split at h1
        · rename_i pre post hrule
          rw [hrule] at hRj
          split at h1
          · rename_i hc
            cases h1
            simp only [Bool.and_eq_true] at hc
            have hm := Nat.eq_of_beq_eq_true hc.2
            obtain ⟨i1, i2⟩ := allIn_spec h pre xs hc.1
            have hp := hRj (xs.map (·.val E)) (by simpa using i1) i2
            refine setOuts_inv post n T h fun i b hb => ?_
            have hi : i < m := by rw [hm]; exact (List.getElem?_eq_some_iff.1 hb).1
            rw [s1 i hi]
            exact hp i b hb
          · cases h1
        · rename_i hrule
          rw [hrule] at hRj
          split at h1
          · rename_i x y b
            split at h1
            · rename_i f g k hf hg hk
              split at h1
              · rename_i hc
                cases h1
                simp only [Bool.and_eq_true, decide_eq_true_eq] at hc
                obtain ⟨⟨⟨⟨⟨⟨c1, c2⟩, c3⟩, c4⟩, c5⟩, c6⟩, c7⟩ := hc
                have hm := Nat.eq_of_beq_eq_true c7
                have f' := siIf_ok h hf
                have g' := siIf_ok h hg
                have k' := siIf_ok h hk
                have := f'.lo; have := f'.hi; have := g'.lo; have := g'.hi; have := k'.lo; have := k'.hi
                obtain ⟨c, e1, e2, e3, e4, e5⟩ := hRj (x.val E) (y.val E) (b.val E) (by omega) (by omega) (by omega) (by omega) (by omega) (by omega)
                have v0 := s1 0 (by omega)
                have v1 := s1 1 (by omega)
                simp only [List.map, e1, List.getD_cons_zero, List.getD_cons_succ, Nat.add_zero] at v0 v1
                refine (h.set ?_).set ?_
                · refine ⟨by rw [v0]; exact e4, by rw [v0]; show _ ≤ (2 : Int) ^ 64 - 1; omega, ⟨_, (Int.one_mul _).symm⟩, ?_⟩
                  show E.getD n 0 = polyV E (padd (pscale (2 ^ 64) (patom (n + 1, 0))) (padd (pscale (-1) k.p) (padd (pscale (-1) g.p) f.p)))
                  rw [padd_val, pscale_val, patom_val, atom0, padd_val, pscale_val, padd_val, pscale_val, ← f'.val, ← g'.val, ← k'.val, v0, v1]
                  omega
                · exact ⟨by rw [v1]; exact e2, by rw [v1]; exact e3, ⟨_, (Int.one_mul _).symm⟩, by show _ = polyV E (patom (n + 1, 0)); rw [patom_val, atom0]⟩
              · cases h1
            · cases h1
          · cases h1
        · rename_i hrule
          rw [hrule] at hRj
          split at h1
          · rename_i x y b
            split at h1
            · rename_i f g k hf hg hk
              split at h1
              · rename_i hc
                cases h1
                simp only [Bool.and_eq_true, decide_eq_true_eq] at hc
                obtain ⟨⟨⟨⟨⟨⟨c1, c2⟩, c3⟩, c4⟩, c5⟩, c6⟩, c7⟩ := hc
                have hm := Nat.eq_of_beq_eq_true c7
                have f' := siIf_ok h hf
                have g' := siIf_ok h hg
                have k' := siIf_ok h hk
                have := f'.lo; have := f'.hi; have := g'.lo; have := g'.hi; have := k'.lo; have := k'.hi
                obtain ⟨c, e1, e2, e3, e4, e5⟩ := hRj (x.val E) (y.val E) (b.val E) (by omega) (by omega) (by omega) (by omega) (by omega) (by omega)
                have v0 := s1 0 (by omega)
                have v1 := s1 1 (by omega)
                simp only [List.map, e1, List.getD_cons_zero, List.getD_cons_succ, Nat.add_zero] at v0 v1
                refine (h.set ?_).set ?_
                · refine ⟨by rw [v0]; exact e4, by rw [v0]; show _ ≤ (2 : Int) ^ 64 - 1; omega, ⟨_, (Int.one_mul _).symm⟩, ?_⟩
                  show E.getD n 0 = polyV E (padd (pscale (-(2 ^ 64)) (patom (n + 1, 0))) (padd k.p (padd g.p f.p)))
                  rw [padd_val, pscale_val, patom_val, atom0, padd_val, padd_val, ← f'.val, ← g'.val, ← k'.val, v0, v1]
                  omega
                · exact ⟨by rw [v1]; exact e2, by rw [v1]; exact e3, ⟨_, (Int.one_mul _).symm⟩, by show _ = polyV E (patom (n + 1, 0)); rw [patom_val, atom0]⟩
              · cases h1
            · cases h1
          · cases h1
        · cases h1
    · cases hr

/-! ## 3. Checks -/

abbrev Lin := List (SI × Int)

def linV (E : List Int) : Lin → Int
  | [] => 0
  | t :: r => t.2 * t.1.val E + linV E r

def linP (T : Tr If) : Lin → Option Poly
  | [] => some []
  | t :: r => match siIf T t.1, linP T r with
    | some f, some q => some (padd (pscale t.2 f.p) q)
    | _, _ => none

theorem linP_val {E : List Int} {T : Tr If} (h : Inv E T) : ∀ {l : Lin} {q : Poly}, linP T l = some q → linV E l = polyV E q
  | [], q, hq => by cases hq; rfl
  | t :: r, q, hq => by
    unfold linP at hq
    split at hq
    · rename_i f q' h1 h2
      cases hq
      rw [padd_val, pscale_val, ← linP_val h h2, ← (siIf_ok h h1).val]
      rfl
    · cases hq

def chkMod (p : Int) (T : Tr If) (l : Lin) : Bool :=
  match linP T l with
  | some q => q.all fun t => decide (t.2 % p = 0)
  | none => false

def chkZero (T : Tr If) (l : Lin) : Bool :=
  match linP T l with
  | some q => q.isEmpty
  | none => false

def chkIn (T : Tr If) (x : SI) (lo hi : Int) : Bool :=
  match siIf T x with
  | some f => decide (lo ≤ f.lo) && decide (f.hi ≤ hi)
  | none => false

theorem polyV_dvd (E : List Int) (p : Int) : ∀ q : Poly, (q.all fun t => decide (t.2 % p = 0)) = true → p ∣ polyV E q
  | [], _ => ⟨0, by simp [polyV]⟩
  | t :: r, h => by
    simp only [List.all_cons, Bool.and_eq_true, decide_eq_true_eq] at h
    exact Int.dvd_add (Int.dvd_mul_of_dvd_left (Int.dvd_of_emod_eq_zero h.1)) (polyV_dvd E p r h.2)

theorem chkMod_spec {E : List Int} {T : Tr If} (h : Inv E T) {p : Int} {l : Lin} (hc : chkMod p T l = true) : p ∣ linV E l := by
  unfold chkMod at hc
  split at hc
  · rename_i q hq
    rw [linP_val h hq]
    exact polyV_dvd E p q hc
  · cases hc

theorem chkZero_spec {E : List Int} {T : Tr If} (h : Inv E T) {l : Lin} (hc : chkZero T l = true) : linV E l = 0 := by
  unfold chkZero at hc
  split at hc
  · rename_i q hq
    rw [linP_val h hq, List.isEmpty_iff.1 hc]
    rfl
  · cases hc

theorem chkIn_spec {E : List Int} {T : Tr If} (h : Inv E T) {x : SI} {lo hi : Int} (hc : chkIn T x lo hi = true) : lo ≤ x.val E ∧ x.val E ≤ hi := by
  unfold chkIn at hc
  split at hc
  · rename_i f hf
    simp only [Bool.and_eq_true, decide_eq_true_eq] at hc
    have g := siIf_ok h hf
    have := g.lo; have := g.hi
    omega
  · cases hc

def initT : Nat → List (Int × Int) → Tr If
  | _, [] => .nil
  | n, b :: bs => Tr.set 20 (initT (n + 1) bs) n (some ⟨b.1, b.2, 0, patom (n, 0)⟩)

theorem initT_inv {E : List Int} : ∀ (bs : List (Int × Int)) (n : Nat), (∀ (i : Nat) (b : Int × Int), bs[i]? = some b → b.1 ≤ E.getD (n + i) 0 ∧ E.getD (n + i) 0 ≤ b.2) → Inv E (initT n bs)
  | [], _, _ => fun i f hf => by simp [initT, Tr.get] at hf
  | b :: bs, n, h => by
    refine (initT_inv bs (n + 1) fun i c hc => ?_).set ?_
    · have := h (i + 1) c (by simpa using hc)
      rwa [show n + (i + 1) = n + 1 + i by omega] at this
    · have := h 0 b rfl
      rw [Nat.add_zero] at this
      exact ⟨this.1, this.2, ⟨_, (Int.one_mul _).symm⟩, by show _ = polyV E (patom (n, 0)); rw [patom_val, atom0]⟩

/-- What a check asks: numbers in bounds, sums that vanish, sums that p divides. -/
structure Ask where
  ins : List (SI × Int × Int) := []
  zeros : List Lin := []
  mods : List (Int × Lin) := []

def aiChk (R : List ARule) (bnds : List (Int × Int)) (defs : List Def) (q : Ask) : Bool :=
  okDs bnds.length defs.reverse &&
  match aiRun R bnds.length defs.reverse (initT 0 bnds) with
  | some T => q.ins.all (fun x => chkIn T x.1 x.2.1 x.2.2) && q.zeros.all (chkZero T) && q.mods.all fun x => chkMod x.1 T x.2
  | none => false

/-- WHAT THE CHECK SAYS. -/
theorem aiChk_sound {Γ : List Entry} {R : List ARule} (hR : ∀ j, RuleOk (Γ.getD j noEntry) (R.getD j .none)) {bnds : List (Int × Int)} {defs : List Def} {q : Ask} (h : aiChk R bnds defs q = true)
    {base : List Int} (hl : base.length = bnds.length) (hb : inB bnds base) :
    SatL Γ (runR Γ defs base) base.length defs.reverse ∧ (∀ x ∈ q.ins, x.2.1 ≤ x.1.val (runR Γ defs base) ∧ x.1.val (runR Γ defs base) ≤ x.2.2) ∧ (∀ l ∈ q.zeros, linV (runR Γ defs base) l = 0) ∧
      ∀ x ∈ q.mods, x.1 ∣ linV (runR Γ defs base) x.2 := by
  simp only [aiChk, Bool.and_eq_true] at h
  obtain ⟨h1, h2⟩ := h
  rw [runR_eq]
  rw [← hl] at h1 h2
  have hs := satL_run Γ defs.reverse base h1
  split at h2
  · rename_i T hT
    simp only [Bool.and_eq_true] at h2
    have hi : Inv (runL Γ defs.reverse base) (initT 0 bnds) := initT_inv bnds 0 fun i b hb' => by
      obtain ⟨s, hs'⟩ := runL_prefix Γ defs.reverse base
      have hlt : i < base.length := by rw [hl]; exact (List.getElem?_eq_some_iff.1 hb').1
      have := hb i b hb'
      rw [Nat.zero_add, hs']
      simpa [List.getD, List.getElem?_append_left hlt] using this
    have hT' := aiRun_sound hR _ _ _ _ hs hi hT
    exact ⟨hs, fun x hx => chkIn_spec hT' (List.all_eq_true.1 h2.1.1 x hx), fun l hl' => chkZero_spec hT' (List.all_eq_true.1 h2.1.2 l hl'), fun x hx => chkMod_spec hT' (List.all_eq_true.1 h2.2 x hx)⟩
  · cases h2

/-- The definition of the number at place i. -/
def defAt : Nat → List Def → Nat → Option Def
  | _, [], _ => none
  | n, d :: ds, i => if Nat.beq n i then some d else defAt (n + arity d) ds i

theorem satL_at {Γ : List Entry} {E : List Int} : ∀ {ds : List Def} {n i : Nat} {p : Pr} {xs : List SI}, SatL Γ E n ds → defAt n ds i = some (.pr p xs) → E.getD i 0 = p.ev (xs.map (·.val E))
  | [], _, _, _, _, _, h => by cases h
  | d :: ds, n, i, p, xs, hs, h => by
    unfold defAt at h
    split at h
    · rename_i hn
      cases h
      rw [← Nat.eq_of_beq_eq_true hn]
      exact hs.1
    · cases d with
      | pr p' xs' => exact satL_at hs.2 h
      | app j xs' m => exact satL_at hs.2 h

end Go.Proofs.YtfeancgmmonebaaDoor.Sx

/-
  Contracts of functions with one path; the kit's Sub64 and Add64 as contracts. Conditions: none; each theorem bears its own.
-/
namespace Go.Proofs.YtfeancgmmonebaaDoor.Sx
open Go

def Path.out (p : Path) (Γ : List Entry) (base : List Int) : List Int := p.outs.map (·.val (runR Γ p.defs base))

theorem meets_single {P : Program} {Γ : List Entry} {e : Entry} {fn : Func} {p : Path} (hmix : P.follows .mixedOrders = true) (hΓ : ∀ e ∈ Γ, Meets P e) (hf : P.funcs[e.f]? = some fn)
    (hb : fn.body = some (fn.body.getD .skip)) (hgo : goFunc P e.f = true) (h : runFn P Γ e fn.ntmps fn.results.toList (fn.body.getD .skip) = some ([], [p])) (hF : e.F = p.out Γ) : Meets P e :=
  meets_of_run hmix hΓ hf hb hgo h (fun _ _ _ nd hnd => by cases hnd) fun base _ _ q hq _ => by
    simp only [List.mem_cons, List.not_mem_nil, or_false] at hq
    subst hq
    rw [hF]
    rfl

/-- x - y - b, and what is borrowed. -/
def subF (base : List Int) : List Int :=
  match base with
  | [x, y, b] => [(((x.toNat + 2 ^ 64 - y.toNat - b.toNat) % 2 ^ 64 : Nat) : Int), if x.toNat < y.toNat + b.toNat then 1 else 0]
  | _ => []

def subPre (base : List Int) : Prop := (base.getD 2 0).toNat ≤ 1

def eSub (f : FuncId) : Entry := { f := f, args := [.int .u64, .int .u64, .int .u64], res := [.int .u64, .int .u64], F := subF, free := false, Pre := subPre }

def addF (base : List Int) : List Int :=
  match base with
  | [x, y, b] => [(((x.toNat + y.toNat + b.toNat) % 2 ^ 64 : Nat) : Int), (((x.toNat + y.toNat + b.toNat) / 2 ^ 64 : Nat) : Int)]
  | _ => []

def eAdd (f : FuncId) : Entry := { f := f, args := [.int .u64, .int .u64, .int .u64], res := [.int .u64, .int .u64], F := addF, free := false, Pre := subPre }

def subX : Array Value → Sem Value := fun args => do
  let (x, y, b) ← Extern.MathBitsCarry.three "Sub64" args
  pure (Extern.MathBitsCarry.pair ((x + Extern.MathBitsCarry.m64 - y - b) % Extern.MathBitsCarry.m64) (if x < y + b then 1 else 0))

theorem run_subX {P : Program} (x y b : Int) (hb : b.toNat ≤ 1) (w : World) :
    (subX #[.int .u64 x, .int .u64 y, .int .u64 b]).run P w = .ok (.tuple #[.int .u64 ((subF [x, y, b]).getD 0 0), .int .u64 ((subF [x, y, b]).getD 1 0)]) w := by
  have pr : ∀ (m n k : Nat), Extern.MathBitsCarry.pair m (if n < k then 1 else 0) = .tuple #[.int .u64 (m : Int), .int .u64 (if n < k then 1 else 0)] := fun m n k => by
    by_cases h : n < k
    · rw [if_pos h, if_pos h]; rfl
    · rw [if_neg h, if_neg h]; rfl
  match b, hb with
  | .ofNat 0, _ => exact congrArg (fun v => Result.ok v w) (pr _ _ _)
  | .ofNat 1, _ => exact congrArg (fun v => Result.ok v w) (pr _ _ _)
  | .negSucc n, _ => exact congrArg (fun v => Result.ok v w) (pr _ _ _)

theorem run_addX {P : Program} (x y b : Int) (hb : b.toNat ≤ 1) (w : World) :
    (add64Entry #[.int .u64 x, .int .u64 y, .int .u64 b]).run P w = .ok (.tuple #[.int .u64 ((addF [x, y, b]).getD 0 0), .int .u64 ((addF [x, y, b]).getD 1 0)]) w := by
  match b, hb with
  | .ofNat 0, _ => rfl
  | .ofNat 1, _ => rfl
  | .negSucc n, _ => rfl

theorem ini_three (e : Entry) (h : e.args = [.int .u64, .int .u64, .int .u64]) : ini e.args = ⟨[.one (.sc (.int .u64 (.var 0))), .one (.sc (.int .u64 (.var 1))), .one (.sc (.int .u64 (.var 2)))], [], 3⟩ := by rw [h]; rfl

theorem meets_extern3 {P : Program} {f : FuncId} {fn : Func} {x : Array Value → Sem Value} {F : List Int → List Int} (hf : P.funcs[f]? = some fn) (hname : (fn.name == "runtime.NumGoroutine") = false) (hb : fn.body.isNone = true) (hn : Extern.findNext fn = none)
    (he : Extern.find fn = some x) (hx : ∀ a b c : Int, c.toNat ≤ 1 → ∀ w, (x #[.int .u64 a, .int .u64 b, .int .u64 c]).run P w = .ok (.tuple #[.int .u64 ((F [a, b, c]).getD 0 0), .int .u64 ((F [a, b, c]).getD 1 0)]) w) :
    Meets P { f := f, args := [.int .u64, .int .u64, .int .u64], res := [.int .u64, .int .u64], F := F, free := false, Pre := subPre } := by
  intro base bs w hl hbl hpre hmem hdis
  have hi := ini_three { f := f, args := [.int .u64, .int .u64, .int .u64], res := [.int .u64, .int .u64], F := F, free := false, Pre := subPre } rfl
  rw [hi] at hl hbl
  obtain ⟨a, b, c, rfl⟩ : ∃ a b c, base = [a, b, c] := by
    match base, hl with
    | [a, b, c], _ => exact ⟨a, b, c, rfl⟩
  have hbs : bs = [] := List.length_eq_zero_iff.1 hbl
  subst hbs
  have hp : c.toNat ≤ 1 := hpre rfl
  refine .inr ⟨.tuple #[.int .u64 ((F [a, b, c]).getD 0 0), .int .u64 ((F [a, b, c]).getD 1 0)], ?_, [], rfl, (fun q hq => by cases hq), fun p1 p2 a1 a2 hne h1 => ?_, ?_, fun o so ho => ?_, Fr.refl _ _⟩
  · have := run_callFunc_extern hf hname hb hn he #[.int .u64 a, .int .u64 b, .int .u64 c] w
    rw [hx a b c hp w] at this
    exact this
  · have : ([] : List SO)[p1]? = some a1 := h1
    simp at this
  · have h0 : ∀ l : List Int, fit 2 l = [l.getD 0 0, l.getD 1 0] := fun l => by
      match l with
      | [] => rfl
      | [_] => rfl
      | _ :: _ :: _ => rfl
    show _ = Ending.returned (SV.den ⟨[a, b, c] ++ fit 2 (F [a, b, c]), []⟩ (.tup [.sc (.int .u64 (.var 3)), .sc (.int .u64 (.var 4))]))
    rw [h0]
    rfl
  · have : ([] : List SO)[o]? = some so := ho
    simp at this

end Go.Proofs.YtfeancgmmonebaaDoor.Sx
