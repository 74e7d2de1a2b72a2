/-
  Bounds and polynomials of a run's numbers: soundness. Conditions: none; each theorem bears its own.
-/
import Derived.Test.YtfeancgmmonebaaSya
namespace Go.Proofs.Ytfeancgmmonebaa.Sx
open Go

theorem atom0 (E : List Int) (n : Nat) : atomV E (n, 0) = E.getD n 0 := by simp [atomV]

theorem fall_ok {E : List Int} {k : IntKind} {b n : Nat} (hk : unsB k = some b) {z : Int} (h : E.getD n 0 = k.wrap z) : IfOk E (E.getD n 0) (fall b n) := by
  have hp : (0 : Int) < 2 ^ b := Int.pow_pos (by decide)
  refine ⟨?_, ?_, ?_, ?_⟩
  · rw [h, uns_wrap hk]; exact Int.emod_nonneg _ (by omega)
  · rw [h, uns_wrap hk]; have := Int.emod_lt_of_pos z hp; show z % 2 ^ b ≤ 2 ^ b - 1; omega
  · exact ⟨_, (Int.one_mul _).symm⟩
  · rw [show (fall b n).p = patom (n, 0) from rfl, patom_val, atom0]

theorem fall_in {E : List Int} {n : Nat} {m : Int} (h0 : 0 ≤ E.getD n 0) (h1 : E.getD n 0 ≤ m) : IfOk E (E.getD n 0) ⟨0, m, 0, patom (n, 0)⟩ :=
  ⟨h0, h1, ⟨_, (Int.one_mul _).symm⟩, by rw [patom_val, atom0]⟩

theorem ofInt_toNat {b : Nat} {x : Int} (h0 : 0 ≤ x) (h1 : x < 2 ^ b) : (BitVec.ofInt b x).toNat = x.toNat := by
  rw [BitVec.toNat_ofInt, Int.emod_eq_of_lt h0 (by simpa using h1)]

theorem toNat_lt {b : Nat} {x : Int} (h0 : 0 ≤ x) (h1 : x < 2 ^ b) : x.toNat < 2 ^ b := by
  have : ((x.toNat : Nat) : Int) < ((2 ^ b : Nat) : Int) := by rw [Int.toNat_of_nonneg h0]; simpa using h1
  exact Int.ofNat_lt.1 this

theorem wrap_nat {k : IntKind} {b : Nat} (hk : unsB k = some b) {n : Nat} (h : n < 2 ^ b) : k.wrap (n : Int) = n := by
  rw [uns_wrap hk]
  exact Int.emod_eq_of_lt (by omega) (by have : (n : Int) < ((2 ^ b : Nat) : Int) := Int.ofNat_lt.2 h; simpa using this)

theorem bits_and {k : IntKind} {b : Nat} (hk : unsB k = some b) {x y : Int} (hx0 : 0 ≤ x) (hx : x < 2 ^ b) (hy0 : 0 ≤ y) (hy : y < 2 ^ b) : bits .and k x y = ((x.toNat &&& y.toNat : Nat) : Int) := by
  obtain rfl := uns_bits hk
  unfold bits
  simp only [BitVec.toNat_and, ofInt_toNat hx0 hx, ofInt_toNat hy0 hy]
  exact wrap_nat hk (Nat.lt_of_le_of_lt Nat.and_le_left (toNat_lt hx0 hx))

theorem bits_or {k : IntKind} {b : Nat} (hk : unsB k = some b) {x y : Int} (hx0 : 0 ≤ x) (hx : x < 2 ^ b) (hy0 : 0 ≤ y) (hy : y < 2 ^ b) : bits .or k x y = ((x.toNat ||| y.toNat : Nat) : Int) := by
  obtain rfl := uns_bits hk
  unfold bits
  simp only [BitVec.toNat_or, ofInt_toNat hx0 hx, ofInt_toNat hy0 hy]
  exact wrap_nat hk (Nat.or_lt_two_pow (toNat_lt hx0 hx) (toNat_lt hy0 hy))

theorem bits_wrap (op : BinOp) (k : IntKind) (x y : Int) : ∃ z, bits op k x y = k.wrap z := ⟨_, rfl⟩

theorem or_disj {x y : Nat} {t : Nat} (hx : x < 2 ^ t) (hy : 2 ^ t ∣ y) : x ||| y = x + y := by
  obtain ⟨c, rfl⟩ := hy
  rw [Nat.or_comm, ← Nat.two_pow_add_eq_or_of_lt hx, Nat.add_comm]

theorem pow_dvd_pow {a b : Nat} (h : a ≤ b) : (2 : Int) ^ a ∣ 2 ^ b := ⟨2 ^ (b - a), by rw [← Int.pow_add]; congr 1; omega⟩

theorem dvd_nat {t : Nat} {x : Int} (h0 : 0 ≤ x) (h : (2 : Int) ^ t ∣ x) : 2 ^ t ∣ x.toNat := by
  have : ((2 ^ t : Nat) : Int) ∣ ((x.toNat : Nat) : Int) := by rw [Int.toNat_of_nonneg h0]; simpa using h
  exact Int.ofNat_dvd.1 this

theorem add_ok {E : List Int} {x y : Int} {f g : If} (hf : IfOk E x f) (hg : IfOk E y g) : IfOk E (x + y) (addIf f g) := by
  refine ⟨?_, ?_, ?_, ?_⟩
  · have := hf.lo; have := hg.lo; show f.lo + g.lo ≤ x + y; omega
  · have := hf.hi; have := hg.hi; show x + y ≤ f.hi + g.hi; omega
  · exact Int.dvd_add (Int.dvd_trans (pow_dvd_pow (Nat.min_le_left _ _)) hf.tz) (Int.dvd_trans (pow_dvd_pow (Nat.min_le_right _ _)) hg.tz)
  · show _ = polyV E (padd f.p g.p); rw [padd_val, ← hf.val, ← hg.val]

theorem isMask_spec {m : Int} {t : Nat} (h : isMask m = some t) : m = 2 ^ t - 1 := by
  unfold isMask at h
  simp only at h
  split at h
  · rename_i hm
    cases h
    simpa using hm
  · cases h

theorem mod_ok {E : List Int} {x : Int} {f : If} {t : Nat} {a : Atom} (hf : IfOk E x f) (ha : atomV E a = x / 2 ^ t) : IfOk E (x % 2 ^ t) (modIf t a f) := by
  have hp : (0 : Int) < 2 ^ t := Int.pow_pos (by decide)
  have hm := Int.emod_add_mul_ediv x (2 ^ t)
  refine ⟨Int.emod_nonneg _ (by omega), ?_, ?_, ?_⟩
  · have := Int.emod_lt_of_pos x hp; show x % 2 ^ t ≤ 2 ^ t - 1; omega
  · show (2 : Int) ^ (min f.tz t) ∣ x % 2 ^ t
    have h1 : (2 : Int) ^ (min f.tz t) ∣ x := Int.dvd_trans (pow_dvd_pow (Nat.min_le_left _ _)) hf.tz
    have h2 : (2 : Int) ^ (min f.tz t) ∣ 2 ^ t * (x / 2 ^ t) := Int.dvd_mul_of_dvd_left (pow_dvd_pow (Nat.min_le_right _ _))
    have h3 := Int.dvd_sub h1 h2
    rwa [show x - 2 ^ t * (x / 2 ^ t) = x % 2 ^ t by omega] at h3
  · show x % 2 ^ t = polyV E (padd (pscale (-(2 ^ t)) (patom a)) f.p)
    rw [padd_val, pscale_val, patom_val, ha, ← hf.val, Int.neg_mul]
    omega

theorem shr_ok {E : List Int} {x : Int} {f : If} {t : Nat} {a : Atom} (hf : IfOk E x f) (ha : atomV E a = x / 2 ^ t) : IfOk E (x / 2 ^ t) (shrIf t a f) := by
  have hp : (0 : Int) < 2 ^ t := Int.pow_pos (by decide)
  have h1 := Int.ediv_le_ediv hp hf.lo
  have h2 := Int.ediv_le_ediv hp hf.hi
  refine ⟨h1, h2, ⟨_, (Int.one_mul _).symm⟩, ?_⟩
  show _ = polyV E (if f.lo / 2 ^ t = f.hi / 2 ^ t then pconst (f.lo / 2 ^ t) else patom a)
  split
  · rename_i h
    rw [pconst_val]
    omega
  · rw [patom_val, ha]

theorem scale_ok {E : List Int} {x : Int} {f : If} {s : Nat} (hf : IfOk E x f) : IfOk E (x * 2 ^ s) (scaleIf s f) := by
  have hp : (0 : Int) ≤ 2 ^ s := Int.pow_nonneg (by decide)
  refine ⟨Int.mul_le_mul_of_nonneg_right hf.lo hp, Int.mul_le_mul_of_nonneg_right hf.hi hp, ?_, ?_⟩
  · show (2 : Int) ^ (f.tz + s) ∣ x * 2 ^ s
    rw [Int.pow_add]
    exact Int.mul_dvd_mul hf.tz (Int.dvd_refl _)
  · show x * 2 ^ s = polyV E (pscale (2 ^ s) f.p)
    rw [pscale_val, ← hf.val, Int.mul_comm]

theorem bit_ok {E : List Int} {n : Nat} {p : Prop} [Decidable p] (h : E.getD n 0 = if p then 1 else 0) : IfOk E (E.getD n 0) (bit n) := by
  refine ⟨?_, ?_, ⟨_, (Int.one_mul _).symm⟩, by rw [show (bit n).p = patom (n, 0) from rfl, patom_val, atom0]⟩
  · show (0 : Int) ≤ _; rw [h]; split <;> decide
  · show _ ≤ (1 : Int); rw [h]; split <;> decide

theorem bit_ok' {E : List Int} {n : Nat} {p : Prop} [Decidable p] (h : E.getD n 0 = if p then 0 else 1) : IfOk E (E.getD n 0) (bit n) := by
  refine ⟨?_, ?_, ⟨_, (Int.one_mul _).symm⟩, by rw [show (bit n).p = patom (n, 0) from rfl, patom_val, atom0]⟩
  · show (0 : Int) ≤ _; rw [h]; split <;> decide
  · show _ ≤ (1 : Int); rw [h]; split <;> decide

theorem zero_one {x : Int} (h0 : 0 ≤ x) (h1 : x ≤ 1) : x = 0 ∨ x = 1 := by omega

theorem mul_le_mul' {a b c d : Int} (h1 : a ≤ b) (h2 : c ≤ d) (hc : 0 ≤ c) (hb : 0 ≤ b) : a * c ≤ b * d :=
  Int.le_trans (Int.mul_le_mul_of_nonneg_right h1 hc) (Int.mul_le_mul_of_nonneg_left h2 hb)

theorem binIf_sound {E : List Int} {op : BinOp} {k : IntKind} {b n : Nat} {x y : SI} {f g r : If} (hk : unsB k = some b) (hf : IfOk E (x.val E) f) (hg : IfOk E (y.val E) g)
    (h : binIf op b n x y f g = some r) (hv : E.getD n 0 = binEv op k (x.val E) (y.val E)) : IfOk E (E.getD n 0) r := by
  have hp : (0 : Int) < 2 ^ b := Int.pow_pos (by decide)
  cases op
  case add =>
    simp only [binIf, Bool.and_eq_true, decide_eq_true_eq] at h
    split at h
    · rename_i hc
      cases h
      have ha := add_ok hf hg
      rw [hv]
      simp only [binEv]
      rw [uns_wrap hk, mod_in (by have := hf.lo; have := hg.lo; omega) (by have := hf.hi; have := hg.hi; omega)]
      exact ha
    · cases h; exact fall_ok hk hv
  case sub =>
    simp only [binIf, Bool.and_eq_true, decide_eq_true_eq] at h
    split at h
    · rename_i hc
      cases h
      rw [hv]
      simp only [binEv]
      have h1 := hf.lo; have h2 := hf.hi; have h3 := hg.lo; have h4 := hg.hi
      rw [uns_wrap hk, mod_in (by omega) (by omega)]
      refine ⟨by show f.lo - g.hi ≤ _; omega, by show _ ≤ f.hi - g.lo; omega, ?_, ?_⟩
      · exact Int.dvd_sub (Int.dvd_trans (pow_dvd_pow (Nat.min_le_left _ _)) hf.tz) (Int.dvd_trans (pow_dvd_pow (Nat.min_le_right _ _)) hg.tz)
      · show _ = polyV E (padd (pscale (-1) g.p) f.p)
        rw [padd_val, pscale_val, ← hf.val, ← hg.val]
        omega
    · cases h; exact fall_ok hk hv
  case mul =>
    simp only [binIf, Bool.and_eq_true, decide_eq_true_eq] at h
    split at h
    · rename_i hc
      cases h
      rw [hv]
      simp only [binEv]
      have h1 := hf.lo; have h2 := hf.hi; have h3 := hg.lo; have h4 := hg.hi
      have l0 : 0 ≤ x.val E * y.val E := Int.mul_nonneg (by omega) (by omega)
      have l1 : f.lo * g.lo ≤ x.val E * y.val E := mul_le_mul' h1 h3 hc.1.2 (by omega)
      have l2 : x.val E * y.val E ≤ f.hi * g.hi := mul_le_mul' h2 h4 (by omega) (by omega)
      rw [uns_wrap hk, mod_in l0 (by omega)]
      refine ⟨l1, l2, ?_, ?_⟩
      · show (2 : Int) ^ (f.tz + g.tz) ∣ _
        rw [Int.pow_add]
        exact Int.mul_dvd_mul hf.tz hg.tz
      · show _ = polyV E (pmul f.p g.p)
        rw [pmul_val, ← hf.val, ← hg.val]
    · cases h; exact fall_ok hk hv
  case and =>
    simp only [binIf, Bool.and_eq_true, decide_eq_true_eq] at h
    split at h
    · rename_i hc
      have h1 := hf.lo; have h2 := hf.hi; have h3 := hg.lo; have h4 := hg.hi
      have hb := bits_and hk (x := x.val E) (y := y.val E) (by omega) (by omega) (by omega) (by omega)
      simp only [binEv] at hv
      rw [hb] at hv
      have hle : ((((x.val E).toNat &&& (y.val E).toNat : Nat)) : Int) ≤ x.val E := by
        have : (x.val E).toNat &&& (y.val E).toNat ≤ (x.val E).toNat := Nat.and_le_left
        omega
      have hle' : ((((x.val E).toNat &&& (y.val E).toNat : Nat)) : Int) ≤ y.val E := by
        have : (x.val E).toNat &&& (y.val E).toNat ≤ (y.val E).toNat := Nat.and_le_right
        omega
      cases y with
      | lit m =>
        simp only at h
        simp only [SI.val_lit] at hv hle' h3 h4
        split at h
        · rename_i t ht
          have hm := isMask_spec ht
          have hmod : E.getD n 0 = x.val E % 2 ^ t := by
            rw [hv, hm]
            have e1 : ((2 : Int) ^ t - 1).toNat = 2 ^ t - 1 := by
              have : (1 : Nat) ≤ 2 ^ t := Nat.one_le_two_pow
              have : ((2 ^ t - 1 : Nat) : Int) = 2 ^ t - 1 := by rw [Int.ofNat_sub this]; simp
              omega
            rw [e1, Nat.and_two_pow_sub_one_eq_mod]
            rw [Int.natCast_emod, Int.toNat_of_nonneg (by omega)]
            simp
          split at h
          · rename_i hlt
            cases h
            rw [hmod, mod_in (by omega) (by omega)]
            exact hf
          · obtain ⟨a, ha, rfl⟩ := Option.map_eq_some_iff.1 h
            rw [hmod]
            exact mod_ok hf (shAtom_val ha hf)
        · cases h
          exact fall_in (by rw [hv]; omega) (by rw [hv]; exact hle')
      | var j =>
        simp only at h
        split at h
        · rename_i h01
          cases h
          have e : E.getD n 0 = x.val E * (SI.var j).val E := by
            rw [hv]
            rcases zero_one (by omega) (show x.val E ≤ 1 by omega) with hx | hx <;> rcases zero_one (by omega) (show (SI.var j).val E ≤ 1 by omega) with hy | hy <;> rw [hx, hy] <;> rfl
          refine ⟨by rw [hv]; show (0 : Int) ≤ _; omega, by rw [hv]; show _ ≤ (1 : Int); omega, ⟨_, (Int.one_mul _).symm⟩, ?_⟩
          show _ = polyV E (pmul f.p g.p)
          rw [pmul_val, ← hf.val, ← hg.val, e]
        · cases h
          exact fall_in (by rw [hv]; omega) (by rw [hv]; omega)
    · cases h
      obtain ⟨z, hz⟩ := bits_wrap .and k (x.val E) (y.val E)
      exact fall_ok hk (hv.trans hz)
  case or =>
    simp only [binIf, Bool.and_eq_true, decide_eq_true_eq, Bool.or_eq_true] at h
    split at h
    · rename_i hc
      have h1 := hf.lo; have h2 := hf.hi; have h3 := hg.lo; have h4 := hg.hi
      have hb := bits_or hk (x := x.val E) (y := y.val E) (by omega) (by omega) (by omega) (by omega)
      simp only [binEv] at hv
      rw [hb] at hv
      split at h
      · rename_i hd
        cases h
        have e : E.getD n 0 = x.val E + y.val E := by
          rw [hv]
          rcases hd with hd | hd
          · rw [or_disj (toNat_lt (by omega) (by omega)) (dvd_nat (by omega) hg.tz)]
            omega
          · rw [Nat.or_comm, or_disj (toNat_lt (by omega) (by omega)) (dvd_nat (by omega) hf.tz)]
            omega
        rw [e]
        exact add_ok hf hg
      · split at h
        · rename_i h01
          cases h
          have e : E.getD n 0 = x.val E + y.val E - x.val E * y.val E := by
            rw [hv]
            rcases zero_one (by omega) (show x.val E ≤ 1 by omega) with hx | hx <;> rcases zero_one (by omega) (show y.val E ≤ 1 by omega) with hy | hy <;> rw [hx, hy] <;> rfl
          have e2 : E.getD n 0 = 0 ∨ E.getD n 0 = 1 := by
            rw [e]
            rcases zero_one (by omega) (show x.val E ≤ 1 by omega) with hx | hx <;> rcases zero_one (by omega) (show y.val E ≤ 1 by omega) with hy | hy <;> rw [hx, hy] <;> simp
          refine ⟨by show (0 : Int) ≤ _; omega, by show _ ≤ (1 : Int); omega, ⟨_, (Int.one_mul _).symm⟩, ?_⟩
          show _ = polyV E (padd (pscale (-1) (pmul f.p g.p)) (padd f.p g.p))
          rw [padd_val, pscale_val, pmul_val, padd_val, ← hf.val, ← hg.val, e]
          omega
        · cases h
          obtain ⟨z, hz⟩ := bits_wrap .or k (x.val E) (y.val E)
          exact fall_ok hk ((hv.trans hb.symm).trans hz)
    · cases h
      obtain ⟨z, hz⟩ := bits_wrap .or k (x.val E) (y.val E)
      exact fall_ok hk (hv.trans hz)
  case xor =>
    simp only [binIf, Option.some.injEq] at h
    subst h
    obtain ⟨z, hz⟩ := bits_wrap .xor k (x.val E) (y.val E)
    exact fall_ok hk (hv.trans hz)
  case andNot =>
    simp only [binIf, Option.some.injEq] at h
    subst h
    obtain ⟨z, hz⟩ := bits_wrap .andNot k (x.val E) (y.val E)
    exact fall_ok hk (hv.trans hz)
  case quo =>
    simp only [binIf, Option.some.injEq] at h
    subst h
    exact fall_ok hk hv
  case rem => simp [binIf] at h
  case shl =>
    cases y with
    | var j =>
      simp only [binIf, Option.some.injEq] at h
      subst h
      exact fall_ok hk hv
    | lit s =>
      simp only [binIf, Bool.and_eq_true, decide_eq_true_eq] at h
      split at h
      · rename_i hc
        cases h
        have h1 := hf.lo; have h2 := hf.hi
        have e : min s.toNat k.bits = s.toNat := by rw [uns_bits hk]; omega
        have hps : (0 : Int) ≤ 2 ^ s.toNat := Int.pow_nonneg (by decide)
        have hle : x.val E * 2 ^ s.toNat ≤ f.hi * 2 ^ s.toNat := Int.mul_le_mul_of_nonneg_right h2 hps
        rw [hv]
        simp only [binEv, SI.val_lit, e]
        rw [uns_wrap hk, mod_in (Int.mul_nonneg (by omega) hps) (by omega)]
        exact scale_ok hf
      · cases h; exact fall_ok hk hv
  case shr =>
    cases y with
    | var j => simp [binIf] at h
    | lit s =>
      simp only [binIf, Bool.and_eq_true, decide_eq_true_eq] at h
      split at h
      · rename_i hc
        obtain ⟨a, ha, rfl⟩ := Option.map_eq_some_iff.1 h
        have e : min s.toNat k.bits = s.toNat := by rw [uns_bits hk]; omega
        rw [hv]
        simp only [binEv, SI.val_lit, e]
        rw [Int.fdiv_eq_ediv_of_nonneg _ (Int.pow_nonneg (by decide))]
        exact shr_ok hf (shAtom_val ha hf)
      · cases h
  case eql => simp only [binIf, Option.some.injEq] at h; subst h; exact bit_ok hv
  case neq => simp only [binIf, Option.some.injEq] at h; subst h; exact bit_ok' hv
  case lss => simp only [binIf, Option.some.injEq] at h; subst h; exact bit_ok hv
  case leq => simp only [binIf, Option.some.injEq] at h; subst h; exact bit_ok hv
  case gtr => simp only [binIf, Option.some.injEq] at h; subst h; exact bit_ok hv
  case geq => simp only [binIf, Option.some.injEq] at h; subst h; exact bit_ok hv

end Go.Proofs.Ytfeancgmmonebaa.Sx
