/-
  Tests of two numbers of 32 bits. Conditions: none; each theorem bears its own.
-/
import Derived.Test.YtfeancgmmonebaaSza
namespace Go.Proofs.Ytfeancgmmonebaa.Sx
open Go Go.Proofs

theorem bits_xor {k : IntKind} {b : Nat} (hk : unsB k = some b) {x y : Int} (hx0 : 0 ≤ x) (hx : x < 2 ^ b) (hy0 : 0 ≤ y) (hy : y < 2 ^ b) : bits .xor k x y = ((x.toNat ^^^ y.toNat : Nat) : Int) := by
  obtain rfl := uns_bits hk
  unfold bits
  simp only [BitVec.toNat_xor, ofInt_toNat hx0 hx, ofInt_toNat hy0 hy]
  exact wrap_nat hk (Nat.xor_lt_two_pow (toNat_lt hx0 hx) (toNat_lt hy0 hy))

theorem xor_zero {x y : Int} (hx0 : 0 ≤ x) (hx : x < 2 ^ 32) (hy0 : 0 ≤ y) (hy : y < 2 ^ 32) : 0 ≤ bits .xor .u32 x y ∧ bits .xor .u32 x y < 2 ^ 32 ∧ (bits .xor .u32 x y = 0 ↔ x = y) := by
  rw [bits_xor (k := .u32) (b := 32) rfl hx0 hx hy0 hy]
  have h : x.toNat ^^^ y.toNat < 2 ^ 32 := Nat.xor_lt_two_pow (toNat_lt hx0 hx) (toNat_lt hy0 hy)
  refine ⟨by omega, by omega, ⟨fun h => ?_, fun h => ?_⟩⟩
  · have h1 : x.toNat ^^^ y.toNat = 0 := by omega
    have h2 : x.toNat = y.toNat := by rw [← Nat.xor_zero x.toNat, ← Nat.xor_self y.toNat, ← Nat.xor_assoc, h1, Nat.zero_xor]
    omega
  · subst h; simp

theorem w32 (x : Int) : IntKind.u32.wrap x = x % 4294967296 := uns_wrap (k := .u32) (b := 32) rfl x
theorem w64 (x : Int) : IntKind.u64.wrap x = x % 18446744073709551616 := uns_wrap (k := .u64) (b := 64) rfl x

theorem F_eq (x y : Int) (hx0 : 0 ≤ x) (hx : x < 2 ^ 32) (hy0 : 0 ≤ y) (hy : y < 2 ^ 32) : e_eq.F [x, y] = [b01 (decide (x = y))] := by
  show [IntKind.u32.wrap ((IntKind.u64.wrap (IntKind.u64.wrap (bits .xor .u32 x y) - 1)).fdiv (2 ^ (min (63 : Int).toNat IntKind.u64.bits)))] = _
  obtain ⟨h1, h2, h3⟩ := xor_zero hx0 hx hy0 hy
  generalize bits .xor .u32 x y = z at *
  rw [w32, w64, w64, show ((2 : Int) ^ (min (63 : Int).toNat IntKind.u64.bits)) = 9223372036854775808 from rfl, Int.fdiv_eq_ediv_of_nonneg _ (by decide)]
  unfold b01
  congr 1
  by_cases h : x = y
  · rw [if_pos (by simpa using h)]; have := h3.2 h; omega
  · rw [if_neg (by simpa using h)]; have : z ≠ 0 := fun e => h (h3.1 e); omega

theorem F_lt (x y : Int) (hx0 : 0 ≤ x) (hx : x < 2 ^ 32) (hy0 : 0 ≤ y) (hy : y < 2 ^ 32) : e_lt.F [x, y] = [b01 (decide (x < y))] := by
  show [IntKind.u32.wrap ((IntKind.u64.wrap (IntKind.u64.wrap x - IntKind.u64.wrap y)).fdiv (2 ^ (min (63 : Int).toNat IntKind.u64.bits)))] = _
  rw [w32, w64, w64, w64, show ((2 : Int) ^ (min (63 : Int).toNat IntKind.u64.bits)) = 9223372036854775808 from rfl, Int.fdiv_eq_ediv_of_nonneg _ (by decide)]
  unfold b01
  congr 1
  by_cases h : x < y
  · rw [if_pos (by simpa using h)]; omega
  · rw [if_neg (by simpa using h)]; omega

theorem F_le (x y : Int) (hx0 : 0 ≤ x) (hx : x < 2 ^ 32) (hy0 : 0 ≤ y) (hy : y < 2 ^ 32) : e_le.F [x, y] = [b01 (!decide (y < x))] := by
  show [IntKind.u32.wrap ((IntKind.u64.wrap (IntKind.u64.wrap (IntKind.u64.wrap x - IntKind.u64.wrap y) - 1)).fdiv (2 ^ (min (63 : Int).toNat IntKind.u64.bits)))] = _
  rw [w32, w64, w64, w64, w64, show ((2 : Int) ^ (min (63 : Int).toNat IntKind.u64.bits)) = 9223372036854775808 from rfl, Int.fdiv_eq_ediv_of_nonneg _ (by decide)]
  unfold b01
  congr 1
  by_cases h : y < x
  · rw [if_neg (by simpa using h)]; omega
  · rw [if_pos (by simpa using h)]; omega

theorem F_gt (x y : Int) (hx0 : 0 ≤ x) (hx : x < 2 ^ 32) (hy0 : 0 ≤ y) (hy : y < 2 ^ 32) : e_gt.F [x, y] = [b01 (decide (y < x))] := by
  show [(fit 1 (e_lt.F [y, x])).getD 0 0] = _
  rw [F_lt y x hy0 hy hx0 hx]
  rfl

theorem F_ge (x y : Int) (hx0 : 0 ≤ x) (hx : x < 2 ^ 32) (hy0 : 0 ≤ y) (hy : y < 2 ^ 32) : e_ge.F [x, y] = [b01 (!decide (x < y))] := by
  show [(fit 1 (e_le.F [y, x])).getD 0 0] = _
  rw [F_le y x hy0 hy hx0 hx]
  rfl

def bool2 : ARule := .out [(0, 4294967295), (0, 4294967295)] [(0, 1)]

theorem rule2 {e : Entry} (h : ∀ x y : Int, 0 ≤ x → x < 2 ^ 32 → 0 ≤ y → y < 2 ^ 32 → ∃ b, e.F [x, y] = [b01 b]) : RuleOk e bool2 := by
  intro xs hl hb
  match xs, hl with
  | [x, y], _ =>
    have h0 := hb 0 _ rfl
    have h1 := hb 1 _ rfl
    simp only [List.getD_cons_zero, List.getD_cons_succ] at h0 h1
    obtain ⟨b, hF⟩ := h x y h0.1 (by omega) h1.1 (by omega)
    rw [hF]
    intro i c hc
    match i with
    | 0 => cases hc; cases b <;> decide
    | i + 1 => simp at hc

theorem ruleEq : RuleOk e_eq bool2 := rule2 fun x y a b c d => ⟨_, F_eq x y a b c d⟩
theorem ruleLt : RuleOk e_lt bool2 := rule2 fun x y a b c d => ⟨_, F_lt x y a b c d⟩
theorem ruleLe : RuleOk e_le bool2 := rule2 fun x y a b c d => ⟨_, F_le x y a b c d⟩
theorem ruleGt : RuleOk e_gt bool2 := rule2 fun x y a b c d => ⟨_, F_gt x y a b c d⟩
theorem ruleGe : RuleOk e_ge bool2 := rule2 fun x y a b c d => ⟨_, F_ge x y a b c d⟩
theorem bruleEq : BRuleOk e_eq .eq := F_eq
theorem bruleLt : BRuleOk e_lt .lt := F_lt
theorem bruleLe : BRuleOk e_le .le := F_le
theorem bruleGt : BRuleOk e_gt .gt := F_gt
theorem bruleGe : BRuleOk e_ge .ge := F_ge

theorem rules_nil (Γ : List Entry) : ∀ j, RuleOk (Γ.getD j noEntry) (([] : List ARule).getD j .none) := fun _ => trivial
theorem rules_cons {e : Entry} {Γ : List Entry} {r : ARule} {R : List ARule} (h : RuleOk e r) (t : ∀ j, RuleOk (Γ.getD j noEntry) (R.getD j .none)) : ∀ j, RuleOk ((e :: Γ).getD j noEntry) ((r :: R).getD j .none)
  | 0 => h
  | j + 1 => t j
theorem brules_nil (Γ : List Entry) : ∀ j, BRuleOk (Γ.getD j noEntry) (([] : List BRule).getD j .none) := fun _ _ _ _ _ _ _ => trivial
theorem brules_cons {e : Entry} {Γ : List Entry} {r : BRule} {R : List BRule} (h : BRuleOk e r) (t : ∀ j, BRuleOk (Γ.getD j noEntry) (R.getD j .none)) : ∀ j, BRuleOk ((e :: Γ).getD j noEntry) ((r :: R).getD j .none)
  | 0 => h
  | j + 1 => t j

end Go.Proofs.Ytfeancgmmonebaa.Sx
