/-
  Tests of two numbers of 32 bits. Conditions: none; each theorem bears its own.
-/
import Derived.Test.YtfeancgmmonebaaDoorMgj
namespace Go.Proofs.YtfeancgmmonebaaDoor.Sx
open Go Go.Proofs

theorem bits_xor {k : IntKind} {b : Nat} (hk : unsB k = some b) {x y : Int} (hx0 : 0 ≤ x) (hx : x < 2 ^ b) (hy0 : 0 ≤ y) (hy : y < 2 ^ b) : bits .xor k x y = ((x.toNat ^^^ y.toNat : Nat) : Int) := by
  obtain rfl := uns_bits hk
  unfold bits
  simp only [BitVec.toNat_xor, ofInt_toNat hx0 hx, ofInt_toNat hy0 hy]
  exact wrap_nat hk (Nat.xor_lt_two_pow (toNat_lt hx0 hx) (toNat_lt hy0 hy))

theorem xor_zero {x y : Int} (hx0 : 0 ≤ x) (hx : x < 2 ^ 32) (hy0 : 0 ≤ y) (hy : y < 2 ^ 32) : 0 ≤ bits .xor .u32 x y ∧ bits .xor .u32 x y < 2 ^ 32 ∧ (bits .xor .u32 x y = 0 ↔ x = y) := by
  rw [bits_xor (k := .u32) (b := 32) rfl hx0 hx hy0 hy]
  have h : x.toNat ^^^ y.toNat < 2 ^ 32 := Nat.xor_lt_two_pow (toNat_lt hx0 hx) (toNat_lt hy0 hy)
  refine ⟨by omega, by omega, ⟨fun h => ?_, fun h => ?_⟩⟩
  · have h1 : x.toNat ^^^ y.toNat = 0 := by omega
    have h2 : x.toNat = y.toNat := by rw [← Nat.xor_zero x.toNat, ← Nat.xor_self y.toNat, ← Nat.xor_assoc, h1, Nat.zero_xor]
    omega
  · subst h; simp

theorem w32 (x : Int) : IntKind.u32.wrap x = x % 4294967296 := uns_wrap (k := .u32) (b := 32) rfl x
theorem w64 (x : Int) : IntKind.u64.wrap x = x % 18446744073709551616 := uns_wrap (k := .u64) (b := 64) rfl x

theorem F_eq (x y : Int) (hx0 : 0 ≤ x) (hx : x < 2 ^ 32) (hy0 : 0 ≤ y) (hy : y < 2 ^ 32) : e_eq.F [x, y] = [b01 (decide (x = y))] := by
  show [IntKind.u32.wrap ((IntKind.u64.wrap (IntKind.u64.wrap (bits .xor .u32 x y) - 1)).fdiv (2 ^ (min (63 : Int).toNat IntKind.u64.bits)))] = _
  obtain ⟨h1, h2, h3⟩ := xor_zero hx0 hx hy0 hy
  generalize bits .xor .u32 x y = z at *
  rw [w32, w64, w64, show ((2 : Int) ^ (min (63 : Int).toNat IntKind.u64.bits)) = 9223372036854775808 from rfl, Int.fdiv_eq_ediv_of_nonneg _ (by decide)]
  unfold b01
  congr 1
  by_cases h : x = y
  · rw [if_pos (by simpa using h)]; have := h3.2 h; omega
  · rw [if_neg (by simpa using h)]; have : z ≠ 0 := fun e => h (h3.1 e); omega

theorem F_lt (x y : Int) (hx0 : 0 ≤ x) (hx : x < 2 ^ 32) (hy0 : 0 ≤ y) (hy : y < 2 ^ 32) : e_lt.F [x, y] = [b01 (decide (x < y))] := by
  show [IntKind.u32.wrap ((IntKind.u64.wrap (IntKind.u64.wrap x - IntKind.u64.wrap y)).fdiv (2 ^ (min (63 : Int).toNat IntKind.u64.bits)))] = _
  rw [w32, w64, w64, w64, show ((2 : Int) ^ (min (63 : Int).toNat IntKind.u64.bits)) = 9223372036854775808 from rfl, Int.fdiv_eq_ediv_of_nonneg _ (by decide)]
  unfold b01
  congr 1
  by_cases h : x < y
  · rw [if_pos (by simpa using h)]; omega
  · rw [if_neg (by simpa using h)]; omega

theorem F_le (x y : Int) (hx0 : 0 ≤ x) (hx : x < 2 ^ 32) (hy0 : 0 ≤ y) (hy : y < 2 ^ 32) : e_le.F [x, y] = [b01 (!decide (y < x))] := by
  show [IntKind.u32.wrap ((IntKind.u64.wrap (IntKind.u64.wrap (IntKind.u64.wrap x - IntKind.u64.wrap y) - 1)).fdiv (2 ^ (min (63 : Int).toNat IntKind.u64.bits)))] = _
  rw [w32, w64, w64, w64, w64, show ((2 : Int) ^ (min (63 : Int).toNat IntKind.u64.bits)) = 9223372036854775808 from rfl, Int.fdiv_eq_ediv_of_nonneg _ (by decide)]
  unfold b01
  congr 1
  by_cases h : y < x
  · rw [if_neg (by simpa using h)]; omega
  · rw [if_pos (by simpa using h)]; omega

theorem F_gt (x y : Int) (hx0 : 0 ≤ x) (hx : x < 2 ^ 32) (hy0 : 0 ≤ y) (hy : y < 2 ^ 32) : e_gt.F [x, y] = [b01 (decide (y < x))] := by
  show [(fit 1 (e_lt.F [y, x])).getD 0 0] = _
  rw [F_lt y x hy0 hy hx0 hx]
  rfl

theorem F_ge (x y : Int) (hx0 : 0 ≤ x) (hx : x < 2 ^ 32) (hy0 : 0 ≤ y) (hy : y < 2 ^ 32) : e_ge.F [x, y] = [b01 (!decide (x < y))] := by
  show [(fit 1 (e_le.F [y, x])).getD 0 0] = _
  rw [F_le y x hy0 hy hx0 hx]
  rfl

def bool2 : ARule := .out [(0, 4294967295), (0, 4294967295)] [(0, 1)]

theorem rule2 {e : Entry} (h : ∀ x y : Int, 0 ≤ x → x < 2 ^ 32 → 0 ≤ y → y < 2 ^ 32 → ∃ b, e.F [x, y] = [b01 b]) : RuleOk e bool2 := by
  intro xs hl hb
  match xs, hl with
  | [x, y], _ =>
    have h0 := hb 0 _ rfl
    have h1 := hb 1 _ rfl
    simp only [List.getD_cons_zero, List.getD_cons_succ] at h0 h1
    obtain ⟨b, hF⟩ := h x y h0.1 (by omega) h1.1 (by omega)
    rw [hF]
    intro i c hc
    match i with
    | 0 => cases hc; cases b <;> decide
    | i + 1 => simp at hc

theorem ruleEq : RuleOk e_eq bool2 := rule2 fun x y a b c d => ⟨_, F_eq x y a b c d⟩
theorem ruleLt : RuleOk e_lt bool2 := rule2 fun x y a b c d => ⟨_, F_lt x y a b c d⟩
theorem ruleLe : RuleOk e_le bool2 := rule2 fun x y a b c d => ⟨_, F_le x y a b c d⟩
theorem ruleGt : RuleOk e_gt bool2 := rule2 fun x y a b c d => ⟨_, F_gt x y a b c d⟩
theorem ruleGe : RuleOk e_ge bool2 := rule2 fun x y a b c d => ⟨_, F_ge x y a b c d⟩
theorem bruleEq : BRuleOk e_eq .eq := F_eq
theorem bruleLt : BRuleOk e_lt .lt := F_lt
theorem bruleLe : BRuleOk e_le .le := F_le
theorem bruleGt : BRuleOk e_gt .gt := F_gt
theorem bruleGe : BRuleOk e_ge .ge := F_ge

theorem rules_nil (Γ : List Entry) : ∀ j, RuleOk (Γ.getD j noEntry) (([] : List ARule).getD j .none) := fun _ => trivial
theorem rules_cons {e : Entry} {Γ : List Entry} {r : ARule} {R : List ARule} (h : RuleOk e r) (t : ∀ j, RuleOk (Γ.getD j noEntry) (R.getD j .none)) : ∀ j, RuleOk ((e :: Γ).getD j noEntry) ((r :: R).getD j .none)
  | 0 => h
  | j + 1 => t j
theorem brules_nil (Γ : List Entry) : ∀ j, BRuleOk (Γ.getD j noEntry) (([] : List BRule).getD j .none) := fun _ _ _ _ _ _ _ => trivial
theorem brules_cons {e : Entry} {Γ : List Entry} {r : BRule} {R : List BRule} (h : BRuleOk e r) (t : ∀ j, BRuleOk (Γ.getD j noEntry) (R.getD j .none)) : ∀ j, BRuleOk ((e :: Γ).getD j noEntry) ((r :: R).getD j .none)
  | 0 => h
  | j + 1 => t j

theorem rsub : RuleOk e_sub .sub64 := by
  intro x y b x0 x1 y0 y1 b0 b1
  show ∃ c, subF [x, y, b] = _ ∧ _
  obtain ⟨X, rfl⟩ := Int.eq_ofNat_of_zero_le x0
  obtain ⟨Y, rfl⟩ := Int.eq_ofNat_of_zero_le y0
  obtain ⟨B, rfl⟩ := Int.eq_ofNat_of_zero_le b0
  simp only [subF, Int.toNat_natCast]
  by_cases h : X < Y + B
  · refine ⟨1, ?_, by decide, by decide, by omega, by omega⟩
    rw [if_pos h]
    congr 1
    omega
  · refine ⟨0, ?_, by decide, by decide, by omega, by omega⟩
    rw [if_neg h]
    congr 1
    omega

end Go.Proofs.YtfeancgmmonebaaDoor.Sx

/-
  What functions on digits come to. Conditions: none; each theorem bears its own.
-/
namespace Go.Proofs.YtfeancgmmonebaaDoor.Sx
open Go Go.Proofs

theorem inB_nil (l : List Int) : inB [] l := fun i b h => by simp at h

theorem inB_rep {m : Int} : ∀ {n : Nat} {l : List Int}, l.length = n → (∀ x ∈ l, 0 ≤ x ∧ x ≤ m) → inB (List.replicate n (0, m)) l
  | 0, l, _, _ => by intro i b h; simp at h
  | n + 1, x :: l, hl, h => by
    intro i b hb
    match i with
    | 0 => cases hb; exact h x List.mem_cons_self
    | i + 1 => exact inB_rep (n := n) (l := l) (by simpa using hl) (fun y hy => h y (List.mem_cons_of_mem _ hy)) i b hb

theorem inB_append {A B : List (Int × Int)} {l r : List Int} (hl : l.length = A.length) (ha : inB A l) (hb : inB B r) : inB (A ++ B) (l ++ r) := by
  intro i b h
  rcases Nat.lt_or_ge i A.length with hi | hi
  · rw [List.getElem?_append_left hi] at h
    have := ha i b h
    rw [List.getD, List.getElem?_append_left (by omega)]
    exact this
  · rw [List.getElem?_append_right hi] at h
    have := hb (i - A.length) b h
    rw [List.getD, List.getElem?_append_right (by omega), hl]
    exact this

theorem inB_one {lo hi x : Int} (h0 : lo ≤ x) (h1 : x ≤ hi) : inB [(lo, hi)] [x] := by
  intro i b h
  match i with
  | 0 => cases h; exact ⟨h0, h1⟩
  | i + 1 => simp at h

theorem Dg.le {w : Nat} {l : List Int} (h : Dg w l) {m : Int} (hm : 2 ^ w ≤ m + 1) : ∀ x ∈ l, 0 ≤ x ∧ x ≤ m := fun x hx => by
  obtain ⟨h0, h1⟩ := h x hx
  exact ⟨h0, by omega⟩

theorem runR_pre (Γ : List Entry) (ds : List Def) (e : List Int) : ∃ s, runR Γ ds e = e ++ s := by
  rw [runR_eq]
  exact runL_prefix Γ _ e

theorem vars_base (Γ : List Entry) (ds : List Def) {a l b : List Int} {n i : Nat} (ha : a.length = i) (hl : l.length = n) : (vars i n).map (·.val (runR Γ ds (a ++ (l ++ b)))) = l := by
  obtain ⟨s, hs⟩ := runR_pre Γ ds (a ++ (l ++ b))
  rw [hs, vars_val, List.append_assoc, List.append_assoc, List.drop_left' ha, fit_append hl]

theorem vars_base0 (Γ : List Entry) (ds : List Def) {l b : List Int} {n : Nat} (hl : l.length = n) : (vars 0 n).map (·.val (runR Γ ds (l ++ b))) = l :=
  vars_base Γ ds (a := []) rfl hl

theorem vars_last (Γ : List Entry) (ds : List Def) {a l : List Int} {n i : Nat} (ha : a.length = i) (hl : l.length = n) : (vars i n).map (·.val (runR Γ ds (a ++ l))) = l := by
  have := vars_base Γ ds (b := []) ha hl
  rwa [List.append_nil] at this

theorem vars_all (Γ : List Entry) (ds : List Def) {l : List Int} {n : Nat} (hl : l.length = n) : (vars 0 n).map (·.val (runR Γ ds l)) = l := by
  have := vars_base0 Γ ds (b := []) hl
  rwa [List.append_nil] at this

def outIns (w : Nat) (xs : List SI) : List (SI × Int × Int) := xs.map fun x => (x, 0, 2 ^ w - 1)

/-- Digits that are, modulo a power of two, what a sum of numbers is. -/
theorem redig {Γ : List Entry} {R : List ARule} (hR : ∀ j, RuleOk (Γ.getD j noEntry) (R.getD j .none)) {ds : List Def} {bnds : List (Int × Int)} {w : Nat} {outs : List SI} {L : Lin}
    (h : aiChk R bnds ds { ins := outIns w outs, mods := [(2 ^ (w * outs.length), linOf w 1 outs ++ L)] } = true) {base : List Int} (hl : base.length = bnds.length) (hb : inB bnds base) :
    outs.map (·.val (runR Γ ds base)) = dig w outs.length (-linV (runR Γ ds base) L) := by
  obtain ⟨_, h1, _, h3⟩ := aiChk_sound hR h hl hb
  have hd : Dg w (outs.map (·.val (runR Γ ds base))) := by
    intro x hx
    obtain ⟨y, hy, rfl⟩ := List.mem_map.1 hx
    have := h1 (y, 0, 2 ^ w - 1) (List.mem_map.2 ⟨y, hy, rfl⟩)
    simp only at this
    omega
  have hm := h3 _ List.mem_cons_self
  rw [linV_append, linOf_val, Int.one_mul] at hm
  have := dig_eq_mod (V := -linV (runR Γ ds base) L) hd (by rw [List.length_map, Int.sub_neg]; exact hm)
  rwa [List.length_map] at this

/-- Bounds of a number that a run leaves. -/
theorem inRun {Γ : List Entry} {R : List ARule} (hR : ∀ j, RuleOk (Γ.getD j noEntry) (R.getD j .none)) {ds : List Def} {bnds : List (Int × Int)} {x : SI} {lo hi : Int}
    (h : aiChk R bnds ds { ins := [(x, lo, hi)] } = true) {base : List Int} (hl : base.length = bnds.length) (hb : inB bnds base) : lo ≤ x.val (runR Γ ds base) ∧ x.val (runR Γ ds base) ≤ hi :=
  (aiChk_sound hR h hl hb).2.1 _ List.mem_cons_self

def be (l : List Int) : Int := num 8 l.reverse

/-- The prime of the field; the order of the group. -/
def fp : Int := 115792089237316195423570985008687907853269984665640564039457584007908834671663
def fn : Int := 115792089237316195423570985008687907852837564279074904382605163141518161494337

theorem Dg.reverse {w : Nat} {l : List Int} (h : Dg w l) : Dg w l.reverse := fun x hx => h x (List.mem_reverse.1 hx)
theorem Dg.append {w : Nat} {l r : List Int} (h : Dg w l) (g : Dg w r) : Dg w (l ++ r) := fun x hx => by
  rcases List.mem_append.1 hx with hx | hx
  · exact h x hx
  · exact g x hx

theorem be_bounds {l : List Int} (hl : l.length = 32) (h : Dg 8 l) : 0 ≤ be l ∧ be l < 2 ^ 256 := by
  have := num_bounds h.reverse
  rw [List.length_reverse, hl] at this
  exact this

def Rtests : List ARule := [bool2, bool2, bool2]
theorem rEqGtGe : ∀ j, RuleOk ([e_eq, e_gt, e_ge].getD j noEntry) (Rtests.getD j .none) := rules_cons ruleEq (rules_cons ruleGt (rules_cons ruleGe (rules_nil _)))
theorem bEqGtGe : ∀ j, BRuleOk ([e_eq, e_gt, e_ge].getD j noEntry) (([.eq, .gt, .ge] : List BRule).getD j .none) := brules_cons bruleEq (brules_cons bruleGt (brules_cons bruleGe (brules_nil _)))
theorem rEqGt : ∀ j, RuleOk ([e_eq, e_gt].getD j noEntry) (([bool2, bool2] : List ARule).getD j .none) := rules_cons ruleEq (rules_cons ruleGt (rules_nil _))
theorem bEqGt : ∀ j, BRuleOk ([e_eq, e_gt].getD j noEntry) (([.eq, .gt] : List BRule).getD j .none) := brules_cons bruleEq (brules_cons bruleGt (brules_nil _))

/-! ## Words and bytes -/

theorem uof_spec {bs : List Int} (hl : bs.length = 32) (hd : Dg 8 bs) : e_uof.F bs = dig 64 4 (be bs) := by
  have hb : inB (List.replicate 32 ((0 : Int), (255 : Int))) bs := inB_rep hl (hd.le (by decide))
  have h := redig (Γ := G_uof) (R := []) (rules_nil _) (ds := p_uof.defs) (bnds := List.replicate 32 (0, 255)) (w := 64) (outs := p_uof.outs) (L := linOf 8 (-1) (vars 0 32).reverse) (by kernel_rfl) (by simpa using hl) hb
  rw [linOf_val, List.map_reverse, vars_all G_uof _ hl] at h
  rw [show -(-1 * num 8 bs.reverse) = be bs by unfold be; omega] at h
  exact h

theorem lof_spec {A B : Int} (a0 : 0 ≤ A) (a1 : A < 2 ^ 256) (b0 : 0 ≤ B) (b1 : B < 2 ^ 256) : e_lof.F (dig 64 4 A ++ dig 64 4 B) = dig 64 4 (A - B) := by
  have hb : inB (List.replicate 8 ((0 : Int), (18446744073709551615 : Int))) (dig 64 4 A ++ dig 64 4 B) := inB_rep rfl (((dig_dg 64 4 A).append (dig_dg 64 4 B)).le (by decide))
  have h := redig (Γ := G_lof) (R := [.sub64]) (rules_cons rsub (rules_nil _)) (ds := p_lof.defs) (bnds := List.replicate 8 (0, 18446744073709551615)) (w := 64) (outs := p_lof.outs) (L := linOf 64 (-1) (vars 0 4) ++ linOf 64 1 (vars 4 4)) (by kernel_rfl) rfl hb
  rw [linV_append, linOf_val, linOf_val, vars_base0 G_lof _ (dig_length 64 4 A), vars_last G_lof _ (dig_length 64 4 A) (dig_length 64 4 B), num_dig 64 4 A a0 a1, num_dig 64 4 B b0 b1] at h
  rw [show -(-1 * A + 1 * B) = A - B by omega] at h
  exact h

theorem uless_spec {A B : Int} (a0 : 0 ≤ A) (a1 : A < 2 ^ 256) (b0 : 0 ≤ B) (b1 : B < 2 ^ 256) : e_uless.F (dig 64 4 A ++ dig 64 4 B) = [b01 (decide (A < B))] := by
  have ha := num_dig 64 4 A a0 a1
  have hb := num_dig 64 4 B b0 b1
  have da := dig_dg 64 4 A
  have db := dig_dg 64 4 B
  have la := dig_length 64 4 A
  have lb := dig_length 64 4 B
  generalize dig 64 4 A = xa at *
  generalize dig 64 4 B = xb at *
  match xa, la, xb, lb with
  | [a0, a1, a2, a3], _, [b0, b1, b2, b3], _ =>
    have p0 := da a0 (by simp)
    have p1 := da a1 (by simp)
    have p2 := da a2 (by simp)
    have p3 := da a3 (by simp)
    have q0 := db b0 (by simp)
    have q1 := db b1 (by simp)
    have q2 := db b2 (by simp)
    have q3 := db b3 (by simp)
    show [if a3 = b3 then if a2 = b2 then if a1 = b1 then if a0 = b0 then 0 else (if a0 < b0 then 1 else 0) else (if a1 < b1 then 1 else 0) else (if a2 < b2 then 1 else 0) else (if a3 < b3 then 1 else 0)] = _
    simp only [num] at ha hb
    unfold b01
    congr 1
    by_cases h : A < B
    · rw [show (if decide (A < B) = true then (1 : Int) else 0) = 1 from if_pos (by simpa using h)]
      split
      · split
        · split
          · split
            · omega
            · rw [if_pos (by omega)]
          · rw [if_pos (by omega)]
        · rw [if_pos (by omega)]
      · rw [if_pos (by omega)]
    · rw [show (if decide (A < B) = true then (1 : Int) else 0) = 0 from if_neg (by simpa using h)]
      split
      · split
        · split
          · split
            · rfl
            · rw [if_neg (by omega)]
          · rw [if_neg (by omega)]
        · rw [if_neg (by omega)]
      · rw [if_neg (by omega)]

theorem order_spec : e_order.F [] = dig 64 4 fn := by kernel_rfl

end Go.Proofs.YtfeancgmmonebaaDoor.Sx

/-
  Field elements of 32 bytes: what SetBytes, Normalize, PutBytes come to. Conditions: none; each theorem bears its own.
-/
namespace Go.Proofs.YtfeancgmmonebaaDoor.Sx
open Go Go.Proofs

theorem len10 {b : List Int} (h : b.length = 10) : ∃ a0 a1 a2 a3 a4 a5 a6 a7 a8 a9, b = [a0, a1, a2, a3, a4, a5, a6, a7, a8, a9] := by
  match b, h with
  | [a0, a1, a2, a3, a4, a5, a6, a7, a8, a9], _ => exact ⟨a0, a1, a2, a3, a4, a5, a6, a7, a8, a9, rfl⟩

theorem p260 {V : Int} (h : V < 2 ^ 256) : V < 2 ^ (26 * 10) := by
  rw [show 26 * 10 = 256 + 4 from rfl, Int.pow_add]
  have := two_pos 256
  omega

theorem map_append_one {α β : Type} (f : α → β) (l : List α) (x : α) : (l ++ [x]).map f = l.map f ++ [f x] := by simp

/-- The words of a number of 256 bits, against the prime. -/
theorem over_words {x0 x1 x2 x3 x4 x5 x6 x7 x8 x9 : Int} (h : Dg 26 [x0, x1, x2, x3, x4, x5, x6, x7, x8, x9]) (h9 : num 26 [x0, x1, x2, x3, x4, x5, x6, x7, x8, x9] < 2 ^ 256) :
    fp ≤ num 26 [x0, x1, x2, x3, x4, x5, x6, x7, x8, x9] ↔ x9 = 4194303 ∧ x8 = 67108863 ∧ x7 = 67108863 ∧ x6 = 67108863 ∧ x5 = 67108863 ∧ x4 = 67108863 ∧ x3 = 67108863 ∧ x2 = 67108863 ∧ (67108799 < x1 ∨ (x1 = 67108799 ∧ 67107887 ≤ x0)) := by
  have p0 := h x0 (by simp)
  have p1 := h x1 (by simp)
  have p2 := h x2 (by simp)
  have p3 := h x3 (by simp)
  have p4 := h x4 (by simp)
  have p5 := h x5 (by simp)
  have p6 := h x6 (by simp)
  have p7 := h x7 (by simp)
  have p8 := h x8 (by simp)
  have p9 := h x9 (by simp)
  simp only [num] at h9 ⊢
  unfold fp
  constructor
  · intro hv
    have e9 : x9 = 4194303 := by omega
    subst e9
    have e8 : x8 = 67108863 := by omega
    subst e8
    have e7 : x7 = 67108863 := by omega
    subst e7
    have e6 : x6 = 67108863 := by omega
    subst e6
    have e5 : x5 = 67108863 := by omega
    subst e5
    have e4 : x4 = 67108863 := by omega
    subst e4
    have e3 : x3 = 67108863 := by omega
    subst e3
    have e2 : x2 = 67108863 := by omega
    subst e2
    refine ⟨rfl, rfl, rfl, rfl, rfl, rfl, rfl, rfl, ?_⟩
    omega
  · rintro ⟨rfl, rfl, rfl, rfl, rfl, rfl, rfl, rfl, hv⟩
    omega

def setbB : BF := (.or (.and (.and (.and (.and (.and (.and (.and (.and (.eq (.var 152) (.lit 4194303)) (.eq (.var 144) (.lit 67108863))) (.eq (.var 133) (.lit 67108863))) (.eq (.var 122) (.lit 67108863))) (.eq (.var 110) (.lit 67108863))) (.eq (.var 98) (.lit 67108863))) (.eq (.var 87) (.lit 67108863))) (.eq (.var 76) (.lit 67108863))) (.lt (.lit 67108799) (.var 64))) (.and (.and (.and (.and (.and (.and (.and (.and (.and (.eq (.var 152) (.lit 4194303)) (.eq (.var 144) (.lit 67108863))) (.eq (.var 133) (.lit 67108863))) (.eq (.var 122) (.lit 67108863))) (.eq (.var 110) (.lit 67108863))) (.eq (.var 98) (.lit 67108863))) (.eq (.var 87) (.lit 67108863))) (.eq (.var 76) (.lit 67108863))) (.eq (.var 64) (.lit 67108799))) (.not (.lt (.var 52) (.lit 67107887)))))

def setbW : List SI := [.var 52, .var 64, .var 76, .var 87, .var 98, .var 110, .var 122, .var 133, .var 144, .var 152]

end Go.Proofs.YtfeancgmmonebaaDoor.Sx

/-
  Normalize of a field element below 2^256. Conditions: none; each theorem bears its own.
-/
namespace Go.Proofs.YtfeancgmmonebaaDoor.Sx
open Go Go.Proofs

theorem and_mask {x y : Int} (hx0 : 0 ≤ x) (hx : x ≤ 67108863) (hy0 : 0 ≤ y) (hy : y ≤ 67108863) : 0 ≤ bits .and .u32 x y ∧ bits .and .u32 x y ≤ 67108863 ∧ (bits .and .u32 x y = 67108863 ↔ x = 67108863 ∧ y = 67108863) := by
  rw [bits_and (k := .u32) (b := 32) rfl hx0 (by omega) hy0 (by omega)]
  have h1 : x.toNat &&& y.toNat ≤ x.toNat := Nat.and_le_left
  have h2 : x.toNat &&& y.toNat ≤ y.toNat := Nat.and_le_right
  refine ⟨by omega, by omega, ⟨fun h => ⟨by omega, by omega⟩, fun ⟨e1, e2⟩ => ?_⟩⟩
  subst e1 e2
  decide

theorem carry_up {x0 x1 : Int} (h0 : 0 ≤ x0) (h0' : x0 < 67108864) (h1 : x1 < 67108864) : 67108863 < x1 + 64 + (x0 + 977) / 67108864 ↔ 67108799 < x1 ∨ (x1 = 67108799 ∧ 67107887 ≤ x0) := by omega

def normW : List SI := [.var 66, .var 69, .var 72, .var 75, .var 78, .var 81, .var 84, .var 87, .var 90, .var 91]

def normAsk : Ask :=
  { ins := outIns 26 normW ++ [(.var 91, 0, 4194303), (.var 59, 0, 1)]
    zeros := [[(.var 41, 1), (.var 9, -1)], [(.var 42, 1), (.var 8, -1)], [(.var 39, 1), (.var 7, -1)], [(.var 36, 1), (.var 6, -1)], [(.var 33, 1), (.var 5, -1)], [(.var 30, 1), (.var 4, -1)], [(.var 27, 1), (.var 3, -1)], [(.var 24, 1), (.var 2, -1)],
      [(.var 55, 1), (.var 1, -1), (.lit 64, -1), (.var 54, -1)], [(.var 53, 1), (.var 0, -1), (.lit 977, -1)], [(.var 59, 1), (.var 57, -1)]]
    mods := [(2 ^ 256, linOf 26 1 normW ++ (linOf 26 (-1) (vars 0 10) ++ [(.var 59, -4294968273)]))] }

def normB : BF := (.and (.and (.eq (.var 41) (.lit 4194303)) (.eq (.var 49) (.lit 67108863))) (.lt (.lit 67108863) (.var 55)))

end Go.Proofs.YtfeancgmmonebaaDoor.Sx

/-
  Field elements and scalars of 32 bytes, whole. Conditions: none; each theorem bears its own.
-/
namespace Go.Proofs.YtfeancgmmonebaaDoor.Sx
open Go Go.Proofs

theorem len32 {b : List Int} (h : b.length = 32) : ∃ b0 b1 b2 b3 b4 b5 b6 b7 b8 b9 b10 b11 b12 b13 b14 b15 b16 b17 b18 b19 b20 b21 b22 b23 b24 b25 b26 b27 b28 b29 b30 b31, b = [b0, b1, b2, b3, b4, b5, b6, b7, b8, b9, b10, b11, b12, b13, b14, b15, b16, b17, b18, b19, b20, b21, b22, b23, b24, b25, b26, b27, b28, b29, b30, b31] := by
  match b, h with
  | [b0, b1, b2, b3, b4, b5, b6, b7, b8, b9, b10, b11, b12, b13, b14, b15, b16, b17, b18, b19, b20, b21, b22, b23, b24, b25, b26, b27, b28, b29, b30, b31], _ => exact ⟨b0, b1, b2, b3, b4, b5, b6, b7, b8, b9, b10, b11, b12, b13, b14, b15, b16, b17, b18, b19, b20, b21, b22, b23, b24, b25, b26, b27, b28, b29, b30, b31, rfl⟩

theorem zeros_dg (w n : Nat) : Dg w (List.replicate n 0) := fun x hx => by
  rw [(List.mem_replicate.1 hx).2]
  exact ⟨Int.le_refl _, two_pos w⟩

theorem dig_ex10 (V : Int) : ∃ a0 a1 a2 a3 a4 a5 a6 a7 a8 a9, dig 26 10 V = [a0, a1, a2, a3, a4, a5, a6, a7, a8, a9] := len10 (dig_length 26 10 V)

theorem bytes_out' (e0 : Entry) (a0 a1 a2 a3 a4 a5 a6 a7 a8 a9 : Int) : p_bytes.out [e0] [a0, a1, a2, a3, a4, a5, a6, a7, a8, a9] = fit 32 (e0.F ([a0, a1, a2, a3, a4, a5, a6, a7, a8, a9] ++ List.replicate 32 0)) := by kernel_rfl

theorem number_out' (e0 e1 : Entry) (a0 a1 a2 a3 a4 a5 a6 a7 a8 a9 : Int) : p_number.out [e0, e1] [a0, a1, a2, a3, a4, a5, a6, a7, a8, a9] = fit 10 (e0.F [a0, a1, a2, a3, a4, a5, a6, a7, a8, a9]) ++ fit 32 (e1.F (fit 10 (e0.F [a0, a1, a2, a3, a4, a5, a6, a7, a8, a9]))) := by kernel_rfl

theorem mod_bounds {V p : Int} (hp : 0 < p) (hp' : p < 2 ^ 256) : 0 ≤ V % p ∧ V % p < 2 ^ 256 := by
  have := Int.emod_nonneg V (show p ≠ 0 by omega)
  have := Int.emod_lt_of_pos V hp
  omega

theorem fp_pos : (0 : Int) < fp := by decide
theorem fp_lt : fp < 2 ^ 256 := by unfold fp; omega
theorem fn_pos : (0 : Int) < fn := by decide
theorem fn_lt : fn < 2 ^ 256 := by unfold fn; omega

theorem fset_out' (e0 e1 : Entry) (b0 b1 b2 b3 b4 b5 b6 b7 b8 b9 b10 b11 b12 b13 b14 b15 b16 b17 b18 b19 b20 b21 b22 b23 b24 b25 b26 b27 b28 b29 b30 b31 : Int) : p_fset.out [e0, e1] [b0, b1, b2, b3, b4, b5, b6, b7, b8, b9, b10, b11, b12, b13, b14, b15, b16, b17, b18, b19, b20, b21, b22, b23, b24, b25, b26, b27, b28, b29, b30, b31] = (if (fit 11 (e0.F (List.replicate 10 0 ++ [b0, b1, b2, b3, b4, b5, b6, b7, b8, b9, b10, b11, b12, b13, b14, b15, b16, b17, b18, b19, b20, b21, b22, b23, b24, b25, b26, b27, b28, b29, b30, b31]))).getD 10 0 = 0 then 0 else 1) :: (fit 42 (e1.F (fit 10 (e0.F (List.replicate 10 0 ++ [b0, b1, b2, b3, b4, b5, b6, b7, b8, b9, b10, b11, b12, b13, b14, b15, b16, b17, b18, b19, b20, b21, b22, b23, b24, b25, b26, b27, b28, b29, b30, b31]))))).drop 10 := by kernel_rfl

theorem fieldof_out' (e0 e1 e2 : Entry) (b0 b1 b2 b3 b4 b5 b6 b7 b8 b9 b10 b11 b12 b13 b14 b15 b16 b17 b18 b19 b20 b21 b22 b23 b24 b25 b26 b27 b28 b29 b30 b31 : Int) : p_fieldof.out [e0, e1, e2] [b0, b1, b2, b3, b4, b5, b6, b7, b8, b9, b10, b11, b12, b13, b14, b15, b16, b17, b18, b19, b20, b21, b22, b23, b24, b25, b26, b27, b28, b29, b30, b31] = fit 4 (e1.F (fit 4 (e0.F [b0, b1, b2, b3, b4, b5, b6, b7, b8, b9, b10, b11, b12, b13, b14, b15, b16, b17, b18, b19, b20, b21, b22, b23, b24, b25, b26, b27, b28, b29, b30, b31]) ++ fit 4 (e2.F []))) := by kernel_rfl

theorem scalarof_out' (e0 e1 e2 : Entry) (b0 b1 b2 b3 b4 b5 b6 b7 b8 b9 b10 b11 b12 b13 b14 b15 b16 b17 b18 b19 b20 b21 b22 b23 b24 b25 b26 b27 b28 b29 b30 b31 : Int) : p_scalarof.out [e0, e1, e2] [b0, b1, b2, b3, b4, b5, b6, b7, b8, b9, b10, b11, b12, b13, b14, b15, b16, b17, b18, b19, b20, b21, b22, b23, b24, b25, b26, b27, b28, b29, b30, b31] = fit 4 (e1.F (fit 4 (e0.F [b0, b1, b2, b3, b4, b5, b6, b7, b8, b9, b10, b11, b12, b13, b14, b15, b16, b17, b18, b19, b20, b21, b22, b23, b24, b25, b26, b27, b28, b29, b30, b31]) ++ fit 4 (e2.F []))) := by kernel_rfl

/-! ## Scalars -/

theorem satL_app {Γ : List Entry} {E : List Int} : ∀ {ds : List Def} {n i j m : Nat} {xs : List SI}, SatL Γ E n ds → defAt n ds i = some (.app j xs m) → (vars i m).map (·.val E) = fit m ((Γ.getD j noEntry).F (xs.map (·.val E)))
  | [], _, _, _, _, _, _, h => by cases h
  | d :: ds, n, i, j, m, xs, hs, h => by
    unfold defAt at h
    split at h
    · rename_i hn
      cases h
      rw [← Nat.eq_of_beq_eq_true hn]
      have key : ∀ (m k : Nat) (l : List Int), (∀ i, i < m → E.getD (k + i) 0 = l.getD i 0) → (vars k m).map (·.val E) = fit m l := by
        intro m
        induction m with
        | zero => intro k l _; rfl
        | succ m ih =>
          intro k l hh
          simp only [vars, List.map_cons, fit]
          rw [ih (k + 1) l.tail fun i hi => by
            have := hh (i + 1) (by omega)
            rw [show k + 1 + i = k + (i + 1) by omega, this]
            cases l <;> simp]
          congr 1
          have := hh 0 (by omega)
          rw [Nat.add_zero] at this
          show E.getD k 0 = _
          rw [this]
          cases l <;> rfl
      exact key _ _ _ hs.1
    · cases d with
      | pr p' xs' => exact satL_app hs.2 h
      | app j xs' m => exact satL_app hs.2 h

theorem satL_of {Γ : List Entry} {ds : List Def} {base : List Int} {n : Nat} (hn : base.length = n) (h : okDs n ds.reverse = true) : SatL Γ (runR Γ ds base) n ds.reverse := by
  rw [runR_eq, ← hn]
  exact satL_run Γ ds.reverse base (by rw [hn]; exact h)

theorem len8' {b : List Int} (h : b.length = 8) : ∃ a0 a1 a2 a3 a4 a5 a6 a7, b = [a0, a1, a2, a3, a4, a5, a6, a7] := len8 h

theorem over_scalar {x0 x1 x2 x3 x4 x5 x6 x7 : Int} (h : Dg 32 [x0, x1, x2, x3, x4, x5, x6, x7]) :
    fn ≤ num 32 [x0, x1, x2, x3, x4, x5, x6, x7] ↔ (x7 = 4294967295 ∧ x6 = 4294967295 ∧ x5 = 4294967295 ∧ (4294967294 < x4 ∨ (x4 = 4294967294 ∧ (3132021990 < x3 ∨ (x3 = 3132021990 ∧ (2940772411 < x2 ∨ (x2 = 2940772411 ∧ (3218235020 < x1 ∨ (x1 = 3218235020 ∧ 3493216577 ≤ x0)))))))))  := by
  have p0 := h x0 (by simp)
  have p1 := h x1 (by simp)
  have p2 := h x2 (by simp)
  have p3 := h x3 (by simp)
  have p4 := h x4 (by simp)
  have p5 := h x5 (by simp)
  have p6 := h x6 (by simp)
  have p7 := h x7 (by simp)
  simp only [num]
  unfold fn
  constructor
  · intro hv
    have e7 : x7 = 4294967295 := by omega
    subst e7
    have e6 : x6 = 4294967295 := by omega
    subst e6
    have e5 : x5 = 4294967295 := by omega
    subst e5
    refine ⟨rfl, rfl, rfl, ?_⟩
    by_cases c4 : 4294967294 < x4
    · exact .inl c4
    have e4 : x4 = 4294967294 := by omega
    subst e4
    refine .inr ⟨rfl, ?_⟩
    by_cases c3 : 3132021990 < x3
    · exact .inl c3
    have e3 : x3 = 3132021990 := by omega
    subst e3
    refine .inr ⟨rfl, ?_⟩
    by_cases c2 : 2940772411 < x2
    · exact .inl c2
    have e2 : x2 = 2940772411 := by omega
    subst e2
    refine .inr ⟨rfl, ?_⟩
    by_cases c1 : 3218235020 < x1
    · exact .inl c1
    have e1 : x1 = 3218235020 := by omega
    subst e1
    exact .inr ⟨rfl, by omega⟩
  · rintro ⟨rfl, rfl, rfl, c4 | ⟨rfl, c3 | ⟨rfl, c2 | ⟨rfl, c1 | ⟨rfl, c0⟩⟩⟩⟩⟩ <;> omega

def overB : BF := (.or (.or (.or (.or (.and (.and (.and (.eq (.var 7) (.lit 4294967295)) (.eq (.var 6) (.lit 4294967295))) (.eq (.var 5) (.lit 4294967295))) (.lt (.lit 4294967294) (.var 4))) (.and (.and (.and (.and (.eq (.var 7) (.lit 4294967295)) (.eq (.var 6) (.lit 4294967295))) (.eq (.var 5) (.lit 4294967295))) (.eq (.var 4) (.lit 4294967294))) (.lt (.lit 3132021990) (.var 3)))) (.and (.and (.and (.and (.and (.eq (.var 7) (.lit 4294967295)) (.eq (.var 6) (.lit 4294967295))) (.eq (.var 5) (.lit 4294967295))) (.eq (.var 4) (.lit 4294967294))) (.eq (.var 3) (.lit 3132021990))) (.lt (.lit 2940772411) (.var 2)))) (.and (.and (.and (.and (.and (.and (.eq (.var 7) (.lit 4294967295)) (.eq (.var 6) (.lit 4294967295))) (.eq (.var 5) (.lit 4294967295))) (.eq (.var 4) (.lit 4294967294))) (.eq (.var 3) (.lit 3132021990))) (.eq (.var 2) (.lit 2940772411))) (.lt (.lit 3218235020) (.var 1)))) (.and (.and (.and (.and (.and (.and (.and (.eq (.var 7) (.lit 4294967295)) (.eq (.var 6) (.lit 4294967295))) (.eq (.var 5) (.lit 4294967295))) (.eq (.var 4) (.lit 4294967294))) (.eq (.var 3) (.lit 3132021990))) (.eq (.var 2) (.lit 2940772411))) (.eq (.var 1) (.lit 3218235020))) (.not (.lt (.var 0) (.lit 3493216577)))))

theorem over_spec {V : Int} (v0 : 0 ≤ V) (v1 : V < 2 ^ 256) : e_over.F (dig 32 8 V) = [b01 (decide (fn ≤ V))] := by
  have hv := num_dig 32 8 V v0 v1
  have hd := dig_dg 32 8 V
  obtain ⟨x0, x1, x2, x3, x4, x5, x6, x7, hx⟩ := len8 (dig_length 32 8 V)
  rw [hx] at hv hd ⊢
  have hov := over_scalar hd
  rw [hv] at hov
  have hb : inB (List.replicate 8 ((0 : Int), (4294967295 : Int))) [x0, x1, x2, x3, x4, x5, x6, x7] := inB_rep rfl (hd.le (by decide))
  have hf := bfAt_sound (Γ := G_over) (R := Rtests) (RB := [.eq, .gt, .ge]) rEqGtGe bEqGtGe (defs := p_over.defs) (i := 34) (f := overB) (by kernel_rfl) (by kernel_rfl) rfl hb
  have hvars := vars_all G_over p_over.defs (l := [x0, x1, x2, x3, x4, x5, x6, x7]) (n := 8) rfl
  have eF : e_over.F [x0, x1, x2, x3, x4, x5, x6, x7] = [(runR G_over p_over.defs [x0, x1, x2, x3, x4, x5, x6, x7]).getD 34 0] := rfl
  rw [eF, hf]
  refine congrArg (fun b => [b01 b]) ?_
  generalize runR G_over p_over.defs [x0, x1, x2, x3, x4, x5, x6, x7] = E at *
  have e0 : (SI.var 0).val E = x0 := by have := congrArg (fun l => l.getD 0 0) hvars; exact this
  have e1 : (SI.var 1).val E = x1 := by have := congrArg (fun l => l.getD 1 0) hvars; exact this
  have e2 : (SI.var 2).val E = x2 := by have := congrArg (fun l => l.getD 2 0) hvars; exact this
  have e3 : (SI.var 3).val E = x3 := by have := congrArg (fun l => l.getD 3 0) hvars; exact this
  have e4 : (SI.var 4).val E = x4 := by have := congrArg (fun l => l.getD 4 0) hvars; exact this
  have e5 : (SI.var 5).val E = x5 := by have := congrArg (fun l => l.getD 5 0) hvars; exact this
  have e6 : (SI.var 6).val E = x6 := by have := congrArg (fun l => l.getD 6 0) hvars; exact this
  have e7 : (SI.var 7).val E = x7 := by have := congrArg (fun l => l.getD 7 0) hvars; exact this
  apply Bool.eq_iff_iff.2
  rw [decide_eq_true_eq, hov]
  have l : ∀ n : Int, (SI.lit n).val E = n := fun _ => rfl
  simp only [overB, BF.ev, Bool.or_eq_true, Bool.and_eq_true, decide_eq_true_eq, Bool.not_eq_true', decide_eq_false_iff_not, Int.not_lt, e0, e1, e2, e3, e4, e5, e6, e7, l]
  constructor
  · rintro ((((⟨⟨⟨a, b⟩, c⟩, d⟩ | ⟨⟨⟨⟨a, b⟩, c⟩, d⟩, e⟩) | ⟨⟨⟨⟨⟨a, b⟩, c⟩, d⟩, e⟩, f⟩) | ⟨⟨⟨⟨⟨⟨a, b⟩, c⟩, d⟩, e⟩, f⟩, g⟩) | ⟨⟨⟨⟨⟨⟨⟨a, b⟩, c⟩, d⟩, e⟩, f⟩, g⟩, h⟩)
    · exact ⟨a, b, c, .inl d⟩
    · exact ⟨a, b, c, .inr ⟨d, .inl e⟩⟩
    · exact ⟨a, b, c, .inr ⟨d, .inr ⟨e, .inl f⟩⟩⟩
    · exact ⟨a, b, c, .inr ⟨d, .inr ⟨e, .inr ⟨f, .inl g⟩⟩⟩⟩
    · exact ⟨a, b, c, .inr ⟨d, .inr ⟨e, .inr ⟨f, .inr ⟨g, h⟩⟩⟩⟩⟩
  · rintro ⟨a, b, c, d | ⟨d, e | ⟨e, f | ⟨f, g | ⟨g, h⟩⟩⟩⟩⟩
    · exact .inl (.inl (.inl (.inl ⟨⟨⟨a, b⟩, c⟩, d⟩)))
    · exact .inl (.inl (.inl (.inr ⟨⟨⟨⟨a, b⟩, c⟩, d⟩, e⟩)))
    · exact .inl (.inl (.inr ⟨⟨⟨⟨⟨a, b⟩, c⟩, d⟩, e⟩, f⟩))
    · exact .inl (.inr ⟨⟨⟨⟨⟨⟨a, b⟩, c⟩, d⟩, e⟩, f⟩, g⟩)
    · exact .inr ⟨⟨⟨⟨⟨⟨⟨a, b⟩, c⟩, d⟩, e⟩, f⟩, g⟩, h⟩

theorem redu_spec {V o : Int} (v0 : 0 ≤ V) (v1 : V < 2 ^ 256) (o0 : 0 ≤ o) (o1 : o ≤ 1) : e_redu.F (dig 32 8 V ++ [o]) = dig 32 8 (V + 432420386565659656852420866394968145599 * o) := by
  have hb : inB (List.replicate 8 ((0 : Int), (4294967295 : Int)) ++ [(0, 1)]) (dig 32 8 V ++ [o]) := inB_append rfl (inB_rep rfl ((dig_dg 32 8 V).le (by decide))) (inB_one o0 o1)
  have h := redig (Γ := G_redu) (R := []) (rules_nil _) (ds := p_redu.defs) (w := 32) (outs := p_redu.outs) (L := linOf 32 (-1) (vars 0 8) ++ linOf 0 (-432420386565659656852420866394968145599) (vars 8 1)) (by kernel_rfl) rfl hb
  rw [linV_append, linOf_val, linOf_val, vars_base0 G_redu _ (dig_length 32 8 V), vars_last G_redu _ (l := [o]) (n := 1) (dig_length 32 8 V) rfl, num_dig 32 8 V v0 v1] at h
  rw [show -(-1 * V + -432420386565659656852420866394968145599 * num 0 [o]) = V + 432420386565659656852420866394968145599 * o by simp only [num]; omega] at h
  exact h

theorem sputb_spec {old : List Int} {V : Int} (h0 : 0 ≤ V) (h1 : V < 2 ^ 256) (ho : old.length = 32) (hod : Dg 8 old) : e_sputb.F (dig 32 8 V ++ old) = (dig 8 32 V).reverse := by
  have hlen : (dig 32 8 V ++ old).length = (List.replicate 8 ((0 : Int), (4294967295 : Int)) ++ List.replicate 32 (0, 255)).length := by simp [ho, dig_length]
  have hb : inB (List.replicate 8 ((0 : Int), (4294967295 : Int)) ++ List.replicate 32 (0, 255)) (dig 32 8 V ++ old) := inB_append rfl (inB_rep rfl ((dig_dg 32 8 V).le (by decide))) (inB_rep ho (hod.le (by decide)))
  have h := redig (Γ := G_sputb) (R := []) (rules_nil _) (ds := p_sputb.defs) (w := 8) (outs := p_sputb.outs.reverse) (L := linOf 32 (-1) (vars 0 8)) (by kernel_rfl) hlen hb
  rw [linOf_val, vars_base0 G_sputb _ (dig_length 32 8 V), num_dig 32 8 V h0 h1] at h
  rw [show -(-1 * V) = V by omega, List.map_reverse] at h
  have := congrArg List.reverse h
  rw [List.reverse_reverse] at this
  exact this

theorem sbytes_out' (e0 : Entry) (a0 a1 a2 a3 a4 a5 a6 a7 : Int) : p_sbytes.out [e0] [a0, a1, a2, a3, a4, a5, a6, a7] = fit 32 (e0.F ([a0, a1, a2, a3, a4, a5, a6, a7] ++ List.replicate 32 0)) := by kernel_rfl

theorem sbytes_out {l : List Int} (h : l.length = 8) : e_sbytes.F l = fit 32 (e_sputb.F (l ++ List.replicate 32 0)) := by
  obtain ⟨a0, a1, a2, a3, a4, a5, a6, a7, rfl⟩ := len8 h
  exact sbytes_out' e_sputb a0 a1 a2 a3 a4 a5 a6 a7

theorem sbytes_spec {V : Int} (h0 : 0 ≤ V) (h1 : V < 2 ^ 256) : e_sbytes.F (dig 32 8 V) = (dig 8 32 V).reverse := by
  rw [sbytes_out (dig_length 32 8 V), sputb_spec h0 h1 (by simp) (zeros_dg 8 32), fit_eq (by simp [dig_length])]

theorem ruleOver : RuleOk e_over (.out (List.replicate 8 (0, 4294967295)) [(0, 1)]) := by
  intro xs hl hb
  have hd : Dg 32 xs := fun x hx => by
    obtain ⟨i, hi⟩ := List.getElem?_of_mem hx
    have hlt := (List.getElem?_eq_some_iff.1 hi).1
    have := hb i (0, 4294967295) (by rw [List.getElem?_replicate, if_pos (by simp at hl; omega)])
    rw [List.getD, hi] at this
    simp only [Option.getD_some] at this
    omega
  have hn := num_bounds hd
  have hl8 : xs.length = 8 := by simpa using hl
  rw [hl8] at hn
  have := over_spec hn.1 hn.2
  have e : dig 32 8 (num 32 xs) = xs := by have := dig_num hd; rwa [hl8] at this
  rw [e] at this
  rw [this]
  cases decide (fn ≤ num 32 xs) <;> exact inB_one (by decide) (by decide)

theorem ruleRedu : RuleOk e_redu (.out (List.replicate 8 (0, 4294967295) ++ [(0, 1)]) (List.replicate 8 (0, 4294967295))) := by
  intro xs hl hb
  match xs, hl with
  | [a0, a1, a2, a3, a4, a5, a6, a7, o], _ =>
    have hd : Dg 32 [a0, a1, a2, a3, a4, a5, a6, a7] := fun x hx => by
      obtain ⟨i, hi⟩ := List.getElem?_of_mem hx
      have hlt : i < 8 := (List.getElem?_eq_some_iff.1 hi).1
      have := hb i (0, 4294967295) (by rw [List.getElem?_append_left (by simpa using hlt), List.getElem?_replicate, if_pos hlt])
      rw [show [a0, a1, a2, a3, a4, a5, a6, a7, o] = [a0, a1, a2, a3, a4, a5, a6, a7] ++ [o] from rfl, List.getD, List.getElem?_append_left (by simpa using hlt), hi] at this
      simp only [Option.getD_some] at this
      omega
    have ho := hb 8 (0, 1) rfl
    have ho' : 0 ≤ o ∧ o ≤ 1 := ho
    have hn := num_bounds hd
    have := redu_spec hn.1 hn.2 ho'.1 ho'.2
    have e : dig 32 8 (num 32 [a0, a1, a2, a3, a4, a5, a6, a7]) = [a0, a1, a2, a3, a4, a5, a6, a7] := dig_num hd
    rw [e] at this
    rw [show [a0, a1, a2, a3, a4, a5, a6, a7, o] = [a0, a1, a2, a3, a4, a5, a6, a7] ++ [o] from rfl, this]
    exact inB_rep (dig_length 32 8 _) ((dig_dg 32 8 _).le (by decide))

def ssetbW : List SI := [.var 49, .var 59, .var 69, .var 79, .var 89, .var 99, .var 109, .var 119]

theorem ssetb_spec {old bs : List Int} (ho : old.length = 8) (hod : Dg 32 old) (hl : bs.length = 32) (hd : Dg 8 bs) : e_ssetb.F (old ++ bs) = dig 32 8 (be bs % fn) ++ [b01 (decide (fn ≤ be bs))] := by
  have hlen : (old ++ bs).length = (List.replicate 8 ((0 : Int), (4294967295 : Int)) ++ List.replicate 32 (0, 255)).length := by simp [ho, hl]
  have hb : inB (List.replicate 8 ((0 : Int), (4294967295 : Int)) ++ List.replicate 32 (0, 255)) (old ++ bs) := inB_append (by simpa using ho) (inB_rep ho (hod.le (by decide))) (inB_rep hl (hd.le (by decide)))
  obtain ⟨v0, v1⟩ := be_bounds hl hd
  have h := redig (Γ := G_ssetb) (R := [.out (List.replicate 8 (0, 4294967295)) [(0, 1)], .out (List.replicate 8 (0, 4294967295) ++ [(0, 1)]) (List.replicate 8 (0, 4294967295))]) (rules_cons ruleOver (rules_cons ruleRedu (rules_nil _))) (ds := p_ssetb.defs) (w := 32) (outs := ssetbW) (L := linOf 8 (-1) (vars 8 32).reverse) (by kernel_rfl) hlen hb
  rw [linOf_val, List.map_reverse, vars_last G_ssetb _ ho hl] at h
  rw [show -(-1 * num 8 bs.reverse) = be bs by unfold be; omega] at h
  have hs := satL_of (Γ := G_ssetb) (ds := p_ssetb.defs) (base := old ++ bs) (n := 40) (by simp [ho, hl]) (by kernel_rfl)
  have a120 := satL_app (i := 120) (j := 0) (m := 1) (xs := ssetbW) hs (by kernel_rfl)
  have a121 := satL_app (i := 121) (j := 1) (m := 8) (xs := ssetbW ++ [.var 120]) hs (by kernel_rfl)
  have hW : ssetbW.map (·.val (runR G_ssetb p_ssetb.defs (old ++ bs))) = dig 32 8 (be bs) := h
  have e : e_ssetb.F (old ++ bs) = (vars 121 8).map (·.val (runR G_ssetb p_ssetb.defs (old ++ bs))) ++ (vars 120 1).map (·.val (runR G_ssetb p_ssetb.defs (old ++ bs))) := by
    rw [← List.map_append]
    rfl
  rw [e, a121, a120, List.map_append, hW]
  have g0 : G_ssetb.getD 0 noEntry = e_over := rfl
  have g1 : G_ssetb.getD 1 noEntry = e_redu := rfl
  rw [g0] at a120 ⊢
  rw [g1, over_spec v0 v1]
  have e120 : [SI.var 120].map (·.val (runR G_ssetb p_ssetb.defs (old ++ bs))) = [b01 (decide (fn ≤ be bs))] := by
    have := a120
    rw [hW, over_spec v0 v1] at this
    exact this
  rw [e120, redu_spec v0 v1 (by cases decide (fn ≤ be bs) <;> decide) (by cases decide (fn ≤ be bs) <;> decide), fit_eq (dig_length 32 8 _), fit_eq (n := 1) rfl]
  refine congrArg (fun l => l ++ [b01 (decide (fn ≤ be bs))]) ?_
  by_cases hh : fn ≤ be bs
  · have hm : be bs % fn = be bs - fn := by
      rw [← Int.sub_emod_right]
      exact Int.emod_eq_of_lt (by omega) (by unfold fn; omega)
    rw [hm, show b01 (decide (fn ≤ be bs)) = 1 by simp [b01, hh]]
    rw [show be bs + 432420386565659656852420866394968145599 * 1 = (be bs - fn) + 2 ^ (32 * 8) * 1 by unfold fn; omega, dig_add_mul]
  · rw [Int.emod_eq_of_lt v0 (by omega), show b01 (decide (fn ≤ be bs)) = 0 by simp [b01, hh], Int.mul_zero, Int.add_zero]

theorem sset_out' (e0 e1 : Entry) (b0 b1 b2 b3 b4 b5 b6 b7 b8 b9 b10 b11 b12 b13 b14 b15 b16 b17 b18 b19 b20 b21 b22 b23 b24 b25 b26 b27 b28 b29 b30 b31 : Int) : p_sset.out [e0, e1] [b0, b1, b2, b3, b4, b5, b6, b7, b8, b9, b10, b11, b12, b13, b14, b15, b16, b17, b18, b19, b20, b21, b22, b23, b24, b25, b26, b27, b28, b29, b30, b31] = (if (fit 9 (e0.F (List.replicate 8 0 ++ [b0, b1, b2, b3, b4, b5, b6, b7, b8, b9, b10, b11, b12, b13, b14, b15, b16, b17, b18, b19, b20, b21, b22, b23, b24, b25, b26, b27, b28, b29, b30, b31]))).getD 8 0 = 0 then 0 else 1) :: fit 32 (e1.F (fit 8 (e0.F (List.replicate 8 0 ++ [b0, b1, b2, b3, b4, b5, b6, b7, b8, b9, b10, b11, b12, b13, b14, b15, b16, b17, b18, b19, b20, b21, b22, b23, b24, b25, b26, b27, b28, b29, b30, b31])))) := by kernel_rfl

end Go.Proofs.YtfeancgmmonebaaDoor.Sx
