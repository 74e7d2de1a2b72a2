/-
  What functions on digits come to. Conditions: none; each theorem bears its own.
-/
import Derived.Test.YtfeancgmmonebaaSzb
namespace Go.Proofs.Ytfeancgmmonebaa.Sx
open Go Go.Proofs

theorem inB_nil (l : List Int) : inB [] l := fun i b h => by simp at h

theorem inB_rep {m : Int} : ∀ {n : Nat} {l : List Int}, l.length = n → (∀ x ∈ l, 0 ≤ x ∧ x ≤ m) → inB (List.replicate n (0, m)) l
  | 0, l, _, _ => by intro i b h; simp at h
  | n + 1, x :: l, hl, h => by
    intro i b hb
    match i with
    | 0 => cases hb; exact h x List.mem_cons_self
    | i + 1 => exact inB_rep (n := n) (l := l) (by simpa using hl) (fun y hy => h y (List.mem_cons_of_mem _ hy)) i b hb

theorem inB_append {A B : List (Int × Int)} {l r : List Int} (hl : l.length = A.length) (ha : inB A l) (hb : inB B r) : inB (A ++ B) (l ++ r) := by
  intro i b h
  rcases Nat.lt_or_ge i A.length with hi | hi
  · rw [List.getElem?_append_left hi] at h
    have := ha i b h
    rw [List.getD, List.getElem?_append_left (by omega)]
    exact this
  · rw [List.getElem?_append_right hi] at h
    have := hb (i - A.length) b h
    rw [List.getD, List.getElem?_append_right (by omega), hl]
    exact this

theorem inB_one {lo hi x : Int} (h0 : lo ≤ x) (h1 : x ≤ hi) : inB [(lo, hi)] [x] := by
  intro i b h
  match i with
  | 0 => cases h; exact ⟨h0, h1⟩
  | i + 1 => simp at h

theorem Dg.le {w : Nat} {l : List Int} (h : Dg w l) {m : Int} (hm : 2 ^ w ≤ m + 1) : ∀ x ∈ l, 0 ≤ x ∧ x ≤ m := fun x hx => by
  obtain ⟨h0, h1⟩ := h x hx
  exact ⟨h0, by omega⟩

theorem runR_pre (Γ : List Entry) (ds : List Def) (e : List Int) : ∃ s, runR Γ ds e = e ++ s := by
  rw [runR_eq]
  exact runL_prefix Γ _ e

theorem vars_base (Γ : List Entry) (ds : List Def) {a l b : List Int} {n i : Nat} (ha : a.length = i) (hl : l.length = n) : (vars i n).map (·.val (runR Γ ds (a ++ (l ++ b)))) = l := by
  obtain ⟨s, hs⟩ := runR_pre Γ ds (a ++ (l ++ b))
  rw [hs, vars_val, List.append_assoc, List.append_assoc, List.drop_left' ha, fit_append hl]

theorem vars_base0 (Γ : List Entry) (ds : List Def) {l b : List Int} {n : Nat} (hl : l.length = n) : (vars 0 n).map (·.val (runR Γ ds (l ++ b))) = l :=
  vars_base Γ ds (a := []) rfl hl

theorem vars_last (Γ : List Entry) (ds : List Def) {a l : List Int} {n i : Nat} (ha : a.length = i) (hl : l.length = n) : (vars i n).map (·.val (runR Γ ds (a ++ l))) = l := by
  have := vars_base Γ ds (b := []) ha hl
  rwa [List.append_nil] at this

theorem vars_all (Γ : List Entry) (ds : List Def) {l : List Int} {n : Nat} (hl : l.length = n) : (vars 0 n).map (·.val (runR Γ ds l)) = l := by
  have := vars_base0 Γ ds (b := []) hl
  rwa [List.append_nil] at this

def outIns (w : Nat) (xs : List SI) : List (SI × Int × Int) := xs.map fun x => (x, 0, 2 ^ w - 1)

/-- Digits that are, modulo a power of two, what a sum of numbers is. -/
theorem redig {Γ : List Entry} {R : List ARule} (hR : ∀ j, RuleOk (Γ.getD j noEntry) (R.getD j .none)) {ds : List Def} {bnds : List (Int × Int)} {w : Nat} {outs : List SI} {L : Lin}
    (h : aiChk R bnds ds { ins := outIns w outs, mods := [(2 ^ (w * outs.length), linOf w 1 outs ++ L)] } = true) {base : List Int} (hl : base.length = bnds.length) (hb : inB bnds base) :
    outs.map (·.val (runR Γ ds base)) = dig w outs.length (-linV (runR Γ ds base) L) := by
  obtain ⟨_, h1, _, h3⟩ := aiChk_sound hR h hl hb
  have hd : Dg w (outs.map (·.val (runR Γ ds base))) := by
    intro x hx
    obtain ⟨y, hy, rfl⟩ := List.mem_map.1 hx
    have := h1 (y, 0, 2 ^ w - 1) (List.mem_map.2 ⟨y, hy, rfl⟩)
    simp only at this
    omega
  have hm := h3 _ List.mem_cons_self
  rw [linV_append, linOf_val, Int.one_mul] at hm
  have := dig_eq_mod (V := -linV (runR Γ ds base) L) hd (by rw [List.length_map, Int.sub_neg]; exact hm)
  rwa [List.length_map] at this

/-- Bounds of a number that a run leaves. -/
theorem inRun {Γ : List Entry} {R : List ARule} (hR : ∀ j, RuleOk (Γ.getD j noEntry) (R.getD j .none)) {ds : List Def} {bnds : List (Int × Int)} {x : SI} {lo hi : Int}
    (h : aiChk R bnds ds { ins := [(x, lo, hi)] } = true) {base : List Int} (hl : base.length = bnds.length) (hb : inB bnds base) : lo ≤ x.val (runR Γ ds base) ∧ x.val (runR Γ ds base) ≤ hi :=
  (aiChk_sound hR h hl hb).2.1 _ List.mem_cons_self

def be (l : List Int) : Int := num 8 l.reverse

/-- The prime of the field; the order of the group. -/
def fp : Int := 115792089237316195423570985008687907853269984665640564039457584007908834671663
def fn : Int := 115792089237316195423570985008687907852837564279074904382605163141518161494337

theorem Dg.reverse {w : Nat} {l : List Int} (h : Dg w l) : Dg w l.reverse := fun x hx => h x (List.mem_reverse.1 hx)
theorem Dg.append {w : Nat} {l r : List Int} (h : Dg w l) (g : Dg w r) : Dg w (l ++ r) := fun x hx => by
  rcases List.mem_append.1 hx with hx | hx
  · exact h x hx
  · exact g x hx

theorem be_bounds {l : List Int} (hl : l.length = 32) (h : Dg 8 l) : 0 ≤ be l ∧ be l < 2 ^ 256 := by
  have := num_bounds h.reverse
  rw [List.length_reverse, hl] at this
  exact this

def Rtests : List ARule := [bool2, bool2, bool2]
theorem rEqGtGe : ∀ j, RuleOk ([e_eq, e_gt, e_ge].getD j noEntry) (Rtests.getD j .none) := rules_cons ruleEq (rules_cons ruleGt (rules_cons ruleGe (rules_nil _)))
theorem bEqGtGe : ∀ j, BRuleOk ([e_eq, e_gt, e_ge].getD j noEntry) (([.eq, .gt, .ge] : List BRule).getD j .none) := brules_cons bruleEq (brules_cons bruleGt (brules_cons bruleGe (brules_nil _)))
theorem rEqGt : ∀ j, RuleOk ([e_eq, e_gt].getD j noEntry) (([bool2, bool2] : List ARule).getD j .none) := rules_cons ruleEq (rules_cons ruleGt (rules_nil _))
theorem bEqGt : ∀ j, BRuleOk ([e_eq, e_gt].getD j noEntry) (([.eq, .gt] : List BRule).getD j .none) := brules_cons bruleEq (brules_cons bruleGt (brules_nil _))

/-! ## Words and bytes -/

theorem uof_spec {bs : List Int} (hl : bs.length = 32) (hd : Dg 8 bs) : e_uof.F bs = dig 64 4 (be bs) := by
  have hb : inB (List.replicate 32 ((0 : Int), (255 : Int))) bs := inB_rep hl (hd.le (by decide))
  have h := redig (Γ := G_uof) (R := []) (rules_nil _) (ds := p_uof.defs) (bnds := List.replicate 32 (0, 255)) (w := 64) (outs := p_uof.outs) (L := linOf 8 (-1) (vars 0 32).reverse) (by kernel_rfl) (by simpa using hl) hb
  rw [linOf_val, List.map_reverse, vars_all G_uof _ hl] at h
  rw [show -(-1 * num 8 bs.reverse) = be bs by unfold be; omega] at h
  exact h

theorem ub_spec {V : Int} (h0 : 0 ≤ V) (h1 : V < 2 ^ 256) : e_ub.F (dig 64 4 V) = (dig 8 32 V).reverse := by
  have hb : inB (List.replicate 4 ((0 : Int), (18446744073709551615 : Int))) (dig 64 4 V) := inB_rep rfl ((dig_dg 64 4 V).le (by decide))
  have h := redig (Γ := G_ub) (R := []) (rules_nil _) (ds := p_ub.defs) (bnds := List.replicate 4 (0, 18446744073709551615)) (w := 8) (outs := p_ub.outs.reverse) (L := linOf 64 (-1) (vars 0 4)) (by kernel_rfl) rfl hb
  rw [linOf_val, vars_all G_ub _ (dig_length 64 4 V), num_dig 64 4 V h0 h1] at h
  rw [show -(-1 * V) = V by omega, List.map_reverse] at h
  have := congrArg List.reverse h
  rw [List.reverse_reverse] at this
  exact this

theorem uless_spec {A B : Int} (a0 : 0 ≤ A) (a1 : A < 2 ^ 256) (b0 : 0 ≤ B) (b1 : B < 2 ^ 256) : e_uless.F (dig 64 4 A ++ dig 64 4 B) = [b01 (decide (A < B))] := by
  have ha := num_dig 64 4 A a0 a1
  have hb := num_dig 64 4 B b0 b1
  have da := dig_dg 64 4 A
  have db := dig_dg 64 4 B
  have la := dig_length 64 4 A
  have lb := dig_length 64 4 B
  generalize dig 64 4 A = xa at *
  generalize dig 64 4 B = xb at *
  match xa, la, xb, lb with
  | [a0, a1, a2, a3], _, [b0, b1, b2, b3], _ =>
    have p0 := da a0 (by simp)
    have p1 := da a1 (by simp)
    have p2 := da a2 (by simp)
    have p3 := da a3 (by simp)
    have q0 := db b0 (by simp)
    have q1 := db b1 (by simp)
    have q2 := db b2 (by simp)
    have q3 := db b3 (by simp)
    show [if a3 = b3 then if a2 = b2 then if a1 = b1 then if a0 = b0 then 0 else (if a0 < b0 then 1 else 0) else (if a1 < b1 then 1 else 0) else (if a2 < b2 then 1 else 0) else (if a3 < b3 then 1 else 0)] = _
    simp only [num] at ha hb
    unfold b01
    congr 1
    by_cases h : A < B
    · rw [show (if decide (A < B) = true then (1 : Int) else 0) = 1 from if_pos (by simpa using h)]
      split
      · split
        · split
          · split
            · omega
            · rw [if_pos (by omega)]
          · rw [if_pos (by omega)]
        · rw [if_pos (by omega)]
      · rw [if_pos (by omega)]
    · rw [show (if decide (A < B) = true then (1 : Int) else 0) = 0 from if_neg (by simpa using h)]
      split
      · split
        · split
          · split
            · rfl
            · rw [if_neg (by omega)]
          · rw [if_neg (by omega)]
        · rw [if_neg (by omega)]
      · rw [if_neg (by omega)]

theorem fprime_spec : e_fprime.F [] = dig 64 4 fp := by kernel_rfl
theorem order_spec : e_order.F [] = dig 64 4 fn := by kernel_rfl

end Go.Proofs.Ytfeancgmmonebaa.Sx
