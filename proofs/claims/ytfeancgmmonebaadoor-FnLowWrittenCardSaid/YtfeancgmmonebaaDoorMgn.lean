/-
  Questions after field elements, scalars and words: what they come to. Conditions: none; each theorem bears its own.
-/
import Derived.Test.YtfeancgmmonebaaDoorMgm
import Derived.Deep.Cut
namespace Go.Proofs.YtfeancgmmonebaaDoor.Sx
open Go Go.Proofs

theorem lit_val (E : List Int) (n : Int) : (SI.lit n).val E = n := rfl

def iszB : BF := (.and (.and (.and (.and (.and (.and (.and (.and (.and (.eq (.var 0) (.lit 0)) (.eq (.var 1) (.lit 0))) (.eq (.var 2) (.lit 0))) (.eq (.var 3) (.lit 0))) (.eq (.var 4) (.lit 0))) (.eq (.var 5) (.lit 0))) (.eq (.var 6) (.lit 0))) (.eq (.var 7) (.lit 0))) (.eq (.var 8) (.lit 0))) (.eq (.var 9) (.lit 0)))

def isoB : BF := (.and (.and (.and (.and (.and (.and (.and (.and (.and (.eq (.var 0) (.lit 1)) (.eq (.var 1) (.lit 0))) (.eq (.var 2) (.lit 0))) (.eq (.var 3) (.lit 0))) (.eq (.var 4) (.lit 0))) (.eq (.var 5) (.lit 0))) (.eq (.var 6) (.lit 0))) (.eq (.var 7) (.lit 0))) (.eq (.var 8) (.lit 0))) (.eq (.var 9) (.lit 0)))

theorem far_words {x0 x1 x2 x3 x4 x5 x6 x7 x8 x9 : Int} (p0 : 0 ≤ x0 ∧ x0 < 2 ^ 26) (p1 : 0 ≤ x1 ∧ x1 < 2 ^ 26) (p2 : 0 ≤ x2 ∧ x2 < 2 ^ 26) (p3 : 0 ≤ x3 ∧ x3 < 2 ^ 26) (p4 : 0 ≤ x4 ∧ x4 < 2 ^ 26) (p5 : 0 ≤ x5 ∧ x5 < 2 ^ 26) (p6 : 0 ≤ x6 ∧ x6 < 2 ^ 26) (p7 : 0 ≤ x7 ∧ x7 < 2 ^ 26) (p8 : 0 ≤ x8 ∧ x8 < 2 ^ 26) (p9 : 0 ≤ x9 ∧ x9 < 2 ^ 26) :
    (((((((((0 < x9 ∨ (x9 = 0 ∧ 0 < x8)) ∨ ((x9 = 0 ∧ x8 = 0) ∧ 0 < x7)) ∨ (((x9 = 0 ∧ x8 = 0) ∧ x7 = 0) ∧ 0 < x6)) ∨ ((((x9 = 0 ∧ x8 = 0) ∧ x7 = 0) ∧ x6 = 0) ∧ 0 < x5)) ∨ (((((x9 = 0 ∧ x8 = 0) ∧ x7 = 0) ∧ x6 = 0) ∧ x5 = 0) ∧ 21319971 < x4)) ∨ ((((((x9 = 0 ∧ x8 = 0) ∧ x7 = 0) ∧ x6 = 0) ∧ x5 = 0) ∧ x4 = 21319971) ∧ 6636253 < x3)) ∨ (((((((x9 = 0 ∧ x8 = 0) ∧ x7 = 0) ∧ x6 = 0) ∧ x5 = 0) ∧ x4 = 21319971) ∧ x3 = 6636253) ∧ 33309698 < x2)) ∨ ((((((((x9 = 0 ∧ x8 = 0) ∧ x7 = 0) ∧ x6 = 0) ∧ x5 = 0) ∧ x4 = 21319971) ∧ x3 = 6636253) ∧ x2 = 33309698) ∧ 57171083 < x1)) ∨ (((((((((x9 = 0 ∧ x8 = 0) ∧ x7 = 0) ∧ x6 = 0) ∧ x5 = 0) ∧ x4 = 21319971) ∧ x3 = 6636253) ∧ x2 = 33309698) ∧ x1 = 57171083) ∧ 63552238 ≤ x0)) ↔ fp - fn ≤ num 26 [x0, x1, x2, x3, x4, x5, x6, x7, x8, x9] := by
  simp only [num]
  unfold fp fn
  constructor
  · rintro (((((((((l | ⟨e9, l⟩) | ⟨⟨e9, e8⟩, l⟩) | ⟨⟨⟨e9, e8⟩, e7⟩, l⟩) | ⟨⟨⟨⟨e9, e8⟩, e7⟩, e6⟩, l⟩) | ⟨⟨⟨⟨⟨e9, e8⟩, e7⟩, e6⟩, e5⟩, l⟩) | ⟨⟨⟨⟨⟨⟨e9, e8⟩, e7⟩, e6⟩, e5⟩, e4⟩, l⟩) | ⟨⟨⟨⟨⟨⟨⟨e9, e8⟩, e7⟩, e6⟩, e5⟩, e4⟩, e3⟩, l⟩) | ⟨⟨⟨⟨⟨⟨⟨⟨e9, e8⟩, e7⟩, e6⟩, e5⟩, e4⟩, e3⟩, e2⟩, l⟩) | ⟨⟨⟨⟨⟨⟨⟨⟨⟨e9, e8⟩, e7⟩, e6⟩, e5⟩, e4⟩, e3⟩, e2⟩, e1⟩, l⟩) <;> omega
  · intro h
    apply Decidable.byContradiction
    intro hn
    simp only [not_or, not_and, Int.not_lt, Int.not_le] at hn
    obtain ⟨⟨⟨⟨⟨⟨⟨⟨⟨n9, n8⟩, n7⟩, n6⟩, n5⟩, n4⟩, n3⟩, n2⟩, n1⟩, n0⟩ := hn
    have e9 : x9 = 0 := by omega
    have m8 := n8 (e9)
    have e8 : x8 = 0 := by omega
    have m7 := n7 (⟨e9, e8⟩)
    have e7 : x7 = 0 := by omega
    have m6 := n6 (⟨⟨e9, e8⟩, e7⟩)
    have e6 : x6 = 0 := by omega
    have m5 := n5 (⟨⟨⟨e9, e8⟩, e7⟩, e6⟩)
    have e5 : x5 = 0 := by omega
    have m4 := n4 (⟨⟨⟨⟨e9, e8⟩, e7⟩, e6⟩, e5⟩)
    have e4 : x4 = 21319971 := by omega
    have m3 := n3 (⟨⟨⟨⟨⟨e9, e8⟩, e7⟩, e6⟩, e5⟩, e4⟩)
    have e3 : x3 = 6636253 := by omega
    have m2 := n2 (⟨⟨⟨⟨⟨⟨e9, e8⟩, e7⟩, e6⟩, e5⟩, e4⟩, e3⟩)
    have e2 : x2 = 33309698 := by omega
    have m1 := n1 (⟨⟨⟨⟨⟨⟨⟨e9, e8⟩, e7⟩, e6⟩, e5⟩, e4⟩, e3⟩, e2⟩)
    have e1 : x1 = 57171083 := by omega
    have m0 := n0 (⟨⟨⟨⟨⟨⟨⟨⟨e9, e8⟩, e7⟩, e6⟩, e5⟩, e4⟩, e3⟩, e2⟩, e1⟩)
    omega

def farB : BF := (.or (.or (.or (.or (.or (.or (.or (.or (.or (.lt (.lit 0) (.var 9)) (.and (.eq (.var 9) (.lit 0)) (.lt (.lit 0) (.var 8)))) (.and (.and (.eq (.var 9) (.lit 0)) (.eq (.var 8) (.lit 0))) (.lt (.lit 0) (.var 7)))) (.and (.and (.and (.eq (.var 9) (.lit 0)) (.eq (.var 8) (.lit 0))) (.eq (.var 7) (.lit 0))) (.lt (.lit 0) (.var 6)))) (.and (.and (.and (.and (.eq (.var 9) (.lit 0)) (.eq (.var 8) (.lit 0))) (.eq (.var 7) (.lit 0))) (.eq (.var 6) (.lit 0))) (.lt (.lit 0) (.var 5)))) (.and (.and (.and (.and (.and (.eq (.var 9) (.lit 0)) (.eq (.var 8) (.lit 0))) (.eq (.var 7) (.lit 0))) (.eq (.var 6) (.lit 0))) (.eq (.var 5) (.lit 0))) (.lt (.lit 21319971) (.var 4)))) (.and (.and (.and (.and (.and (.and (.eq (.var 9) (.lit 0)) (.eq (.var 8) (.lit 0))) (.eq (.var 7) (.lit 0))) (.eq (.var 6) (.lit 0))) (.eq (.var 5) (.lit 0))) (.eq (.var 4) (.lit 21319971))) (.lt (.lit 6636253) (.var 3)))) (.and (.and (.and (.and (.and (.and (.and (.eq (.var 9) (.lit 0)) (.eq (.var 8) (.lit 0))) (.eq (.var 7) (.lit 0))) (.eq (.var 6) (.lit 0))) (.eq (.var 5) (.lit 0))) (.eq (.var 4) (.lit 21319971))) (.eq (.var 3) (.lit 6636253))) (.lt (.lit 33309698) (.var 2)))) (.and (.and (.and (.and (.and (.and (.and (.and (.eq (.var 9) (.lit 0)) (.eq (.var 8) (.lit 0))) (.eq (.var 7) (.lit 0))) (.eq (.var 6) (.lit 0))) (.eq (.var 5) (.lit 0))) (.eq (.var 4) (.lit 21319971))) (.eq (.var 3) (.lit 6636253))) (.eq (.var 2) (.lit 33309698))) (.lt (.lit 57171083) (.var 1)))) (.and (.and (.and (.and (.and (.and (.and (.and (.and (.eq (.var 9) (.lit 0)) (.eq (.var 8) (.lit 0))) (.eq (.var 7) (.lit 0))) (.eq (.var 6) (.lit 0))) (.eq (.var 5) (.lit 0))) (.eq (.var 4) (.lit 21319971))) (.eq (.var 3) (.lit 6636253))) (.eq (.var 2) (.lit 33309698))) (.eq (.var 1) (.lit 57171083))) (.not (.lt (.var 0) (.lit 63552238)))))

def siszB : BF := (.and (.and (.and (.and (.and (.and (.and (.eq (.var 0) (.lit 0)) (.eq (.var 1) (.lit 0))) (.eq (.var 2) (.lit 0))) (.eq (.var 3) (.lit 0))) (.eq (.var 4) (.lit 0))) (.eq (.var 5) (.lit 0))) (.eq (.var 6) (.lit 0))) (.eq (.var 7) (.lit 0)))

theorem sisz_spec {V : Int} (v0 : 0 ≤ V) (v1 : V < 2 ^ 256) : e_sisz.F (dig 32 8 V) = [b01 (decide (V = 0))] := by
  have hv := num_dig 32 8 V v0 v1
  have hd := dig_dg 32 8 V
  obtain ⟨x0, x1, x2, x3, x4, x5, x6, x7, hx⟩ := len8 (dig_length 32 8 V)
  rw [hx] at hv hd ⊢
  have px0 := hd x0 (by simp)
  have px1 := hd x1 (by simp)
  have px2 := hd x2 (by simp)
  have px3 := hd x3 (by simp)
  have px4 := hd x4 (by simp)
  have px5 := hd x5 (by simp)
  have px6 := hd x6 (by simp)
  have px7 := hd x7 (by simp)
  have hb : inB (List.replicate 8 ((0 : Int), (4294967295 : Int))) [x0, x1, x2, x3, x4, x5, x6, x7] := inB_rep rfl (hd.le (by decide))
  have hf := zAt_sound (Γ := G_sisz) (R := []) (rules_nil _) (defs := p_sisz.defs) (i := 14) (f := siszB) (by kernel_rfl) (by kernel_rfl) rfl hb
  have eF : e_sisz.F [x0, x1, x2, x3, x4, x5, x6, x7] = [if (runR G_sisz p_sisz.defs [x0, x1, x2, x3, x4, x5, x6, x7]).getD 14 0 = 0 then 1 else 0] := by kernel_rfl
  have hvars := vars_all G_sisz p_sisz.defs (l := [x0, x1, x2, x3, x4, x5, x6, x7]) (n := 8) rfl
  rw [eF]
  generalize runR G_sisz p_sisz.defs [x0, x1, x2, x3, x4, x5, x6, x7] = E at *
  have ex0 : (SI.var 0).val E = x0 := by have := congrArg (fun l => l.getD 0 0) hvars; exact this
  have ex1 : (SI.var 1).val E = x1 := by have := congrArg (fun l => l.getD 1 0) hvars; exact this
  have ex2 : (SI.var 2).val E = x2 := by have := congrArg (fun l => l.getD 2 0) hvars; exact this
  have ex3 : (SI.var 3).val E = x3 := by have := congrArg (fun l => l.getD 3 0) hvars; exact this
  have ex4 : (SI.var 4).val E = x4 := by have := congrArg (fun l => l.getD 4 0) hvars; exact this
  have ex5 : (SI.var 5).val E = x5 := by have := congrArg (fun l => l.getD 5 0) hvars; exact this
  have ex6 : (SI.var 6).val E = x6 := by have := congrArg (fun l => l.getD 6 0) hvars; exact this
  have ex7 : (SI.var 7).val E = x7 := by have := congrArg (fun l => l.getD 7 0) hvars; exact this
  rw [ite_b01]
  refine congrArg (fun b => [b01 b]) (Bool.eq_iff_iff.2 ?_)
  rw [decide_eq_true_eq, decide_eq_true_eq, hf, ← hv]
  simp only [siszB, BF.ev, Bool.and_eq_true, decide_eq_true_eq, ex0, ex1, ex2, ex3, ex4, ex5, ex6, ex7, lit_val, num]
  omega

def shiB : BF := (.or (.or (.or (.or (.lt (.lit 2147483647) (.var 7)) (.and (.and (.and (.and (.eq (.var 7) (.lit 2147483647)) (.eq (.var 6) (.lit 4294967295))) (.eq (.var 5) (.lit 4294967295))) (.eq (.var 4) (.lit 4294967295))) (.lt (.lit 1566010995) (.var 3)))) (.and (.and (.and (.and (.and (.eq (.var 7) (.lit 2147483647)) (.eq (.var 6) (.lit 4294967295))) (.eq (.var 5) (.lit 4294967295))) (.eq (.var 4) (.lit 4294967295))) (.eq (.var 3) (.lit 1566010995))) (.lt (.lit 1470386205) (.var 2)))) (.and (.and (.and (.and (.and (.and (.eq (.var 7) (.lit 2147483647)) (.eq (.var 6) (.lit 4294967295))) (.eq (.var 5) (.lit 4294967295))) (.eq (.var 4) (.lit 4294967295))) (.eq (.var 3) (.lit 1566010995))) (.eq (.var 2) (.lit 1470386205))) (.lt (.lit 3756601158) (.var 1)))) (.and (.and (.and (.and (.and (.and (.and (.eq (.var 7) (.lit 2147483647)) (.eq (.var 6) (.lit 4294967295))) (.eq (.var 5) (.lit 4294967295))) (.eq (.var 4) (.lit 4294967295))) (.eq (.var 3) (.lit 1566010995))) (.eq (.var 2) (.lit 1470386205))) (.eq (.var 1) (.lit 3756601158))) (.lt (.lit 1746608288) (.var 0))))

theorem shi_spec {V : Int} (v0 : 0 ≤ V) (v1 : V < 2 ^ 256) : e_shi.F (dig 32 8 V) = [b01 (decide (fn / 2 < V))] := by
  have hv := num_dig 32 8 V v0 v1
  have hd := dig_dg 32 8 V
  obtain ⟨x0, x1, x2, x3, x4, x5, x6, x7, hx⟩ := len8 (dig_length 32 8 V)
  rw [hx] at hv hd ⊢
  have px0 := hd x0 (by simp)
  have px1 := hd x1 (by simp)
  have px2 := hd x2 (by simp)
  have px3 := hd x3 (by simp)
  have px4 := hd x4 (by simp)
  have px5 := hd x5 (by simp)
  have px6 := hd x6 (by simp)
  have px7 := hd x7 (by simp)
  have hb : inB (List.replicate 8 ((0 : Int), (4294967295 : Int))) [x0, x1, x2, x3, x4, x5, x6, x7] := inB_rep rfl (hd.le (by decide))
  have hf := bfAt_sound (Γ := G_shi) (R := Rtests) (RB := [.eq, .gt, .ge]) rEqGtGe bEqGtGe (defs := p_shi.defs) (i := 34) (f := shiB) (by kernel_rfl) (by kernel_rfl) rfl hb
  have eF : e_shi.F [x0, x1, x2, x3, x4, x5, x6, x7] = [(runR G_shi p_shi.defs [x0, x1, x2, x3, x4, x5, x6, x7]).getD 34 0] := by kernel_rfl
  have hvars := vars_all G_shi p_shi.defs (l := [x0, x1, x2, x3, x4, x5, x6, x7]) (n := 8) rfl
  rw [eF]
  generalize runR G_shi p_shi.defs [x0, x1, x2, x3, x4, x5, x6, x7] = E at *
  have ex0 : (SI.var 0).val E = x0 := by have := congrArg (fun l => l.getD 0 0) hvars; exact this
  have ex1 : (SI.var 1).val E = x1 := by have := congrArg (fun l => l.getD 1 0) hvars; exact this
  have ex2 : (SI.var 2).val E = x2 := by have := congrArg (fun l => l.getD 2 0) hvars; exact this
  have ex3 : (SI.var 3).val E = x3 := by have := congrArg (fun l => l.getD 3 0) hvars; exact this
  have ex4 : (SI.var 4).val E = x4 := by have := congrArg (fun l => l.getD 4 0) hvars; exact this
  have ex5 : (SI.var 5).val E = x5 := by have := congrArg (fun l => l.getD 5 0) hvars; exact this
  have ex6 : (SI.var 6).val E = x6 := by have := congrArg (fun l => l.getD 6 0) hvars; exact this
  have ex7 : (SI.var 7).val E = x7 := by have := congrArg (fun l => l.getD 7 0) hvars; exact this
  rw [hf]
  refine congrArg (fun b => [b01 b]) (Bool.eq_iff_iff.2 ?_)
  rw [decide_eq_true_eq, ← hv]
  simp only [shiB, BF.ev, Bool.or_eq_true, Bool.and_eq_true, decide_eq_true_eq, ex0, ex1, ex2, ex3, ex4, ex5, ex6, ex7, lit_val, num]
  unfold fn
  omega

def equB : BF := (.and (.and (.and (.and (.and (.and (.and (.and (.and (.eq (.var 0) (.var 10)) (.eq (.var 1) (.var 11))) (.eq (.var 2) (.var 12))) (.eq (.var 3) (.var 13))) (.eq (.var 4) (.var 14))) (.eq (.var 5) (.var 15))) (.eq (.var 6) (.var 16))) (.eq (.var 7) (.var 17))) (.eq (.var 8) (.var 18))) (.eq (.var 9) (.var 19)))

def sequB : BF := (.and (.and (.and (.and (.and (.and (.and (.eq (.var 0) (.var 8)) (.eq (.var 1) (.var 9))) (.eq (.var 2) (.var 10))) (.eq (.var 3) (.var 11))) (.eq (.var 4) (.var 12))) (.eq (.var 5) (.var 13))) (.eq (.var 6) (.var 14))) (.eq (.var 7) (.var 15)))

theorem len4 {b : List Int} (h : b.length = 4) : ∃ a0 a1 a2 a3, b = [a0, a1, a2, a3] := by
  match b, h with
  | [a0, a1, a2, a3], _ => exact ⟨a0, a1, a2, a3, rfl⟩

theorem eqs_spec {A B : Int} (a0 : 0 ≤ A) (a1 : A < 2 ^ 256) (b0 : 0 ≤ B) (b1 : B < 2 ^ 256) : allEq (List.replicate 4 false) (twine (dig 64 4 A) (dig 64 4 B)) = decide (A = B) := by
  have key : ∀ (n : Nat) (l r : List Int), l.length = n → r.length = n → (allEq (List.replicate n false) (twine l r) = true ↔ l = r) := by
    intro n
    induction n with
    | zero =>
      intro l r hl hr
      rw [List.length_eq_zero_iff.1 hl, List.length_eq_zero_iff.1 hr]
      exact ⟨fun _ => rfl, fun _ => rfl⟩
    | succ n ih =>
      intro l r hl hr
      match l, r, hl, hr with
      | x :: l, y :: r, hl, hr =>
        simp only [List.replicate_succ, twine, allEq, Bool.false_eq_true, if_false, Bool.and_eq_true, decide_eq_true_eq, List.cons.injEq]
        rw [ih l r (by simpa using hl) (by simpa using hr)]
  apply Bool.eq_iff_iff.2
  rw [key 4 _ _ (dig_length 64 4 A) (dig_length 64 4 B), decide_eq_true_eq]
  exact ⟨dig_inj a0 a1 b0 b1, fun h => by rw [h]⟩

theorem uzer_spec {V : Int} (v0 : 0 ≤ V) (v1 : V < 2 ^ 256) : e_uzer.F (dig 64 4 V) = [b01 (decide (V = 0))] := by
  have h := eqs_spec v0 v1 (B := 0) (by decide) (by decide)
  obtain ⟨x0, x1, x2, x3, hx⟩ := len4 (dig_length 64 4 V)
  rw [hx] at h ⊢
  have eF : e_uzer.F [x0, x1, x2, x3] = [if allEq (List.replicate 4 false) (twine [x0, x1, x2, x3] (dig 64 4 0)) = true then 1 else 0] := by kernel_rfl
  rw [eF, h]
  rfl

theorem half_spec {V : Int} (v0 : 0 ≤ V) (v1 : V < 2 ^ 256) : e_half.F (dig 64 4 V ++ [0]) = dig 64 4 (V / 2) := by
  have hv := num_dig 64 4 V v0 v1
  have hd := dig_dg 64 4 V
  obtain ⟨x0, x1, x2, x3, hx⟩ := len4 (dig_length 64 4 V)
  rw [hx] at hv hd ⊢
  have px0 := hd x0 (by simp)
  have px1 := hd x1 (by simp)
  have px2 := hd x2 (by simp)
  have px3 := hd x3 (by simp)
  have hb : inB (List.replicate 4 ((0 : Int), (18446744073709551615 : Int)) ++ [(0, 0)]) ([x0, x1, x2, x3] ++ [0]) := inB_append rfl (inB_rep rfl (hd.le (by decide))) (inB_one (by decide) (by decide))
  have step : ∀ (a b : Int), 0 ≤ a → a < 2 ^ 64 → 0 ≤ b → b < 2 ^ 64 → bits .or .u64 (a.fdiv (2 ^ (min (1 : Int).toNat IntKind.u64.bits))) (IntKind.u64.wrap (b * 2 ^ (min (63 : Int).toNat IntKind.u64.bits))) = a / 2 + b % 2 * 9223372036854775808 := by
    intro a b a0 a1 b0 b1
    rw [show ((2 : Int) ^ (min (1 : Int).toNat IntKind.u64.bits)) = 2 from rfl, show ((2 : Int) ^ (min (63 : Int).toNat IntKind.u64.bits)) = 9223372036854775808 from rfl, Int.fdiv_eq_ediv_of_nonneg _ (by decide), w64]
    have e : b * 9223372036854775808 % 18446744073709551616 = b % 2 * 9223372036854775808 := by omega
    rw [e, bits_or (k := .u64) (b := 64) rfl (by omega) (by omega) (by omega) (by omega)]
    have := or_disj (x := (a / 2).toNat) (y := (b % 2 * 9223372036854775808).toNat) (t := 63) (by omega) ⟨(b % 2).toNat, by omega⟩
    rw [this]
    omega
  have eF : e_half.F ([x0, x1, x2, x3] ++ [0]) = [bits .or .u64 (x0.fdiv (2 ^ (min (1 : Int).toNat IntKind.u64.bits))) (IntKind.u64.wrap (x1 * 2 ^ (min (63 : Int).toNat IntKind.u64.bits))), bits .or .u64 (x1.fdiv (2 ^ (min (1 : Int).toNat IntKind.u64.bits))) (IntKind.u64.wrap (x2 * 2 ^ (min (63 : Int).toNat IntKind.u64.bits))),
      bits .or .u64 (x2.fdiv (2 ^ (min (1 : Int).toNat IntKind.u64.bits))) (IntKind.u64.wrap (x3 * 2 ^ (min (63 : Int).toNat IntKind.u64.bits))), bits .or .u64 (x3.fdiv (2 ^ (min (1 : Int).toNat IntKind.u64.bits))) (IntKind.u64.wrap (0 * 2 ^ (min (63 : Int).toNat IntKind.u64.bits)))] := by kernel_rfl
  rw [eF, step x0 x1 px0.1 px0.2 px1.1 px1.2, step x1 x2 px1.1 px1.2 px2.1 px2.2, step x2 x3 px2.1 px2.2 px3.1 px3.2, step x3 0 px3.1 px3.2 (by decide) (by decide)]
  refine dig_eq (w := 64) ?_ ?_
  · intro y hy
    simp only [List.mem_cons, List.not_mem_nil, or_false] at hy
    omega
  · rw [← hv]
    simp only [num]
    omega

theorem low_out' (e0 e1 e2 e3 : Entry) (a0 a1 a2 a3 : Int) : p_low.out [e0, e1, e2, e3] [a0, a1, a2, a3] = [if (fit 1 (e3.F (fit 4 (e2.F (fit 4 (e1.F (fit 4 (e0.F []) ++ [1, 0, 0, 0])) ++ [0])) ++ [a0, a1, a2, a3]))).headD 0 = 0 then 1 else 0] := by kernel_rfl

theorem low_spec {V : Int} (v0 : 0 ≤ V) (v1 : V < 2 ^ 256) : e_low.F (dig 64 4 V) = [b01 (decide (V ≤ fn / 2))] := by
  obtain ⟨x0, x1, x2, x3, hx⟩ := len4 (dig_length 64 4 V)
  have eF : e_low.F (dig 64 4 V) = [if (fit 1 (e_uless.F (fit 4 (e_half.F (fit 4 (e_lof.F (fit 4 (e_order.F []) ++ [1, 0, 0, 0])) ++ [0])) ++ dig 64 4 V))).headD 0 = 0 then 1 else 0] := by
    rw [hx]
    exact low_out' e_order e_lof e_half e_uless x0 x1 x2 x3
  have one : ([1, 0, 0, 0] : List Int) = dig 64 4 1 := by kernel_rfl
  rw [eF, order_spec, one, fit_eq (dig_length 64 4 _), lof_spec (by decide) fn_lt (by decide) (by decide), fit_eq (dig_length 64 4 _), half_spec (V := fn - 1) (by decide) (by have := fn_lt; omega), fit_eq (dig_length 64 4 _),
    uless_spec (A := (fn - 1) / 2) (by decide) (by unfold fn; omega) v0 v1]
  have e : (fn - 1) / 2 = fn / 2 := by unfold fn; omega
  rw [e]
  by_cases h : V ≤ fn / 2
  · have h2 : ¬ fn / 2 < V := by omega
    simp [b01, fit, h, h2]
  · have h2 : fn / 2 < V := by omega
    simp [b01, fit, h, h2]

theorem field_out' (e0 e1 : Entry) (b0 b1 b2 b3 b4 b5 b6 b7 b8 b9 b10 b11 b12 b13 b14 b15 b16 b17 b18 b19 b20 b21 b22 b23 b24 b25 b26 b27 b28 b29 b30 b31 : Int) : p_field.out [e0, e1] [b0, b1, b2, b3, b4, b5, b6, b7, b8, b9, b10, b11, b12, b13, b14, b15, b16, b17, b18, b19, b20, b21, b22, b23, b24, b25, b26, b27, b28, b29, b30, b31] = fit 10 (e1.F (fit 10 (e0.F (List.replicate 10 0 ++ [b0, b1, b2, b3, b4, b5, b6, b7, b8, b9, b10, b11, b12, b13, b14, b15, b16, b17, b18, b19, b20, b21, b22, b23, b24, b25, b26, b27, b28, b29, b30, b31])))) := by kernel_rfl

theorem scalar_out' (e0 : Entry) (b0 b1 b2 b3 b4 b5 b6 b7 b8 b9 b10 b11 b12 b13 b14 b15 b16 b17 b18 b19 b20 b21 b22 b23 b24 b25 b26 b27 b28 b29 b30 b31 : Int) : p_scalar.out [e0] [b0, b1, b2, b3, b4, b5, b6, b7, b8, b9, b10, b11, b12, b13, b14, b15, b16, b17, b18, b19, b20, b21, b22, b23, b24, b25, b26, b27, b28, b29, b30, b31] = fit 8 (e0.F (List.replicate 8 0 ++ [b0, b1, b2, b3, b4, b5, b6, b7, b8, b9, b10, b11, b12, b13, b14, b15, b16, b17, b18, b19, b20, b21, b22, b23, b24, b25, b26, b27, b28, b29, b30, b31])) := by kernel_rfl

theorem scalar_spec {bs : List Int} (h : bs.length = 32) (hd : Dg 8 bs) : e_scalar.F bs = dig 32 8 (be bs % fn) := by
  have e : e_scalar.F bs = fit 8 (e_ssetb.F (List.replicate 8 0 ++ bs)) := by
    obtain ⟨b0, b1, b2, b3, b4, b5, b6, b7, b8, b9, b10, b11, b12, b13, b14, b15, b16, b17, b18, b19, b20, b21, b22, b23, b24, b25, b26, b27, b28, b29, b30, b31, rfl⟩ := len32 h
    exact scalar_out' e_ssetb b0 b1 b2 b3 b4 b5 b6 b7 b8 b9 b10 b11 b12 b13 b14 b15 b16 b17 b18 b19 b20 b21 b22 b23 b24 b25 b26 b27 b28 b29 b30 b31
  rw [e, ssetb_spec (old := List.replicate 8 0) (by simp) (zeros_dg 32 8) h hd, fit_append (dig_length 32 8 _)]

theorem fasks_out' (e0 e1 e2 e3 e4 e5 : Entry) (b0 b1 b2 b3 b4 b5 b6 b7 b8 b9 b10 b11 b12 b13 b14 b15 b16 b17 b18 b19 b20 b21 b22 b23 b24 b25 b26 b27 b28 b29 b30 b31 c0 c1 c2 c3 c4 c5 c6 c7 c8 c9 c10 c11 c12 c13 c14 c15 c16 c17 c18 c19 c20 c21 c22 c23 c24 c25 c26 c27 c28 c29 c30 c31 : Int) : p_fasks.out [e0, e1, e2, e3, e4, e5] ([b0, b1, b2, b3, b4, b5, b6, b7, b8, b9, b10, b11, b12, b13, b14, b15, b16, b17, b18, b19, b20, b21, b22, b23, b24, b25, b26, b27, b28, b29, b30, b31] ++ [c0, c1, c2, c3, c4, c5, c6, c7, c8, c9, c10, c11, c12, c13, c14, c15, c16, c17, c18, c19, c20, c21, c22, c23, c24, c25, c26, c27, c28, c29, c30, c31]) =
    [(fit 1 (e1.F (fit 10 (e0.F [b0, b1, b2, b3, b4, b5, b6, b7, b8, b9, b10, b11, b12, b13, b14, b15, b16, b17, b18, b19, b20, b21, b22, b23, b24, b25, b26, b27, b28, b29, b30, b31])))).headD 0, (fit 1 (e2.F (fit 10 (e0.F [b0, b1, b2, b3, b4, b5, b6, b7, b8, b9, b10, b11, b12, b13, b14, b15, b16, b17, b18, b19, b20, b21, b22, b23, b24, b25, b26, b27, b28, b29, b30, b31])))).headD 0, (fit 1 (e3.F (fit 10 (e0.F [b0, b1, b2, b3, b4, b5, b6, b7, b8, b9, b10, b11, b12, b13, b14, b15, b16, b17, b18, b19, b20, b21, b22, b23, b24, b25, b26, b27, b28, b29, b30, b31])))).headD 0, (fit 1 (e4.F (fit 10 (e0.F [b0, b1, b2, b3, b4, b5, b6, b7, b8, b9, b10, b11, b12, b13, b14, b15, b16, b17, b18, b19, b20, b21, b22, b23, b24, b25, b26, b27, b28, b29, b30, b31]) ++ fit 10 (e0.F [c0, c1, c2, c3, c4, c5, c6, c7, c8, c9, c10, c11, c12, c13, c14, c15, c16, c17, c18, c19, c20, c21, c22, c23, c24, c25, c26, c27, c28, c29, c30, c31])))).headD 0, (fit 1 (e5.F (fit 10 (e0.F [b0, b1, b2, b3, b4, b5, b6, b7, b8, b9, b10, b11, b12, b13, b14, b15, b16, b17, b18, b19, b20, b21, b22, b23, b24, b25, b26, b27, b28, b29, b30, b31])))).headD 0] := by kernel_rfl

theorem sasks_out' (e0 e1 e2 e3 e4 : Entry) (b0 b1 b2 b3 b4 b5 b6 b7 b8 b9 b10 b11 b12 b13 b14 b15 b16 b17 b18 b19 b20 b21 b22 b23 b24 b25 b26 b27 b28 b29 b30 b31 c0 c1 c2 c3 c4 c5 c6 c7 c8 c9 c10 c11 c12 c13 c14 c15 c16 c17 c18 c19 c20 c21 c22 c23 c24 c25 c26 c27 c28 c29 c30 c31 : Int) : p_sasks.out [e0, e1, e2, e3, e4] ([b0, b1, b2, b3, b4, b5, b6, b7, b8, b9, b10, b11, b12, b13, b14, b15, b16, b17, b18, b19, b20, b21, b22, b23, b24, b25, b26, b27, b28, b29, b30, b31] ++ [c0, c1, c2, c3, c4, c5, c6, c7, c8, c9, c10, c11, c12, c13, c14, c15, c16, c17, c18, c19, c20, c21, c22, c23, c24, c25, c26, c27, c28, c29, c30, c31]) =
    [(fit 1 (e1.F (fit 8 (e0.F [b0, b1, b2, b3, b4, b5, b6, b7, b8, b9, b10, b11, b12, b13, b14, b15, b16, b17, b18, b19, b20, b21, b22, b23, b24, b25, b26, b27, b28, b29, b30, b31])))).headD 0, (fit 1 (e2.F (fit 8 (e0.F [b0, b1, b2, b3, b4, b5, b6, b7, b8, b9, b10, b11, b12, b13, b14, b15, b16, b17, b18, b19, b20, b21, b22, b23, b24, b25, b26, b27, b28, b29, b30, b31])))).headD 0, (fit 1 (e4.F (fit 8 (e0.F [b0, b1, b2, b3, b4, b5, b6, b7, b8, b9, b10, b11, b12, b13, b14, b15, b16, b17, b18, b19, b20, b21, b22, b23, b24, b25, b26, b27, b28, b29, b30, b31])))).headD 0, (fit 1 (e3.F (fit 8 (e0.F [b0, b1, b2, b3, b4, b5, b6, b7, b8, b9, b10, b11, b12, b13, b14, b15, b16, b17, b18, b19, b20, b21, b22, b23, b24, b25, b26, b27, b28, b29, b30, b31]) ++ fit 8 (e0.F [c0, c1, c2, c3, c4, c5, c6, c7, c8, c9, c10, c11, c12, c13, c14, c15, c16, c17, c18, c19, c20, c21, c22, c23, c24, c25, c26, c27, c28, c29, c30, c31])))).headD 0] := by kernel_rfl

end Go.Proofs.YtfeancgmmonebaaDoor.Sx

/-
  Contracts of functions on signatures. Printed by gen.py. Conditions: none; each theorem bears its own.
-/
namespace Go.Proofs.YtfeancgmmonebaaDoor.Sx
open Go Go.Proofs

def p_fset1 : Path := ⟨[], [], [.var 10, .var 11, .var 12, .var 13, .var 14, .var 15, .var 16, .var 17, .var 18, .var 19]⟩
def G_fset1 : List Entry := []
def p_sset1 : Path := ⟨[], [], [.var 8, .var 9, .var 10, .var 11, .var 12, .var 13, .var 14, .var 15]⟩
def G_sset1 : List Entry := []
def e_sset1 : Entry := { f := 39, args := [.ptr (List.replicate 8 (some .u32)) true, .ptr (List.replicate 8 (some .u32)) false], res := [.arg 0], F := p_sset1.out G_sset1 }
theorem r_sset1 : runFn Tryd.prog G_sset1 e_sset1 Tryd.f39.ntmps Tryd.f39.results.toList (Tryd.f39.body.getD .skip) = some ([], [p_sset1]) := by kernel_rfl
theorem m_sset1 : Meets Tryd.prog e_sset1 :=
  meets_single mixed (fun e he => by simp [G_sset1] at he) Tryd.func39 rfl (by kernel_rfl) r_sset1 rfl

def p_newsch : Path := ⟨[.app 2 [.lit 0, .lit 0, .lit 0, .lit 0, .lit 0, .lit 0, .lit 0, .lit 0, .var 10, .var 11, .var 12, .var 13, .var 14, .var 15, .var 16, .var 17] 8, .app 1 [.var 18, .var 19, .var 20, .var 21, .var 22, .var 23, .var 24, .var 25, .var 26, .var 27] 10, .app 0 [.lit 0, .lit 0, .lit 0, .lit 0, .lit 0, .lit 0, .lit 0, .lit 0, .lit 0, .lit 0, .var 0, .var 1, .var 2, .var 3, .var 4, .var 5, .var 6, .var 7, .var 8, .var 9] 10], [], [.var 28, .var 29, .var 30, .var 31, .var 32, .var 33, .var 34, .var 35, .var 36, .var 37, .var 38, .var 39, .var 40, .var 41, .var 42, .var 43, .var 44, .var 45]⟩
def p_newsig : Path := ⟨[], [], [.var 0, .var 1, .var 2, .var 3, .var 4, .var 5, .var 6, .var 7, .var 8, .var 9, .var 10, .var 11, .var 12, .var 13, .var 14, .var 15]⟩
def G_newsig : List Entry := []
def e_newsig : Entry := { f := 23, args := [.ptr (List.replicate 8 (some .u32)) false, .ptr (List.replicate 8 (some .u32)) false], res := [.new (List.replicate 16 (some .u32))], F := p_newsig.out G_newsig }
theorem r_newsig : runFn Tryd.prog G_newsig e_newsig Tryd.f23.ntmps Tryd.f23.results.toList (Tryd.f23.body.getD .skip) = some ([], [p_newsig]) := by kernel_rfl
theorem m_newsig : Meets Tryd.prog e_newsig :=
  meets_single mixed (fun e he => by simp [G_newsig] at he) Tryd.func23 rfl (by kernel_rfl) r_newsig rfl

def p_sigR : Path := ⟨[], [], [.var 0, .var 1, .var 2, .var 3, .var 4, .var 5, .var 6, .var 7]⟩
def G_sigR : List Entry := []
def e_sigR : Entry := { f := 36, args := [.ptr (List.replicate 16 (some .u32)) false], res := [.agg (List.replicate 8 (some .u32))], F := p_sigR.out G_sigR }
theorem r_sigR : runFn Tryd.prog G_sigR e_sigR Tryd.f36.ntmps Tryd.f36.results.toList (Tryd.f36.body.getD .skip) = some ([], [p_sigR]) := by kernel_rfl
theorem m_sigR : Meets Tryd.prog e_sigR :=
  meets_single mixed (fun e he => by simp [G_sigR] at he) Tryd.func36 rfl (by kernel_rfl) r_sigR rfl

def p_sigS : Path := ⟨[], [], [.var 8, .var 9, .var 10, .var 11, .var 12, .var 13, .var 14, .var 15]⟩
def G_sigS : List Entry := []
def e_sigS : Entry := { f := 30, args := [.ptr (List.replicate 16 (some .u32)) false], res := [.agg (List.replicate 8 (some .u32))], F := p_sigS.out G_sigS }
theorem r_sigS : runFn Tryd.prog G_sigS e_sigS Tryd.f30.ntmps Tryd.f30.results.toList (Tryd.f30.body.getD .skip) = some ([], [p_sigS]) := by kernel_rfl
theorem m_sigS : Meets Tryd.prog e_sigS :=
  meets_single mixed (fun e he => by simp [G_sigS] at he) Tryd.func30 rfl (by kernel_rfl) r_sigS rfl

def p_numbers : Path := ⟨[.app 2 [.var 24, .var 25, .var 26, .var 27, .var 28, .var 29, .var 30, .var 31] 32, .app 2 [.var 16, .var 17, .var 18, .var 19, .var 20, .var 21, .var 22, .var 23] 32, .app 1 [.var 0, .var 1, .var 2, .var 3, .var 4, .var 5, .var 6, .var 7, .var 8, .var 9, .var 10, .var 11, .var 12, .var 13, .var 14, .var 15] 8, .app 0 [.var 0, .var 1, .var 2, .var 3, .var 4, .var 5, .var 6, .var 7, .var 8, .var 9, .var 10, .var 11, .var 12, .var 13, .var 14, .var 15] 8], [], [.var 32, .var 33, .var 34, .var 35, .var 36, .var 37, .var 38, .var 39, .var 40, .var 41, .var 42, .var 43, .var 44, .var 45, .var 46, .var 47, .var 48, .var 49, .var 50, .var 51, .var 52, .var 53, .var 54, .var 55, .var 56, .var 57, .var 58, .var 59, .var 60, .var 61, .var 62, .var 63, .var 64, .var 65, .var 66, .var 67, .var 68, .var 69, .var 70, .var 71, .var 72, .var 73, .var 74, .var 75, .var 76, .var 77, .var 78, .var 79, .var 80, .var 81, .var 82, .var 83, .var 84, .var 85, .var 86, .var 87, .var 88, .var 89, .var 90, .var 91, .var 92, .var 93, .var 94, .var 95]⟩
def G_numbers : List Entry := [e_sigR, e_sigS, e_sbytes]
def e_numbers : Entry := { f := 22, args := [.ptr (List.replicate 16 (some .u32)) false], res := [.agg (List.replicate 32 (some .u8)), .agg (List.replicate 32 (some .u8))], F := p_numbers.out G_numbers }
theorem r_numbers : runFn Tryd.prog G_numbers e_numbers Tryd.f22.ntmps Tryd.f22.results.toList (Tryd.f22.body.getD .skip) = some ([], [p_numbers]) := by kernel_rfl
theorem m_numbers : Meets Tryd.prog e_numbers :=
  meets_single mixed (fun e he => by
    simp only [G_numbers, List.mem_cons, List.not_mem_nil, or_false] at he
    rcases he with rfl | rfl | rfl
    · exact m_sigR
    · exact m_sigS
    · exact m_sbytes) Tryd.func22 rfl (by kernel_rfl) r_numbers rfl

def p_lscalar : Path := ⟨[.app 2 [.var 32, .var 33, .var 34, .var 35, .var 36, .var 37, .var 38, .var 39] 1, .app 1 [] 4, .app 0 [.var 0, .var 1, .var 2, .var 3, .var 4, .var 5, .var 6, .var 7, .var 8, .var 9, .var 10, .var 11, .var 12, .var 13, .var 14, .var 15, .var 16, .var 17, .var 18, .var 19, .var 20, .var 21, .var 22, .var 23, .var 24, .var 25, .var 26, .var 27, .var 28, .var 29, .var 30, .var 31] 4], [], [.var 40]⟩
def G_lscalar : List Entry := [e_uof, e_order, e_uless]
def q_ranged_0 : Path := ⟨[.app 2 [.var 32, .var 33, .var 34, .var 35, .var 38, .var 39, .var 40, .var 41] 1, .app 1 [] 4, .pr (.neg) [.var 36], .app 3 [.var 32, .var 33, .var 34, .var 35] 1, .app 0 [.var 0, .var 1, .var 2, .var 3, .var 4, .var 5, .var 6, .var 7, .var 8, .var 9, .var 10, .var 11, .var 12, .var 13, .var 14, .var 15, .var 16, .var 17, .var 18, .var 19, .var 20, .var 21, .var 22, .var 23, .var 24, .var 25, .var 26, .var 27, .var 28, .var 29, .var 30, .var 31] 4], [(.var 37, true)], [.var 42]⟩
def q_ranged_1 : Path := ⟨[.pr (.neg) [.var 36], .app 3 [.var 32, .var 33, .var 34, .var 35] 1, .app 0 [.var 0, .var 1, .var 2, .var 3, .var 4, .var 5, .var 6, .var 7, .var 8, .var 9, .var 10, .var 11, .var 12, .var 13, .var 14, .var 15, .var 16, .var 17, .var 18, .var 19, .var 20, .var 21, .var 22, .var 23, .var 24, .var 25, .var 26, .var 27, .var 28, .var 29, .var 30, .var 31] 4], [(.var 37, false)], [.lit 0]⟩
def ps_ranged : List Path := [q_ranged_0, q_ranged_1]
def G_ranged : List Entry := [e_uof, e_order, e_uless, e_uzer]
def Pre_ranged (b : List Int) : Prop := Dg 8 b
def F_ranged (b : List Int) : List Int := [b01 (decide (0 < be b ∧ be b < fn))]
def e_ranged : Entry := { f := 11, args := [.agg (List.replicate 32 (some .u8))], res := [.bool], F := F_ranged, free := false, Pre := Pre_ranged }
theorem r_ranged : runFn Tryd.prog G_ranged e_ranged Tryd.f11.ntmps Tryd.f11.results.toList (Tryd.f11.body.getD .skip) = some ([], ps_ranged) := by kernel_rfl
theorem ranged_a (e0 e1 e2 e3 : Entry) (b0 b1 b2 b3 b4 b5 b6 b7 b8 b9 b10 b11 b12 b13 b14 b15 b16 b17 b18 b19 b20 b21 b22 b23 b24 b25 b26 b27 b28 b29 b30 b31 : Int) : (SI.var 37).val (runR [e0, e1, e2, e3] q_ranged_0.defs [b0, b1, b2, b3, b4, b5, b6, b7, b8, b9, b10, b11, b12, b13, b14, b15, b16, b17, b18, b19, b20, b21, b22, b23, b24, b25, b26, b27, b28, b29, b30, b31]) = if (fit 1 (e3.F (fit 4 (e0.F [b0, b1, b2, b3, b4, b5, b6, b7, b8, b9, b10, b11, b12, b13, b14, b15, b16, b17, b18, b19, b20, b21, b22, b23, b24, b25, b26, b27, b28, b29, b30, b31])))).headD 0 = 0 then 1 else 0 := by kernel_rfl
theorem ranged_b (e0 e1 e2 e3 : Entry) (b0 b1 b2 b3 b4 b5 b6 b7 b8 b9 b10 b11 b12 b13 b14 b15 b16 b17 b18 b19 b20 b21 b22 b23 b24 b25 b26 b27 b28 b29 b30 b31 : Int) : (SI.var 37).val (runR [e0, e1, e2, e3] q_ranged_1.defs [b0, b1, b2, b3, b4, b5, b6, b7, b8, b9, b10, b11, b12, b13, b14, b15, b16, b17, b18, b19, b20, b21, b22, b23, b24, b25, b26, b27, b28, b29, b30, b31]) = if (fit 1 (e3.F (fit 4 (e0.F [b0, b1, b2, b3, b4, b5, b6, b7, b8, b9, b10, b11, b12, b13, b14, b15, b16, b17, b18, b19, b20, b21, b22, b23, b24, b25, b26, b27, b28, b29, b30, b31])))).headD 0 = 0 then 1 else 0 := by kernel_rfl
theorem ranged_c (e0 e1 e2 e3 : Entry) (b0 b1 b2 b3 b4 b5 b6 b7 b8 b9 b10 b11 b12 b13 b14 b15 b16 b17 b18 b19 b20 b21 b22 b23 b24 b25 b26 b27 b28 b29 b30 b31 : Int) : (SI.var 42).val (runR [e0, e1, e2, e3] q_ranged_0.defs [b0, b1, b2, b3, b4, b5, b6, b7, b8, b9, b10, b11, b12, b13, b14, b15, b16, b17, b18, b19, b20, b21, b22, b23, b24, b25, b26, b27, b28, b29, b30, b31]) = (fit 1 (e2.F (fit 4 (e0.F [b0, b1, b2, b3, b4, b5, b6, b7, b8, b9, b10, b11, b12, b13, b14, b15, b16, b17, b18, b19, b20, b21, b22, b23, b24, b25, b26, b27, b28, b29, b30, b31]) ++ fit 4 (e1.F [])))).headD 0 := by kernel_rfl

theorem m_ranged : Meets Tryd.prog e_ranged :=
  meets_of_run mixed (fun e he => by
    simp only [G_ranged, List.mem_cons, List.not_mem_nil, or_false] at he
    rcases he with rfl | rfl | rfl | rfl
    · exact m_uof
    · exact m_order
    · exact m_uless
    · exact m_uzer) Tryd.func11 rfl (by kernel_rfl) r_ranged (fun _ _ _ nd hnd => by cases hnd) fun base hl hpre p hp hasm => by
    have hd : Dg 8 base := hpre rfl
    have hl32 : base.length = 32 := hl
    obtain ⟨v0, v1⟩ := be_bounds hl32 hd
    have hu := uof_spec hl32 hd
    have hz := uzer_spec v0 v1
    have hlss := uless_spec v0 v1 (show (0 : Int) ≤ fn by decide) fn_lt
    show F_ranged base = _
    unfold F_ranged
    generalize be base = V at *
    obtain ⟨b0, b1, b2, b3, b4, b5, b6, b7, b8, b9, b10, b11, b12, b13, b14, b15, b16, b17, b18, b19, b20, b21, b22, b23, b24, b25, b26, b27, b28, b29, b30, b31, rfl⟩ := len32 hl32
    simp only [ps_ranged, List.mem_cons, List.not_mem_nil, or_false] at hp
    rcases hp with rfl | rfl
    · have h1 : ((SI.var 37).val _ != 0) = true := hasm _ List.mem_cons_self
      have h2 := ranged_a e_uof e_order e_uless e_uzer b0 b1 b2 b3 b4 b5 b6 b7 b8 b9 b10 b11 b12 b13 b14 b15 b16 b17 b18 b19 b20 b21 b22 b23 b24 b25 b26 b27 b28 b29 b30 b31
      have h3 := ranged_c e_uof e_order e_uless e_uzer b0 b1 b2 b3 b4 b5 b6 b7 b8 b9 b10 b11 b12 b13 b14 b15 b16 b17 b18 b19 b20 b21 b22 b23 b24 b25 b26 b27 b28 b29 b30 b31
      show _ = [(SI.var 42).val _]
      rw [show runR G_ranged q_ranged_0.defs [b0, b1, b2, b3, b4, b5, b6, b7, b8, b9, b10, b11, b12, b13, b14, b15, b16, b17, b18, b19, b20, b21, b22, b23, b24, b25, b26, b27, b28, b29, b30, b31] = runR [e_uof, e_order, e_uless, e_uzer] q_ranged_0.defs [b0, b1, b2, b3, b4, b5, b6, b7, b8, b9, b10, b11, b12, b13, b14, b15, b16, b17, b18, b19, b20, b21, b22, b23, b24, b25, b26, b27, b28, b29, b30, b31] from rfl] at h1 ⊢
      rw [h2, hu, fit_eq (dig_length 64 4 V), hz] at h1
      rw [h3, hu, order_spec, fit_eq (dig_length 64 4 V), fit_eq (dig_length 64 4 fn), hlss]
      by_cases hV : V = 0
      · simp [b01, fit, hV] at h1
      · have : (0 < V ∧ V < fn) ↔ V < fn := ⟨fun h => h.2, fun h => ⟨by omega, h⟩⟩
        simp only [this]
        rfl
    · have h1 : ((SI.var 37).val _ != 0) = false := hasm _ List.mem_cons_self
      have h2 := ranged_b e_uof e_order e_uless e_uzer b0 b1 b2 b3 b4 b5 b6 b7 b8 b9 b10 b11 b12 b13 b14 b15 b16 b17 b18 b19 b20 b21 b22 b23 b24 b25 b26 b27 b28 b29 b30 b31
      rw [show runR G_ranged q_ranged_1.defs [b0, b1, b2, b3, b4, b5, b6, b7, b8, b9, b10, b11, b12, b13, b14, b15, b16, b17, b18, b19, b20, b21, b22, b23, b24, b25, b26, b27, b28, b29, b30, b31] = runR [e_uof, e_order, e_uless, e_uzer] q_ranged_1.defs [b0, b1, b2, b3, b4, b5, b6, b7, b8, b9, b10, b11, b12, b13, b14, b15, b16, b17, b18, b19, b20, b21, b22, b23, b24, b25, b26, b27, b28, b29, b30, b31] from rfl] at h1
      rw [h2, hu, fit_eq (dig_length 64 4 V), hz] at h1
      by_cases hV : V = 0
      · subst hV
        rfl
      · simp [b01, fit, hV] at h1

def q_inrange_0 : Path := ⟨[.app 2 [.var 0, .var 1, .var 2, .var 3, .var 6, .var 7, .var 8, .var 9] 1, .app 1 [] 4, .pr (.neg) [.var 4], .app 0 [.var 0, .var 1, .var 2, .var 3] 1], [(.var 5, true)], [.var 10]⟩
def q_inrange_1 : Path := ⟨[.pr (.neg) [.var 4], .app 0 [.var 0, .var 1, .var 2, .var 3] 1], [(.var 5, false)], [.lit 0]⟩
def ps_inrange : List Path := [q_inrange_0, q_inrange_1]
def G_inrange : List Entry := [e_uzer, e_order, e_uless]
def Pre_inrange (b : List Int) : Prop := b.length = 4 ∧ Dg 64 b
def F_inrange (b : List Int) : List Int := [b01 (decide (0 < num 64 b ∧ num 64 b < fn))]
def e_inrange : Entry := { f := 13, args := [.agg (List.replicate 4 (some .u64))], res := [.bool], F := F_inrange, free := false, Pre := Pre_inrange }
theorem r_inrange : runFn Tryd.prog G_inrange e_inrange Tryd.f13.ntmps Tryd.f13.results.toList (Tryd.f13.body.getD .skip) = some ([], ps_inrange) := by kernel_rfl
theorem inrange_a (e0 e1 e2 : Entry) (a0 a1 a2 a3 : Int) : (SI.var 5).val (runR [e0, e1, e2] q_inrange_0.defs [a0, a1, a2, a3]) = if (fit 1 (e0.F [a0, a1, a2, a3])).headD 0 = 0 then 1 else 0 := by kernel_rfl
theorem inrange_b (e0 e1 e2 : Entry) (a0 a1 a2 a3 : Int) : (SI.var 5).val (runR [e0, e1, e2] q_inrange_1.defs [a0, a1, a2, a3]) = if (fit 1 (e0.F [a0, a1, a2, a3])).headD 0 = 0 then 1 else 0 := by kernel_rfl
theorem inrange_c (e0 e1 e2 : Entry) (a0 a1 a2 a3 : Int) : (SI.var 10).val (runR [e0, e1, e2] q_inrange_0.defs [a0, a1, a2, a3]) = (fit 1 (e2.F ([a0, a1, a2, a3] ++ fit 4 (e1.F [])))).headD 0 := by kernel_rfl

theorem m_inrange : Meets Tryd.prog e_inrange :=
  meets_of_run mixed (fun e he => by
    simp only [G_inrange, List.mem_cons, List.not_mem_nil, or_false] at he
    rcases he with rfl | rfl | rfl
    · exact m_uzer
    · exact m_order
    · exact m_uless) Tryd.func13 rfl (by kernel_rfl) r_inrange (fun _ _ _ nd hnd => by cases hnd) fun base hl hpre p hp hasm => by
    obtain ⟨hl4, hd⟩ : Pre_inrange base := hpre rfl
    have hb := num_bounds hd
    rw [hl4] at hb
    have hdig : dig 64 4 (num 64 base) = base := by
      have := dig_num hd
      rwa [hl4] at this
    have v0 := hb.1
    have v1 : num 64 base < 2 ^ 256 := hb.2
    have hz := uzer_spec v0 v1
    have hlss := uless_spec v0 v1 (show (0 : Int) ≤ fn by decide) fn_lt
    show F_inrange base = _
    unfold F_inrange
    generalize num 64 base = V at *
    rw [← hdig] at hasm ⊢
    obtain ⟨a0, a1, a2, a3, hx⟩ : ∃ a0 a1 a2 a3, dig 64 4 V = [a0, a1, a2, a3] := ⟨_, _, _, _, rfl⟩
    rw [hx] at hz hlss hasm ⊢
    simp only [ps_inrange, List.mem_cons, List.not_mem_nil, or_false] at hp
    rcases hp with rfl | rfl
    · have h1 : ((SI.var 5).val _ != 0) = true := hasm _ List.mem_cons_self
      have h2 := inrange_a e_uzer e_order e_uless a0 a1 a2 a3
      have h3 := inrange_c e_uzer e_order e_uless a0 a1 a2 a3
      show _ = [(SI.var 10).val _]
      rw [show runR G_inrange q_inrange_0.defs [a0, a1, a2, a3] = runR [e_uzer, e_order, e_uless] q_inrange_0.defs [a0, a1, a2, a3] from rfl] at h1 ⊢
      rw [h2, hz] at h1
      rw [h3, order_spec, fit_eq (dig_length 64 4 fn), hlss]
      by_cases hV : V = 0
      · simp [b01, fit, hV] at h1
      · have : (0 < V ∧ V < fn) ↔ V < fn := ⟨fun h => h.2, fun h => ⟨by omega, h⟩⟩
        simp only [this]
        rfl
    · have h1 : ((SI.var 5).val _ != 0) = false := hasm _ List.mem_cons_self
      have h2 := inrange_b e_uzer e_order e_uless a0 a1 a2 a3
      rw [show runR G_inrange q_inrange_1.defs [a0, a1, a2, a3] = runR [e_uzer, e_order, e_uless] q_inrange_1.defs [a0, a1, a2, a3] from rfl] at h1
      rw [h2, hz] at h1
      by_cases hV : V = 0
      · subst hV
        rfl
      · simp [b01, fit, hV] at h1

end Go.Proofs.YtfeancgmmonebaaDoor.Sx

/-
  Reading a signature of BIP 340: the calls. Conditions: none; each theorem bears its own.
-/
namespace Go.Proofs.YtfeancgmmonebaaDoor.Sx
open Go Go.Proofs Go.RowKit

theorem Reads.drop {w : World} {B n : Nat} {A : Option Addr} {xs : List Value} (h : Reads w B A n xs) (k : Nat) : Reads w B (A.map (·.add k)) (n - k) (xs.drop k) := by
  refine ⟨by simp [h.1], fun hk0 => ?_⟩
  obtain ⟨ad, rfl, hb, hc⟩ := h.2 (by omega)
  refine ⟨ad.add k, rfl, by rw [block_of_add]; exact hb, fun j u hu => ?_⟩
  rw [add_of_add]
  exact hc (k + j) u (by rwa [List.getElem?_drop] at hu)

/-- It gives an error, or (where 'ok' holds) a pointer and no error. -/
def ErrOr (ok : Prop) (w : World) (e : Ending) (w' : World) : Prop :=
  ((ok ∧ ∃ a, e = .returned (.tuple #[.pointer (some a), .nilIface])) ∨ (¬ ok ∧ ∃ t x, e = .returned (.tuple #[.pointer none, .iface t x]))) ∧ Below w.heap.size w w'

def AnAgg (w : World) (e : Ending) (w' : World) : Prop := (∃ x, e = .returned (.agg x)) ∧ Below w.heap.size w w'

theorem c_one_nil (w : World) : Calls Tryd.prog 14 #[.nilIface] w fun e w' => e = .returned (.int .i64 0) ∧ w = w' := by
  go_enter Tryd.func14, Tryd.ntmps14
  go_wp2_with fail
  go_ret
  exact ⟨rfl, rfl⟩

theorem c_one_err (t : TypeId) (x : Value) (w : World) : Calls Tryd.prog 14 #[.iface t x] w fun e w' => e = .returned (.int .i64 1) ∧ w = w' := by
  go_enter Tryd.func14, Tryd.ntmps14
  go_wp2_with fail
  go_ret
  exact ⟨rfl, rfl⟩

/-- The bytes are a signature of BIP 340, by their form. -/
def SchnorrOk (n : Nat) (bs : List Int) : Prop := n = 64 ∧ be (bs.take 32) < fp

end Go.Proofs.YtfeancgmmonebaaDoor.Sx

/-
  Calls of the reference's small functions; the statement FnReadSchnorr: what its function gives. Conditions: none; each theorem bears its own.
-/
namespace Go.Proofs.YtfeancgmmonebaaDoor.Sx
open Go Go.Proofs Go.RowKit

theorem c_order (w : World) : Calls Tryd.prog 19 #[] w fun en w' => en = .returned (.agg ((dig 64 4 fn).map (Value.int .u64)).toArray) ∧ Below w.heap.size w w' :=
  m_order.pure (by kernel_rfl) (base := []) rfl rfl (fun h => by cases h) order_spec (args := []) rfl
    (fun nb => by
      show (SV.one (.agg (kcells 0 (List.replicate 4 (some .u64))))).den ⟨[] ++ fit 4 _, nb⟩ = _
      rw [fit_eq (dig_length 64 4 _)]
      exact agg_at .u64 nb (pre := []) (post := []) (by simp) rfl (dig_length 64 4 _)) w

theorem c_uless {A B : Int} (a0 : 0 ≤ A) (a1 : A < 2 ^ 256) (b0 : 0 ≤ B) (b1 : B < 2 ^ 256) (w : World) :
    Calls Tryd.prog 20 #[.agg ((dig 64 4 A).map (Value.int .u64)).toArray, .agg ((dig 64 4 B).map (Value.int .u64)).toArray] w fun en w' => en = .returned (.bool (decide (A < B))) ∧ Below w.heap.size w w' :=
  m_uless.pure (by kernel_rfl) (base := dig 64 4 A ++ dig 64 4 B) (by simp [dig_length]; rfl) rfl (fun h => by cases h) (uless_spec a0 a1 b0 b1) (args := [.agg ((dig 64 4 A).map (Value.int .u64)).toArray, .agg ((dig 64 4 B).map (Value.int .u64)).toArray])
    (by
      show [(SV.one (.agg (kcells 0 (List.replicate 4 (some .u64))))).den ⟨dig 64 4 A ++ dig 64 4 B, []⟩, (SV.one (.agg (kcells 4 (List.replicate 4 (some .u64))))).den ⟨dig 64 4 A ++ dig 64 4 B, []⟩] = _
      rw [agg_at .u64 [] (l := dig 64 4 A) (pre := []) (post := dig 64 4 B) (n := 0) (by simp) rfl (dig_length 64 4 _), agg_at .u64 [] (l := dig 64 4 B) (pre := dig 64 4 A) (post := []) (n := 4) (by simp) (dig_length 64 4 _) (dig_length 64 4 _)])
    (fun nb => by
      show Value.bool (b01 (decide (A < B)) != 0) = _
      cases decide (A < B) <;> rfl) w

theorem lscalar_out' (e0 e1 e2 : Entry) (b0 b1 b2 b3 b4 b5 b6 b7 b8 b9 b10 b11 b12 b13 b14 b15 b16 b17 b18 b19 b20 b21 b22 b23 b24 b25 b26 b27 b28 b29 b30 b31 : Int) :
    p_lscalar.out [e0, e1, e2] [b0, b1, b2, b3, b4, b5, b6, b7, b8, b9, b10, b11, b12, b13, b14, b15, b16, b17, b18, b19, b20, b21, b22, b23, b24, b25, b26, b27, b28, b29, b30, b31] =
      fit 1 (e2.F (fit 4 (e0.F [b0, b1, b2, b3, b4, b5, b6, b7, b8, b9, b10, b11, b12, b13, b14, b15, b16, b17, b18, b19, b20, b21, b22, b23, b24, b25, b26, b27, b28, b29, b30, b31]) ++ fit 4 (e1.F []))) := by kernel_rfl

section
variable {P : Program} {w w' : World} {ops : Array Oper} {rest : List Oper} {o : Oper} {a : Act} {Q : Exit → Act → World → Prop} {v : Value}
/-- An operation that is wanted, and whose run is known. -/
theorem wpList_runw (hw : Region.wanted o (yielded ops a.tmps) = true) (hrun : (execOp a.eval o).run P w = .ok (.value v) w') (h : wpList P ops Q rest (a.put o.dst v) w') : wpList P ops Q (o :: rest) a w := by
  unfold wpList
  rw [if_pos hw]
  refine .inl ?_
  unfold Oper.wp
  rw [hrun]
  exact h
end

theorem load_op {ρ : Operand → Value} {dst : Option Nat} {T ty : TypeId} {x : Operand} {pos : String} {after : Array Edge} {g : Option (Nat × Bool)} {P : Program} {w w' : World} {v : Value} (h : (Instr.loadAt T (ρ x)).run P w = .ok v w') :
    (execOp ρ ⟨dst, .load T x, ty, pos, after, g⟩).run P w = .ok (.value v) w' := by simp [execOp, h]

/-- 32 bytes are loaded. -/
theorem run_load32 {w : World} {ad : Addr} {xs : List Value} (hl : xs.length = 32) (hc : ∀ j v, xs[j]? = some v → w.cell? (ad.add j) = some v) :
    (Instr.loadAt 33 (.pointer (some ad))).run Tryd.prog w = .ok (.agg xs.toArray) w := by
  have := run_loadCells_list (P := Tryd.prog) w ad xs hc
  rw [hl] at this
  simp [Instr.loadAt, Instr.sureAddr, loadVar, run_isAggB (P := Tryd.prog) (t := 33) (b := true) (by kernel_rfl), run_szOf (P := Tryd.prog) (t := 33) (n := 32) (by kernel_rfl), this]

end Go.Proofs.YtfeancgmmonebaaDoor.Sx
