/-
  Questions after field elements, scalars and words: what they come to. Conditions: none; each theorem bears its own.
-/
import Derived.Test.YtfeancgmmonebaaMgk
namespace Go.Proofs.Ytfeancgmmonebaa.Sx
open Go Go.Proofs

theorem lit_val (E : List Int) (n : Int) : (SI.lit n).val E = n := rfl

def iszB : BF := (.and (.and (.and (.and (.and (.and (.and (.and (.and (.eq (.var 0) (.lit 0)) (.eq (.var 1) (.lit 0))) (.eq (.var 2) (.lit 0))) (.eq (.var 3) (.lit 0))) (.eq (.var 4) (.lit 0))) (.eq (.var 5) (.lit 0))) (.eq (.var 6) (.lit 0))) (.eq (.var 7) (.lit 0))) (.eq (.var 8) (.lit 0))) (.eq (.var 9) (.lit 0)))

def isoB : BF := (.and (.and (.and (.and (.and (.and (.and (.and (.and (.eq (.var 0) (.lit 1)) (.eq (.var 1) (.lit 0))) (.eq (.var 2) (.lit 0))) (.eq (.var 3) (.lit 0))) (.eq (.var 4) (.lit 0))) (.eq (.var 5) (.lit 0))) (.eq (.var 6) (.lit 0))) (.eq (.var 7) (.lit 0))) (.eq (.var 8) (.lit 0))) (.eq (.var 9) (.lit 0)))

theorem far_words {x0 x1 x2 x3 x4 x5 x6 x7 x8 x9 : Int} (p0 : 0 ≤ x0 ∧ x0 < 2 ^ 26) (p1 : 0 ≤ x1 ∧ x1 < 2 ^ 26) (p2 : 0 ≤ x2 ∧ x2 < 2 ^ 26) (p3 : 0 ≤ x3 ∧ x3 < 2 ^ 26) (p4 : 0 ≤ x4 ∧ x4 < 2 ^ 26) (p5 : 0 ≤ x5 ∧ x5 < 2 ^ 26) (p6 : 0 ≤ x6 ∧ x6 < 2 ^ 26) (p7 : 0 ≤ x7 ∧ x7 < 2 ^ 26) (p8 : 0 ≤ x8 ∧ x8 < 2 ^ 26) (p9 : 0 ≤ x9 ∧ x9 < 2 ^ 26) :
    (((((((((0 < x9 ∨ (x9 = 0 ∧ 0 < x8)) ∨ ((x9 = 0 ∧ x8 = 0) ∧ 0 < x7)) ∨ (((x9 = 0 ∧ x8 = 0) ∧ x7 = 0) ∧ 0 < x6)) ∨ ((((x9 = 0 ∧ x8 = 0) ∧ x7 = 0) ∧ x6 = 0) ∧ 0 < x5)) ∨ (((((x9 = 0 ∧ x8 = 0) ∧ x7 = 0) ∧ x6 = 0) ∧ x5 = 0) ∧ 21319971 < x4)) ∨ ((((((x9 = 0 ∧ x8 = 0) ∧ x7 = 0) ∧ x6 = 0) ∧ x5 = 0) ∧ x4 = 21319971) ∧ 6636253 < x3)) ∨ (((((((x9 = 0 ∧ x8 = 0) ∧ x7 = 0) ∧ x6 = 0) ∧ x5 = 0) ∧ x4 = 21319971) ∧ x3 = 6636253) ∧ 33309698 < x2)) ∨ ((((((((x9 = 0 ∧ x8 = 0) ∧ x7 = 0) ∧ x6 = 0) ∧ x5 = 0) ∧ x4 = 21319971) ∧ x3 = 6636253) ∧ x2 = 33309698) ∧ 57171083 < x1)) ∨ (((((((((x9 = 0 ∧ x8 = 0) ∧ x7 = 0) ∧ x6 = 0) ∧ x5 = 0) ∧ x4 = 21319971) ∧ x3 = 6636253) ∧ x2 = 33309698) ∧ x1 = 57171083) ∧ 63552238 ≤ x0)) ↔ fp - fn ≤ num 26 [x0, x1, x2, x3, x4, x5, x6, x7, x8, x9] := by
  simp only [num]
  unfold fp fn
  constructor
  · rintro (((((((((l | ⟨e9, l⟩) | ⟨⟨e9, e8⟩, l⟩) | ⟨⟨⟨e9, e8⟩, e7⟩, l⟩) | ⟨⟨⟨⟨e9, e8⟩, e7⟩, e6⟩, l⟩) | ⟨⟨⟨⟨⟨e9, e8⟩, e7⟩, e6⟩, e5⟩, l⟩) | ⟨⟨⟨⟨⟨⟨e9, e8⟩, e7⟩, e6⟩, e5⟩, e4⟩, l⟩) | ⟨⟨⟨⟨⟨⟨⟨e9, e8⟩, e7⟩, e6⟩, e5⟩, e4⟩, e3⟩, l⟩) | ⟨⟨⟨⟨⟨⟨⟨⟨e9, e8⟩, e7⟩, e6⟩, e5⟩, e4⟩, e3⟩, e2⟩, l⟩) | ⟨⟨⟨⟨⟨⟨⟨⟨⟨e9, e8⟩, e7⟩, e6⟩, e5⟩, e4⟩, e3⟩, e2⟩, e1⟩, l⟩) <;> omega
  · intro h
    apply Decidable.byContradiction
    intro hn
    simp only [not_or, not_and, Int.not_lt, Int.not_le] at hn
    obtain ⟨⟨⟨⟨⟨⟨⟨⟨⟨n9, n8⟩, n7⟩, n6⟩, n5⟩, n4⟩, n3⟩, n2⟩, n1⟩, n0⟩ := hn
    have e9 : x9 = 0 := by omega
    have m8 := n8 (e9)
    have e8 : x8 = 0 := by omega
    have m7 := n7 (⟨e9, e8⟩)
    have e7 : x7 = 0 := by omega
    have m6 := n6 (⟨⟨e9, e8⟩, e7⟩)
    have e6 : x6 = 0 := by omega
    have m5 := n5 (⟨⟨⟨e9, e8⟩, e7⟩, e6⟩)
    have e5 : x5 = 0 := by omega
    have m4 := n4 (⟨⟨⟨⟨e9, e8⟩, e7⟩, e6⟩, e5⟩)
    have e4 : x4 = 21319971 := by omega
    have m3 := n3 (⟨⟨⟨⟨⟨e9, e8⟩, e7⟩, e6⟩, e5⟩, e4⟩)
    have e3 : x3 = 6636253 := by omega
    have m2 := n2 (⟨⟨⟨⟨⟨⟨e9, e8⟩, e7⟩, e6⟩, e5⟩, e4⟩, e3⟩)
    have e2 : x2 = 33309698 := by omega
    have m1 := n1 (⟨⟨⟨⟨⟨⟨⟨e9, e8⟩, e7⟩, e6⟩, e5⟩, e4⟩, e3⟩, e2⟩)
    have e1 : x1 = 57171083 := by omega
    have m0 := n0 (⟨⟨⟨⟨⟨⟨⟨⟨e9, e8⟩, e7⟩, e6⟩, e5⟩, e4⟩, e3⟩, e2⟩, e1⟩)
    omega

def farB : BF := (.or (.or (.or (.or (.or (.or (.or (.or (.or (.lt (.lit 0) (.var 9)) (.and (.eq (.var 9) (.lit 0)) (.lt (.lit 0) (.var 8)))) (.and (.and (.eq (.var 9) (.lit 0)) (.eq (.var 8) (.lit 0))) (.lt (.lit 0) (.var 7)))) (.and (.and (.and (.eq (.var 9) (.lit 0)) (.eq (.var 8) (.lit 0))) (.eq (.var 7) (.lit 0))) (.lt (.lit 0) (.var 6)))) (.and (.and (.and (.and (.eq (.var 9) (.lit 0)) (.eq (.var 8) (.lit 0))) (.eq (.var 7) (.lit 0))) (.eq (.var 6) (.lit 0))) (.lt (.lit 0) (.var 5)))) (.and (.and (.and (.and (.and (.eq (.var 9) (.lit 0)) (.eq (.var 8) (.lit 0))) (.eq (.var 7) (.lit 0))) (.eq (.var 6) (.lit 0))) (.eq (.var 5) (.lit 0))) (.lt (.lit 21319971) (.var 4)))) (.and (.and (.and (.and (.and (.and (.eq (.var 9) (.lit 0)) (.eq (.var 8) (.lit 0))) (.eq (.var 7) (.lit 0))) (.eq (.var 6) (.lit 0))) (.eq (.var 5) (.lit 0))) (.eq (.var 4) (.lit 21319971))) (.lt (.lit 6636253) (.var 3)))) (.and (.and (.and (.and (.and (.and (.and (.eq (.var 9) (.lit 0)) (.eq (.var 8) (.lit 0))) (.eq (.var 7) (.lit 0))) (.eq (.var 6) (.lit 0))) (.eq (.var 5) (.lit 0))) (.eq (.var 4) (.lit 21319971))) (.eq (.var 3) (.lit 6636253))) (.lt (.lit 33309698) (.var 2)))) (.and (.and (.and (.and (.and (.and (.and (.and (.eq (.var 9) (.lit 0)) (.eq (.var 8) (.lit 0))) (.eq (.var 7) (.lit 0))) (.eq (.var 6) (.lit 0))) (.eq (.var 5) (.lit 0))) (.eq (.var 4) (.lit 21319971))) (.eq (.var 3) (.lit 6636253))) (.eq (.var 2) (.lit 33309698))) (.lt (.lit 57171083) (.var 1)))) (.and (.and (.and (.and (.and (.and (.and (.and (.and (.eq (.var 9) (.lit 0)) (.eq (.var 8) (.lit 0))) (.eq (.var 7) (.lit 0))) (.eq (.var 6) (.lit 0))) (.eq (.var 5) (.lit 0))) (.eq (.var 4) (.lit 21319971))) (.eq (.var 3) (.lit 6636253))) (.eq (.var 2) (.lit 33309698))) (.eq (.var 1) (.lit 57171083))) (.not (.lt (.var 0) (.lit 63552238)))))

def siszB : BF := (.and (.and (.and (.and (.and (.and (.and (.eq (.var 0) (.lit 0)) (.eq (.var 1) (.lit 0))) (.eq (.var 2) (.lit 0))) (.eq (.var 3) (.lit 0))) (.eq (.var 4) (.lit 0))) (.eq (.var 5) (.lit 0))) (.eq (.var 6) (.lit 0))) (.eq (.var 7) (.lit 0)))

theorem sisz_spec {V : Int} (v0 : 0 ≤ V) (v1 : V < 2 ^ 256) : e_sisz.F (dig 32 8 V) = [b01 (decide (V = 0))] := by
  have hv := num_dig 32 8 V v0 v1
  have hd := dig_dg 32 8 V
  obtain ⟨x0, x1, x2, x3, x4, x5, x6, x7, hx⟩ := len8 (dig_length 32 8 V)
  rw [hx] at hv hd ⊢
  have px0 := hd x0 (by simp)
  have px1 := hd x1 (by simp)
  have px2 := hd x2 (by simp)
  have px3 := hd x3 (by simp)
  have px4 := hd x4 (by simp)
  have px5 := hd x5 (by simp)
  have px6 := hd x6 (by simp)
  have px7 := hd x7 (by simp)
  have hb : inB (List.replicate 8 ((0 : Int), (4294967295 : Int))) [x0, x1, x2, x3, x4, x5, x6, x7] := inB_rep rfl (hd.le (by decide))
  have hf := zAt_sound (Γ := G_sisz) (R := []) (rules_nil _) (defs := p_sisz.defs) (i := 14) (f := siszB) (by kernel_rfl) (by kernel_rfl) rfl hb
  have eF : e_sisz.F [x0, x1, x2, x3, x4, x5, x6, x7] = [if (runR G_sisz p_sisz.defs [x0, x1, x2, x3, x4, x5, x6, x7]).getD 14 0 = 0 then 1 else 0] := by kernel_rfl
  have hvars := vars_all G_sisz p_sisz.defs (l := [x0, x1, x2, x3, x4, x5, x6, x7]) (n := 8) rfl
  rw [eF]
  generalize runR G_sisz p_sisz.defs [x0, x1, x2, x3, x4, x5, x6, x7] = E at *
  have ex0 : (SI.var 0).val E = x0 := by have := congrArg (fun l => l.getD 0 0) hvars; exact this
  have ex1 : (SI.var 1).val E = x1 := by have := congrArg (fun l => l.getD 1 0) hvars; exact this
  have ex2 : (SI.var 2).val E = x2 := by have := congrArg (fun l => l.getD 2 0) hvars; exact this
  have ex3 : (SI.var 3).val E = x3 := by have := congrArg (fun l => l.getD 3 0) hvars; exact this
  have ex4 : (SI.var 4).val E = x4 := by have := congrArg (fun l => l.getD 4 0) hvars; exact this
  have ex5 : (SI.var 5).val E = x5 := by have := congrArg (fun l => l.getD 5 0) hvars; exact this
  have ex6 : (SI.var 6).val E = x6 := by have := congrArg (fun l => l.getD 6 0) hvars; exact this
  have ex7 : (SI.var 7).val E = x7 := by have := congrArg (fun l => l.getD 7 0) hvars; exact this
  rw [ite_b01]
  refine congrArg (fun b => [b01 b]) (Bool.eq_iff_iff.2 ?_)
  rw [decide_eq_true_eq, decide_eq_true_eq, hf, ← hv]
  simp only [siszB, BF.ev, Bool.and_eq_true, decide_eq_true_eq, ex0, ex1, ex2, ex3, ex4, ex5, ex6, ex7, lit_val, num]
  omega

def shiB : BF := (.or (.or (.or (.or (.lt (.lit 2147483647) (.var 7)) (.and (.and (.and (.and (.eq (.var 7) (.lit 2147483647)) (.eq (.var 6) (.lit 4294967295))) (.eq (.var 5) (.lit 4294967295))) (.eq (.var 4) (.lit 4294967295))) (.lt (.lit 1566010995) (.var 3)))) (.and (.and (.and (.and (.and (.eq (.var 7) (.lit 2147483647)) (.eq (.var 6) (.lit 4294967295))) (.eq (.var 5) (.lit 4294967295))) (.eq (.var 4) (.lit 4294967295))) (.eq (.var 3) (.lit 1566010995))) (.lt (.lit 1470386205) (.var 2)))) (.and (.and (.and (.and (.and (.and (.eq (.var 7) (.lit 2147483647)) (.eq (.var 6) (.lit 4294967295))) (.eq (.var 5) (.lit 4294967295))) (.eq (.var 4) (.lit 4294967295))) (.eq (.var 3) (.lit 1566010995))) (.eq (.var 2) (.lit 1470386205))) (.lt (.lit 3756601158) (.var 1)))) (.and (.and (.and (.and (.and (.and (.and (.eq (.var 7) (.lit 2147483647)) (.eq (.var 6) (.lit 4294967295))) (.eq (.var 5) (.lit 4294967295))) (.eq (.var 4) (.lit 4294967295))) (.eq (.var 3) (.lit 1566010995))) (.eq (.var 2) (.lit 1470386205))) (.eq (.var 1) (.lit 3756601158))) (.lt (.lit 1746608288) (.var 0))))

theorem shi_spec {V : Int} (v0 : 0 ≤ V) (v1 : V < 2 ^ 256) : e_shi.F (dig 32 8 V) = [b01 (decide (fn / 2 < V))] := by
  have hv := num_dig 32 8 V v0 v1
  have hd := dig_dg 32 8 V
  obtain ⟨x0, x1, x2, x3, x4, x5, x6, x7, hx⟩ := len8 (dig_length 32 8 V)
  rw [hx] at hv hd ⊢
  have px0 := hd x0 (by simp)
  have px1 := hd x1 (by simp)
  have px2 := hd x2 (by simp)
  have px3 := hd x3 (by simp)
  have px4 := hd x4 (by simp)
  have px5 := hd x5 (by simp)
  have px6 := hd x6 (by simp)
  have px7 := hd x7 (by simp)
  have hb : inB (List.replicate 8 ((0 : Int), (4294967295 : Int))) [x0, x1, x2, x3, x4, x5, x6, x7] := inB_rep rfl (hd.le (by decide))
  have hf := bfAt_sound (Γ := G_shi) (R := Rtests) (RB := [.eq, .gt, .ge]) rEqGtGe bEqGtGe (defs := p_shi.defs) (i := 34) (f := shiB) (by kernel_rfl) (by kernel_rfl) rfl hb
  have eF : e_shi.F [x0, x1, x2, x3, x4, x5, x6, x7] = [(runR G_shi p_shi.defs [x0, x1, x2, x3, x4, x5, x6, x7]).getD 34 0] := by kernel_rfl
  have hvars := vars_all G_shi p_shi.defs (l := [x0, x1, x2, x3, x4, x5, x6, x7]) (n := 8) rfl
  rw [eF]
  generalize runR G_shi p_shi.defs [x0, x1, x2, x3, x4, x5, x6, x7] = E at *
  have ex0 : (SI.var 0).val E = x0 := by have := congrArg (fun l => l.getD 0 0) hvars; exact this
  have ex1 : (SI.var 1).val E = x1 := by have := congrArg (fun l => l.getD 1 0) hvars; exact this
  have ex2 : (SI.var 2).val E = x2 := by have := congrArg (fun l => l.getD 2 0) hvars; exact this
  have ex3 : (SI.var 3).val E = x3 := by have := congrArg (fun l => l.getD 3 0) hvars; exact this
  have ex4 : (SI.var 4).val E = x4 := by have := congrArg (fun l => l.getD 4 0) hvars; exact this
  have ex5 : (SI.var 5).val E = x5 := by have := congrArg (fun l => l.getD 5 0) hvars; exact this
  have ex6 : (SI.var 6).val E = x6 := by have := congrArg (fun l => l.getD 6 0) hvars; exact this
  have ex7 : (SI.var 7).val E = x7 := by have := congrArg (fun l => l.getD 7 0) hvars; exact this
  rw [hf]
  refine congrArg (fun b => [b01 b]) (Bool.eq_iff_iff.2 ?_)
  rw [decide_eq_true_eq, ← hv]
  simp only [shiB, BF.ev, Bool.or_eq_true, Bool.and_eq_true, decide_eq_true_eq, ex0, ex1, ex2, ex3, ex4, ex5, ex6, ex7, lit_val, num]
  unfold fn
  omega

def equB : BF := (.and (.and (.and (.and (.and (.and (.and (.and (.and (.eq (.var 0) (.var 10)) (.eq (.var 1) (.var 11))) (.eq (.var 2) (.var 12))) (.eq (.var 3) (.var 13))) (.eq (.var 4) (.var 14))) (.eq (.var 5) (.var 15))) (.eq (.var 6) (.var 16))) (.eq (.var 7) (.var 17))) (.eq (.var 8) (.var 18))) (.eq (.var 9) (.var 19)))

def sequB : BF := (.and (.and (.and (.and (.and (.and (.and (.eq (.var 0) (.var 8)) (.eq (.var 1) (.var 9))) (.eq (.var 2) (.var 10))) (.eq (.var 3) (.var 11))) (.eq (.var 4) (.var 12))) (.eq (.var 5) (.var 13))) (.eq (.var 6) (.var 14))) (.eq (.var 7) (.var 15)))

theorem len4 {b : List Int} (h : b.length = 4) : ∃ a0 a1 a2 a3, b = [a0, a1, a2, a3] := by
  match b, h with
  | [a0, a1, a2, a3], _ => exact ⟨a0, a1, a2, a3, rfl⟩

theorem eqs_spec {A B : Int} (a0 : 0 ≤ A) (a1 : A < 2 ^ 256) (b0 : 0 ≤ B) (b1 : B < 2 ^ 256) : allEq (List.replicate 4 false) (twine (dig 64 4 A) (dig 64 4 B)) = decide (A = B) := by
  have key : ∀ (n : Nat) (l r : List Int), l.length = n → r.length = n → (allEq (List.replicate n false) (twine l r) = true ↔ l = r) := by
    intro n
    induction n with
    | zero =>
      intro l r hl hr
      rw [List.length_eq_zero_iff.1 hl, List.length_eq_zero_iff.1 hr]
      exact ⟨fun _ => rfl, fun _ => rfl⟩
    | succ n ih =>
      intro l r hl hr
      match l, r, hl, hr with
      | x :: l, y :: r, hl, hr =>
        simp only [List.replicate_succ, twine, allEq, Bool.false_eq_true, if_false, Bool.and_eq_true, decide_eq_true_eq, List.cons.injEq]
        rw [ih l r (by simpa using hl) (by simpa using hr)]
  apply Bool.eq_iff_iff.2
  rw [key 4 _ _ (dig_length 64 4 A) (dig_length 64 4 B), decide_eq_true_eq]
  exact ⟨dig_inj a0 a1 b0 b1, fun h => by rw [h]⟩

theorem uzer_spec {V : Int} (v0 : 0 ≤ V) (v1 : V < 2 ^ 256) : e_uzer.F (dig 64 4 V) = [b01 (decide (V = 0))] := by
  have h := eqs_spec v0 v1 (B := 0) (by decide) (by decide)
  obtain ⟨x0, x1, x2, x3, hx⟩ := len4 (dig_length 64 4 V)
  rw [hx] at h ⊢
  have eF : e_uzer.F [x0, x1, x2, x3] = [if allEq (List.replicate 4 false) (twine [x0, x1, x2, x3] (dig 64 4 0)) = true then 1 else 0] := by kernel_rfl
  rw [eF, h]
  rfl

theorem half_spec {V : Int} (v0 : 0 ≤ V) (v1 : V < 2 ^ 256) : e_half.F (dig 64 4 V ++ [0]) = dig 64 4 (V / 2) := by
  have hv := num_dig 64 4 V v0 v1
  have hd := dig_dg 64 4 V
  obtain ⟨x0, x1, x2, x3, hx⟩ := len4 (dig_length 64 4 V)
  rw [hx] at hv hd ⊢
  have px0 := hd x0 (by simp)
  have px1 := hd x1 (by simp)
  have px2 := hd x2 (by simp)
  have px3 := hd x3 (by simp)
  have hb : inB (List.replicate 4 ((0 : Int), (18446744073709551615 : Int)) ++ [(0, 0)]) ([x0, x1, x2, x3] ++ [0]) := inB_append rfl (inB_rep rfl (hd.le (by decide))) (inB_one (by decide) (by decide))
  have step : ∀ (a b : Int), 0 ≤ a → a < 2 ^ 64 → 0 ≤ b → b < 2 ^ 64 → bits .or .u64 (a.fdiv (2 ^ (min (1 : Int).toNat IntKind.u64.bits))) (IntKind.u64.wrap (b * 2 ^ (min (63 : Int).toNat IntKind.u64.bits))) = a / 2 + b % 2 * 9223372036854775808 := by
    intro a b a0 a1 b0 b1
    rw [show ((2 : Int) ^ (min (1 : Int).toNat IntKind.u64.bits)) = 2 from rfl, show ((2 : Int) ^ (min (63 : Int).toNat IntKind.u64.bits)) = 9223372036854775808 from rfl, Int.fdiv_eq_ediv_of_nonneg _ (by decide), w64]
    have e : b * 9223372036854775808 % 18446744073709551616 = b % 2 * 9223372036854775808 := by omega
    rw [e, bits_or (k := .u64) (b := 64) rfl (by omega) (by omega) (by omega) (by omega)]
    have := or_disj (x := (a / 2).toNat) (y := (b % 2 * 9223372036854775808).toNat) (t := 63) (by omega) ⟨(b % 2).toNat, by omega⟩
    rw [this]
    omega
  have eF : e_half.F ([x0, x1, x2, x3] ++ [0]) = [bits .or .u64 (x0.fdiv (2 ^ (min (1 : Int).toNat IntKind.u64.bits))) (IntKind.u64.wrap (x1 * 2 ^ (min (63 : Int).toNat IntKind.u64.bits))), bits .or .u64 (x1.fdiv (2 ^ (min (1 : Int).toNat IntKind.u64.bits))) (IntKind.u64.wrap (x2 * 2 ^ (min (63 : Int).toNat IntKind.u64.bits))),
      bits .or .u64 (x2.fdiv (2 ^ (min (1 : Int).toNat IntKind.u64.bits))) (IntKind.u64.wrap (x3 * 2 ^ (min (63 : Int).toNat IntKind.u64.bits))), bits .or .u64 (x3.fdiv (2 ^ (min (1 : Int).toNat IntKind.u64.bits))) (IntKind.u64.wrap (0 * 2 ^ (min (63 : Int).toNat IntKind.u64.bits)))] := by kernel_rfl
  rw [eF, step x0 x1 px0.1 px0.2 px1.1 px1.2, step x1 x2 px1.1 px1.2 px2.1 px2.2, step x2 x3 px2.1 px2.2 px3.1 px3.2, step x3 0 px3.1 px3.2 (by decide) (by decide)]
  refine dig_eq (w := 64) ?_ ?_
  · intro y hy
    simp only [List.mem_cons, List.not_mem_nil, or_false] at hy
    omega
  · rw [← hv]
    simp only [num]
    omega

theorem low_out' (e0 e1 e2 e3 : Entry) (a0 a1 a2 a3 : Int) : p_low.out [e0, e1, e2, e3] [a0, a1, a2, a3] = [if (fit 1 (e3.F (fit 4 (e2.F (fit 4 (e1.F (fit 4 (e0.F []) ++ [1, 0, 0, 0])) ++ [0])) ++ [a0, a1, a2, a3]))).headD 0 = 0 then 1 else 0] := by kernel_rfl

theorem low_spec {V : Int} (v0 : 0 ≤ V) (v1 : V < 2 ^ 256) : e_low.F (dig 64 4 V) = [b01 (decide (V ≤ fn / 2))] := by
  obtain ⟨x0, x1, x2, x3, hx⟩ := len4 (dig_length 64 4 V)
  have eF : e_low.F (dig 64 4 V) = [if (fit 1 (e_uless.F (fit 4 (e_half.F (fit 4 (e_lof.F (fit 4 (e_order.F []) ++ [1, 0, 0, 0])) ++ [0])) ++ dig 64 4 V))).headD 0 = 0 then 1 else 0] := by
    rw [hx]
    exact low_out' e_order e_lof e_half e_uless x0 x1 x2 x3
  have one : ([1, 0, 0, 0] : List Int) = dig 64 4 1 := by kernel_rfl
  rw [eF, order_spec, one, fit_eq (dig_length 64 4 _), lof_spec (by decide) fn_lt (by decide) (by decide), fit_eq (dig_length 64 4 _), half_spec (V := fn - 1) (by decide) (by have := fn_lt; omega), fit_eq (dig_length 64 4 _),
    uless_spec (A := (fn - 1) / 2) (by decide) (by unfold fn; omega) v0 v1]
  have e : (fn - 1) / 2 = fn / 2 := by unfold fn; omega
  rw [e]
  by_cases h : V ≤ fn / 2
  · have h2 : ¬ fn / 2 < V := by omega
    simp [b01, fit, h, h2]
  · have h2 : fn / 2 < V := by omega
    simp [b01, fit, h, h2]

theorem field_out' (e0 e1 : Entry) (b0 b1 b2 b3 b4 b5 b6 b7 b8 b9 b10 b11 b12 b13 b14 b15 b16 b17 b18 b19 b20 b21 b22 b23 b24 b25 b26 b27 b28 b29 b30 b31 : Int) : p_field.out [e0, e1] [b0, b1, b2, b3, b4, b5, b6, b7, b8, b9, b10, b11, b12, b13, b14, b15, b16, b17, b18, b19, b20, b21, b22, b23, b24, b25, b26, b27, b28, b29, b30, b31] = fit 10 (e1.F (fit 10 (e0.F (List.replicate 10 0 ++ [b0, b1, b2, b3, b4, b5, b6, b7, b8, b9, b10, b11, b12, b13, b14, b15, b16, b17, b18, b19, b20, b21, b22, b23, b24, b25, b26, b27, b28, b29, b30, b31])))) := by kernel_rfl

theorem scalar_out' (e0 : Entry) (b0 b1 b2 b3 b4 b5 b6 b7 b8 b9 b10 b11 b12 b13 b14 b15 b16 b17 b18 b19 b20 b21 b22 b23 b24 b25 b26 b27 b28 b29 b30 b31 : Int) : p_scalar.out [e0] [b0, b1, b2, b3, b4, b5, b6, b7, b8, b9, b10, b11, b12, b13, b14, b15, b16, b17, b18, b19, b20, b21, b22, b23, b24, b25, b26, b27, b28, b29, b30, b31] = fit 8 (e0.F (List.replicate 8 0 ++ [b0, b1, b2, b3, b4, b5, b6, b7, b8, b9, b10, b11, b12, b13, b14, b15, b16, b17, b18, b19, b20, b21, b22, b23, b24, b25, b26, b27, b28, b29, b30, b31])) := by kernel_rfl

theorem scalar_spec {bs : List Int} (h : bs.length = 32) (hd : Dg 8 bs) : e_scalar.F bs = dig 32 8 (be bs % fn) := by
  have e : e_scalar.F bs = fit 8 (e_ssetb.F (List.replicate 8 0 ++ bs)) := by
    obtain ⟨b0, b1, b2, b3, b4, b5, b6, b7, b8, b9, b10, b11, b12, b13, b14, b15, b16, b17, b18, b19, b20, b21, b22, b23, b24, b25, b26, b27, b28, b29, b30, b31, rfl⟩ := len32 h
    exact scalar_out' e_ssetb b0 b1 b2 b3 b4 b5 b6 b7 b8 b9 b10 b11 b12 b13 b14 b15 b16 b17 b18 b19 b20 b21 b22 b23 b24 b25 b26 b27 b28 b29 b30 b31
  rw [e, ssetb_spec (old := List.replicate 8 0) (by simp) (zeros_dg 32 8) h hd, fit_append (dig_length 32 8 _)]

theorem fasks_out' (e0 e1 e2 e3 e4 e5 : Entry) (b0 b1 b2 b3 b4 b5 b6 b7 b8 b9 b10 b11 b12 b13 b14 b15 b16 b17 b18 b19 b20 b21 b22 b23 b24 b25 b26 b27 b28 b29 b30 b31 c0 c1 c2 c3 c4 c5 c6 c7 c8 c9 c10 c11 c12 c13 c14 c15 c16 c17 c18 c19 c20 c21 c22 c23 c24 c25 c26 c27 c28 c29 c30 c31 : Int) : p_fasks.out [e0, e1, e2, e3, e4, e5] ([b0, b1, b2, b3, b4, b5, b6, b7, b8, b9, b10, b11, b12, b13, b14, b15, b16, b17, b18, b19, b20, b21, b22, b23, b24, b25, b26, b27, b28, b29, b30, b31] ++ [c0, c1, c2, c3, c4, c5, c6, c7, c8, c9, c10, c11, c12, c13, c14, c15, c16, c17, c18, c19, c20, c21, c22, c23, c24, c25, c26, c27, c28, c29, c30, c31]) =
    [(fit 1 (e1.F (fit 10 (e0.F [b0, b1, b2, b3, b4, b5, b6, b7, b8, b9, b10, b11, b12, b13, b14, b15, b16, b17, b18, b19, b20, b21, b22, b23, b24, b25, b26, b27, b28, b29, b30, b31])))).headD 0, (fit 1 (e2.F (fit 10 (e0.F [b0, b1, b2, b3, b4, b5, b6, b7, b8, b9, b10, b11, b12, b13, b14, b15, b16, b17, b18, b19, b20, b21, b22, b23, b24, b25, b26, b27, b28, b29, b30, b31])))).headD 0, (fit 1 (e3.F (fit 10 (e0.F [b0, b1, b2, b3, b4, b5, b6, b7, b8, b9, b10, b11, b12, b13, b14, b15, b16, b17, b18, b19, b20, b21, b22, b23, b24, b25, b26, b27, b28, b29, b30, b31])))).headD 0, (fit 1 (e4.F (fit 10 (e0.F [b0, b1, b2, b3, b4, b5, b6, b7, b8, b9, b10, b11, b12, b13, b14, b15, b16, b17, b18, b19, b20, b21, b22, b23, b24, b25, b26, b27, b28, b29, b30, b31]) ++ fit 10 (e0.F [c0, c1, c2, c3, c4, c5, c6, c7, c8, c9, c10, c11, c12, c13, c14, c15, c16, c17, c18, c19, c20, c21, c22, c23, c24, c25, c26, c27, c28, c29, c30, c31])))).headD 0, (fit 1 (e5.F (fit 10 (e0.F [b0, b1, b2, b3, b4, b5, b6, b7, b8, b9, b10, b11, b12, b13, b14, b15, b16, b17, b18, b19, b20, b21, b22, b23, b24, b25, b26, b27, b28, b29, b30, b31])))).headD 0] := by kernel_rfl

theorem sasks_out' (e0 e1 e2 e3 e4 : Entry) (b0 b1 b2 b3 b4 b5 b6 b7 b8 b9 b10 b11 b12 b13 b14 b15 b16 b17 b18 b19 b20 b21 b22 b23 b24 b25 b26 b27 b28 b29 b30 b31 c0 c1 c2 c3 c4 c5 c6 c7 c8 c9 c10 c11 c12 c13 c14 c15 c16 c17 c18 c19 c20 c21 c22 c23 c24 c25 c26 c27 c28 c29 c30 c31 : Int) : p_sasks.out [e0, e1, e2, e3, e4] ([b0, b1, b2, b3, b4, b5, b6, b7, b8, b9, b10, b11, b12, b13, b14, b15, b16, b17, b18, b19, b20, b21, b22, b23, b24, b25, b26, b27, b28, b29, b30, b31] ++ [c0, c1, c2, c3, c4, c5, c6, c7, c8, c9, c10, c11, c12, c13, c14, c15, c16, c17, c18, c19, c20, c21, c22, c23, c24, c25, c26, c27, c28, c29, c30, c31]) =
    [(fit 1 (e1.F (fit 8 (e0.F [b0, b1, b2, b3, b4, b5, b6, b7, b8, b9, b10, b11, b12, b13, b14, b15, b16, b17, b18, b19, b20, b21, b22, b23, b24, b25, b26, b27, b28, b29, b30, b31])))).headD 0, (fit 1 (e2.F (fit 8 (e0.F [b0, b1, b2, b3, b4, b5, b6, b7, b8, b9, b10, b11, b12, b13, b14, b15, b16, b17, b18, b19, b20, b21, b22, b23, b24, b25, b26, b27, b28, b29, b30, b31])))).headD 0, (fit 1 (e4.F (fit 8 (e0.F [b0, b1, b2, b3, b4, b5, b6, b7, b8, b9, b10, b11, b12, b13, b14, b15, b16, b17, b18, b19, b20, b21, b22, b23, b24, b25, b26, b27, b28, b29, b30, b31])))).headD 0, (fit 1 (e3.F (fit 8 (e0.F [b0, b1, b2, b3, b4, b5, b6, b7, b8, b9, b10, b11, b12, b13, b14, b15, b16, b17, b18, b19, b20, b21, b22, b23, b24, b25, b26, b27, b28, b29, b30, b31]) ++ fit 8 (e0.F [c0, c1, c2, c3, c4, c5, c6, c7, c8, c9, c10, c11, c12, c13, c14, c15, c16, c17, c18, c19, c20, c21, c22, c23, c24, c25, c26, c27, c28, c29, c30, c31])))).headD 0] := by kernel_rfl

end Go.Proofs.Ytfeancgmmonebaa.Sx

/-
  Contracts of the negation of a scalar. Printed by gen.py. Conditions: none; each theorem bears its own.
-/
namespace Go.Proofs.Ytfeancgmmonebaa.Sx
open Go Go.Proofs

def p_sne : Path := ⟨[.pr (.bin .and .u32) [.var 7, .lit 1], .pr (.bin .xor .u32) [.lit 4294967295, .var 6], .pr (.conv .u32) [.var 5], .pr (.bin .shr .u64) [.var 4, .lit 63], .pr (.bin .sub .u64) [.var 3, .lit 1], .pr (.conv .u64) [.var 2], .pr (.bin .xor .u32) [.var 0, .var 1]], [], [.var 8]⟩
def G_sne : List Entry := []
def e_sne : Entry := { f := 63, args := [.int .u32, .int .u32], res := [.int .u32], F := p_sne.out G_sne }
theorem r_sne : runFn Try.prog G_sne e_sne Try.f63.ntmps Try.f63.results.toList (Try.f63.body.getD .skip) = some ([], [p_sne]) := by kernel_rfl
theorem m_sne : Meets Try.prog e_sne :=
  meets_single mixed (fun e he => by simp [G_sne] at he) Try.func63 rfl (by kernel_rfl) r_sne rfl

def p_negv : Path := ⟨[.pr (.conv .u32) [.var 71], .pr (.bin .and .u64) [.var 70, .var 17], .pr (.bin .add .u64) [.var 67, .var 69], .pr (.conv .u64) [.var 68], .pr (.bin .xor .u32) [.lit 4294967295, .var 7], .pr (.bin .add .u64) [.var 66, .lit 4294967295], .pr (.bin .shr .u64) [.var 63, .lit 32], .pr (.conv .u32) [.var 64], .pr (.bin .and .u64) [.var 63, .var 17], .pr (.bin .add .u64) [.var 60, .var 62], .pr (.conv .u64) [.var 61], .pr (.bin .xor .u32) [.lit 4294967295, .var 6], .pr (.bin .add .u64) [.var 59, .lit 4294967295], .pr (.bin .shr .u64) [.var 56, .lit 32], .pr (.conv .u32) [.var 57], .pr (.bin .and .u64) [.var 56, .var 17], .pr (.bin .add .u64) [.var 53, .var 55], .pr (.conv .u64) [.var 54], .pr (.bin .xor .u32) [.lit 4294967295, .var 5], .pr (.bin .add .u64) [.var 52, .lit 4294967295], .pr (.bin .shr .u64) [.var 49, .lit 32], .pr (.conv .u32) [.var 50], .pr (.bin .and .u64) [.var 49, .var 17], .pr (.bin .add .u64) [.var 46, .var 48], .pr (.conv .u64) [.var 47], .pr (.bin .xor .u32) [.lit 4294967295, .var 4], .pr (.bin .add .u64) [.var 45, .lit 4294967294], .pr (.bin .shr .u64) [.var 42, .lit 32], .pr (.conv .u32) [.var 43], .pr (.bin .and .u64) [.var 42, .var 17], .pr (.bin .add .u64) [.var 39, .var 41], .pr (.conv .u64) [.var 40], .pr (.bin .xor .u32) [.lit 4294967295, .var 3], .pr (.bin .add .u64) [.var 38, .lit 3132021990], .pr (.bin .shr .u64) [.var 35, .lit 32], .pr (.conv .u32) [.var 36], .pr (.bin .and .u64) [.var 35, .var 17], .pr (.bin .add .u64) [.var 32, .var 34], .pr (.conv .u64) [.var 33], .pr (.bin .xor .u32) [.lit 4294967295, .var 2], .pr (.bin .add .u64) [.var 31, .lit 2940772411], .pr (.bin .shr .u64) [.var 28, .lit 32], .pr (.conv .u32) [.var 29], .pr (.bin .and .u64) [.var 28, .var 17], .pr (.bin .add .u64) [.var 25, .var 27], .pr (.conv .u64) [.var 26], .pr (.bin .xor .u32) [.lit 4294967295, .var 1], .pr (.bin .add .u64) [.var 24, .lit 3218235020], .pr (.bin .shr .u64) [.var 21, .lit 32], .pr (.conv .u32) [.var 22], .pr (.bin .and .u64) [.var 21, .var 17], .pr (.bin .add .u64) [.lit 3493216577, .var 20], .pr (.bin .add .u64) [.var 19, .lit 1], .pr (.conv .u64) [.var 18], .pr (.bin .xor .u32) [.lit 4294967295, .var 0], .pr (.conv .u64) [.var 16], .pr (.bin .mul .u32) [.lit 4294967295, .var 15], .app 0 [.var 14, .lit 0] 1, .pr (.bin .or .u32) [.var 13, .var 7], .pr (.bin .or .u32) [.var 12, .var 6], .pr (.bin .or .u32) [.var 11, .var 5], .pr (.bin .or .u32) [.var 10, .var 4], .pr (.bin .or .u32) [.var 9, .var 3], .pr (.bin .or .u32) [.var 8, .var 2], .pr (.bin .or .u32) [.var 0, .var 1]], [], [.var 23, .var 30, .var 37, .var 44, .var 51, .var 58, .var 65, .var 72]⟩
def G_negv : List Entry := [e_sne]
def e_negv : Entry := { f := 60, args := [.ptr (List.replicate 8 (some .u32)) true, .same 0], res := [.arg 0], F := p_negv.out G_negv }
theorem r_negv : runFn Try.prog G_negv e_negv Try.f60.ntmps Try.f60.results.toList (Try.f60.body.getD .skip) = some ([], [p_negv]) := by kernel_rfl
theorem m_negv : Meets Try.prog e_negv :=
  meets_single mixed (fun e he => by
    simp only [G_negv, List.mem_cons, List.not_mem_nil, or_false] at he
    rcases he with rfl
    · exact m_sne) Try.func60 rfl (by kernel_rfl) r_negv rfl

def p_sneg : Path := ⟨[.app 0 [.var 0, .var 1, .var 2, .var 3, .var 4, .var 5, .var 6, .var 7] 8], [], [.var 8, .var 9, .var 10, .var 11, .var 12, .var 13, .var 14, .var 15]⟩
def G_sneg : List Entry := [e_negv]
def e_sneg : Entry := { f := 48, args := [.ptr (List.replicate 8 (some .u32)) true], res := [.arg 0], F := p_sneg.out G_sneg }
theorem r_sneg : runFn Try.prog G_sneg e_sneg Try.f48.ntmps Try.f48.results.toList (Try.f48.body.getD .skip) = some ([], [p_sneg]) := by kernel_rfl
theorem m_sneg : Meets Try.prog e_sneg :=
  meets_single mixed (fun e he => by
    simp only [G_sneg, List.mem_cons, List.not_mem_nil, or_false] at he
    rcases he with rfl
    · exact m_negv) Try.func48 rfl (by kernel_rfl) r_sneg rfl

end Go.Proofs.Ytfeancgmmonebaa.Sx

/-
  The negation of a scalar but 0: the order less the number. Conditions: none; each theorem bears its own.
-/
namespace Go.Proofs.Ytfeancgmmonebaa.Sx
open Go Go.Proofs

theorem F_sne {v : Int} (h0 : 1 ≤ v) (h1 : v < 2 ^ 32) : e_sne.F [v, 0] = [1] := by
  show [bits .and .u32 (bits .xor .u32 4294967295 (IntKind.u32.wrap ((IntKind.u64.wrap (IntKind.u64.wrap (bits .xor .u32 v 0) - 1)).fdiv (2 ^ (min (63 : Int).toNat IntKind.u64.bits))))) 1] = _
  have hx : bits .xor .u32 v 0 = v := by
    rw [bits_xor (k := .u32) (b := 32) rfl (by omega) h1 (by decide) (by decide)]
    simp
    omega
  rw [hx, w32, w64, w64, show ((2 : Int) ^ (min (63 : Int).toNat IntKind.u64.bits)) = 9223372036854775808 from rfl, Int.fdiv_eq_ediv_of_nonneg _ (by decide),
    show v % 18446744073709551616 = v by omega, show (v - 1) % 18446744073709551616 / 9223372036854775808 % 4294967296 = 0 by omega]
  decide

theorem xor_ones {x : Int} (h0 : 0 ≤ x) (h1 : x < 2 ^ 32) : bits .xor .u32 4294967295 x = IntKind.u32.wrap (4294967295 - x) := by
  rw [bits_xor (k := .u32) (b := 32) rfl (by decide) (by decide) h0 h1, w32]
  have h2 : (4294967295 : Nat) ^^^ x.toNat = 4294967295 - x.toNat := by
    have h3 : x.toNat < 2 ^ 32 := by omega
    have := congrArg BitVec.toNat (BitVec.allOnes_xor (x := BitVec.ofNat 32 x.toNat))
    rw [BitVec.toNat_xor, BitVec.toNat_not, BitVec.toNat_allOnes, BitVec.toNat_ofNat, Nat.mod_eq_of_lt h3] at this
    exact this
  rw [show (4294967295 : Int).toNat = 4294967295 from rfl, h2]
  omega

/-- Two turns: of a complement into a difference, of a mask of ones into a constant. -/
def swapD : Def → Def
  | .pr (.bin .xor .u32) [.lit 4294967295, .var i] => .pr (.bin .sub .u32) [.lit 4294967295, .var i]
  | .pr (.bin .and .u64) [x, .var 17] => .pr (.bin .and .u64) [x, .lit 4294967295]
  | d => d

def swapOk : Def → Bool
  | .pr (.bin .xor .u32) [.lit 4294967295, .var i] => decide (i < 8)
  | .pr (.bin .xor .u32) _ => false
  | _ => true

theorem swap_ev {Γ : List Entry} {E : List Int} (h17 : E.getD 17 0 = 4294967295) (hx : ∀ i, i < 8 → 0 ≤ E.getD i 0 ∧ E.getD i 0 < 2 ^ 32) (d : Def) (hd : swapOk d = true) : d.ev Γ E = (swapD d).ev Γ E := by
  unfold swapD
  split
  · rename_i i
    have hi : i < 8 := by simpa [swapOk] using hd
    obtain ⟨h0, h1⟩ := hx i hi
    show [bits .xor .u32 4294967295 (E.getD i 0)] = [IntKind.u32.wrap (4294967295 - E.getD i 0)]
    rw [xor_ones h0 h1]
  · rename_i x
    show [bits .and .u64 (x.val E) (E.getD 17 0)] = [bits .and .u64 (x.val E) 4294967295]
    rw [h17]
  · rfl

theorem getD_pre {a s : List Int} {i : Nat} (h : i < a.length) : (a ++ s).getD i 0 = a.getD i 0 := by
  simp [List.getD, List.getElem?_append_left h]

theorem swap_run {Γ : List Entry} {base : List Int} (hl : base.length = 18) (h17 : base.getD 17 0 = 4294967295) (hx : ∀ i, i < 8 → 0 ≤ base.getD i 0 ∧ base.getD i 0 < 2 ^ 32) :
    ∀ l : List Def, l.all swapOk = true → runR Γ l base = runR Γ (l.map swapD) base
  | [], _ => rfl
  | d :: l, h => by
    simp only [List.all_cons, Bool.and_eq_true] at h
    have ih := swap_run (Γ := Γ) hl h17 hx l h.2
    obtain ⟨s, hs⟩ := runR_pre Γ l base
    have e17 : (runR Γ l base).getD 17 0 = 4294967295 := by rw [hs, getD_pre (by omega), h17]
    have ex : ∀ i, i < 8 → 0 ≤ (runR Γ l base).getD i 0 ∧ (runR Γ l base).getD i 0 < 2 ^ 32 := fun i hi => by rw [hs, getD_pre (by omega)]; exact hx i hi
    show runR Γ l base ++ d.ev Γ (runR Γ l base) = runR Γ (l.map swapD) base ++ (swapD d).ev Γ (runR Γ (l.map swapD) base)
    rw [← ih, swap_ev e17 ex d h.1]

def negvB : List Def := p_negv.defs.take 55
def negvA : List Def := p_negv.defs.drop 55

theorem runR_app (Γ : List Entry) (b : List Int) : ∀ l r : List Def, runR Γ (l ++ r) b = runR Γ l (runR Γ r b)
  | [], _ => rfl
  | d :: l, r => by
    show runR Γ (l ++ r) b ++ d.ev Γ (runR Γ (l ++ r) b) = runR Γ l (runR Γ r b) ++ d.ev Γ (runR Γ l (runR Γ r b))
    rw [runR_app Γ b l r]

theorem or_pos {x y : Int} (hx0 : 0 ≤ x) (hx : x < 2 ^ 32) (hy0 : 0 ≤ y) (hy : y < 2 ^ 32) : 0 ≤ bits .or .u32 x y ∧ bits .or .u32 x y < 2 ^ 32 ∧ (bits .or .u32 x y = 0 → x = 0 ∧ y = 0) := by
  rw [bits_or (k := .u32) (b := 32) rfl hx0 hx hy0 hy]
  have h : x.toNat ||| y.toNat < 2 ^ 32 := Nat.or_lt_two_pow (toNat_lt hx0 hx) (toNat_lt hy0 hy)
  refine ⟨by omega, by omega, fun h => ?_⟩
  have h1 : x.toNat ||| y.toNat = 0 := by omega
  have := Nat.or_eq_zero_iff.1 h1
  omega

theorem negvA_run (e0 : Entry) (x0 x1 x2 x3 x4 x5 x6 x7 o8 o9 o10 o11 o12 o13 o14 o15 : Int) (h8 : bits .or .u32 x0 x1 = o8) (h9 : bits .or .u32 o8 x2 = o9) (h10 : bits .or .u32 o9 x3 = o10) (h11 : bits .or .u32 o10 x4 = o11) (h12 : bits .or .u32 o11 x5 = o12)
    (h13 : bits .or .u32 o12 x6 = o13) (h14 : bits .or .u32 o13 x7 = o14) (h15 : (e0.F [o14, 0]).headD 0 = o15) : runR [e0] negvA [x0, x1, x2, x3, x4, x5, x6, x7] =
      [x0, x1, x2, x3, x4, x5, x6, x7, o8, o9, o10, o11, o12, o13, o14, o15, IntKind.u32.wrap (4294967295 * o15), IntKind.u64.wrap (IntKind.u32.wrap (4294967295 * o15))] := by
  subst h8 h9 h10 h11 h12 h13 h14 h15
  kernel_rfl

theorem negvA_spec {V : Int} (v0 : 0 < V) (v1 : V < 2 ^ 256) : ∃ o, o.length = 7 ∧ Dg 32 o ∧ runR G_negv negvA (dig 32 8 V) = dig 32 8 V ++ (o ++ [1, 4294967295, 4294967295]) := by
  have hv := num_dig 32 8 V (by omega) v1
  have hd := dig_dg 32 8 V
  obtain ⟨x0, x1, x2, x3, x4, x5, x6, x7, hx⟩ := len8 (dig_length 32 8 V)
  rw [hx] at hv hd ⊢
  have b0 := hd x0 (by simp)
  have b1 := hd x1 (by simp)
  have b2 := hd x2 (by simp)
  have b3 := hd x3 (by simp)
  have b4 := hd x4 (by simp)
  have b5 := hd x5 (by simp)
  have b6 := hd x6 (by simp)
  have b7 := hd x7 (by simp)
  obtain ⟨p8, q8, r8⟩ := or_pos b0.1 b0.2 b1.1 b1.2
  obtain ⟨o8, h8⟩ : ∃ o, bits .or .u32 x0 x1 = o := ⟨_, rfl⟩
  rw [h8] at p8 q8 r8
  obtain ⟨p9, q9, r9⟩ := or_pos p8 q8 b2.1 b2.2
  obtain ⟨o9, h9⟩ : ∃ o, bits .or .u32 o8 x2 = o := ⟨_, rfl⟩
  rw [h9] at p9 q9 r9
  obtain ⟨p10, q10, r10⟩ := or_pos p9 q9 b3.1 b3.2
  obtain ⟨o10, h10⟩ : ∃ o, bits .or .u32 o9 x3 = o := ⟨_, rfl⟩
  rw [h10] at p10 q10 r10
  obtain ⟨p11, q11, r11⟩ := or_pos p10 q10 b4.1 b4.2
  obtain ⟨o11, h11⟩ : ∃ o, bits .or .u32 o10 x4 = o := ⟨_, rfl⟩
  rw [h11] at p11 q11 r11
  obtain ⟨p12, q12, r12⟩ := or_pos p11 q11 b5.1 b5.2
  obtain ⟨o12, h12⟩ : ∃ o, bits .or .u32 o11 x5 = o := ⟨_, rfl⟩
  rw [h12] at p12 q12 r12
  obtain ⟨p13, q13, r13⟩ := or_pos p12 q12 b6.1 b6.2
  obtain ⟨o13, h13⟩ : ∃ o, bits .or .u32 o12 x6 = o := ⟨_, rfl⟩
  rw [h13] at p13 q13 r13
  obtain ⟨p14, q14, r14⟩ := or_pos p13 q13 b7.1 b7.2
  obtain ⟨o14, h14⟩ : ∃ o, bits .or .u32 o13 x7 = o := ⟨_, rfl⟩
  rw [h14] at p14 q14 r14
  have hne : 1 ≤ o14 := by
    rcases Int.lt_or_le 0 o14 with h | h
    · exact h
    · exfalso
      obtain ⟨h13, e7⟩ := r14 (by omega)
      obtain ⟨h12, e6⟩ := r13 h13
      obtain ⟨h11, e5⟩ := r12 h12
      obtain ⟨h10, e4⟩ := r11 h11
      obtain ⟨h9, e3⟩ := r10 h10
      obtain ⟨h8, e2⟩ := r9 h9
      obtain ⟨e0, e1⟩ := r8 h8
      subst e0 e1 e2 e3 e4 e5 e6 e7
      simp [num] at hv
      omega
  refine ⟨[o8, o9, o10, o11, o12, o13, o14], rfl, ?_, ?_⟩
  · intro x hx
    simp only [List.mem_cons, List.not_mem_nil, or_false] at hx
    rcases hx with rfl | rfl | rfl | rfl | rfl | rfl | rfl
    · exact ⟨p8, q8⟩
    · exact ⟨p9, q9⟩
    · exact ⟨p10, q10⟩
    · exact ⟨p11, q11⟩
    · exact ⟨p12, q12⟩
    · exact ⟨p13, q13⟩
    · exact ⟨p14, q14⟩
  · exact (negvA_run e_sne x0 x1 x2 x3 x4 x5 x6 x7 o8 o9 o10 o11 o12 o13 o14 1 h8 h9 h10 h11 h12 h13 h14 (by rw [F_sne hne q14]; rfl)).trans rfl

def fnL : Int := 115792089237316195423570985008687907852837564279074904382605163141518161494337

set_option maxRecDepth 100000 in
theorem negv_spec {V : Int} (v0 : 0 < V) (v1 : V < fn) : e_negv.F (dig 32 8 V) = dig 32 8 (fn - V) := by
  have v2 : V < 2 ^ 256 := Int.lt_trans v1 fn_lt
  obtain ⟨o, ho, hod, hA⟩ := negvA_spec v0 v2
  show p_negv.outs.map (·.val (runR G_negv p_negv.defs (dig 32 8 V))) = _
  have hsplit : p_negv.defs = negvB ++ negvA := (List.take_append_drop 55 p_negv.defs).symm
  rw [hsplit, runR_app, hA]
  obtain ⟨E, hE⟩ : ∃ E, E = dig 32 8 V ++ (o ++ [1, 4294967295, 4294967295]) := ⟨_, rfl⟩
  have hl : E.length = 18 := by rw [hE]; simp [dig_length, ho]
  have h17 : E.getD 17 0 = 4294967295 := by
    rw [hE, List.getD, List.getElem?_append_right (by simp [dig_length]), List.getElem?_append_right (by simp [dig_length, ho])]
    simp [dig_length, ho]
  have hxs : ∀ i, i < 8 → 0 ≤ E.getD i 0 ∧ E.getD i 0 < 2 ^ 32 := fun i hi => by
    rw [hE, getD_pre (by simp [dig_length]; omega)]
    have hlt : i < (dig 32 8 V).length := by simp [dig_length]; omega
    rw [List.getD, List.getElem?_eq_getElem hlt]
    exact dig_dg 32 8 V _ (List.getElem_mem hlt)
  rw [← hE, swap_run hl h17 hxs negvB (by kernel_rfl)]
  have hb : inB (List.replicate 8 ((0 : Int), (4294967295 : Int)) ++ (List.replicate 7 ((0 : Int), (4294967295 : Int)) ++ [(1, 1), (4294967295, 4294967295), (4294967295, 4294967295)])) E := by
    rw [hE]
    refine inB_append (by simp [dig_length]) (inB_rep (dig_length 32 8 V) ((dig_dg 32 8 V).le (by decide))) (inB_append (by simp [ho]) (inB_rep ho (hod.le (by decide))) ?_)
    intro i b hi
    match i with
    | 0 => cases hi; exact ⟨by decide, by decide⟩
    | 1 => cases hi; exact ⟨by decide, by decide⟩
    | 2 => cases hi; exact ⟨by decide, by decide⟩
    | i + 3 => simp at hi
  have h := redig (Γ := G_negv) (R := []) (rules_nil _) (ds := negvB.map swapD) (w := 32) (outs := p_negv.outs) (L := linOf 32 1 (vars 0 8) ++ [(.lit 1, -fnL)]) (by kernel_rfl) (by rw [hl]; rfl) hb
  rw [linV_append, linOf_val] at h
  have hv8 : (vars 0 8).map (·.val (runR G_negv (negvB.map swapD) E)) = dig 32 8 V := by rw [hE]; exact vars_base0 G_negv _ (dig_length 32 8 V)
  rw [hv8, num_dig 32 8 V (by omega) v2] at h
  rw [h]
  show dig 32 8 _ = dig 32 8 _
  congr 1
  show -(1 * V + (-fnL * 1 + 0)) = fn - V
  unfold fnL fn
  omega

theorem sneg_out' (e0 : Entry) (x0 x1 x2 x3 x4 x5 x6 x7 : Int) : p_sneg.out [e0] [x0, x1, x2, x3, x4, x5, x6, x7] = fit 8 (e0.F [x0, x1, x2, x3, x4, x5, x6, x7]) := by kernel_rfl

theorem sneg_spec {V : Int} (v0 : 0 < V) (v1 : V < fn) : e_sneg.F (dig 32 8 V) = dig 32 8 (fn - V) := by
  have h := negv_spec v0 v1
  obtain ⟨x0, x1, x2, x3, x4, x5, x6, x7, hx⟩ := len8 (dig_length 32 8 V)
  obtain ⟨y0, y1, y2, y3, y4, y5, y6, y7, hy⟩ := len8 (dig_length 32 8 (fn - V))
  rw [hx, hy] at h ⊢
  have e : e_sneg.F [x0, x1, x2, x3, x4, x5, x6, x7] = fit 8 (e_negv.F [x0, x1, x2, x3, x4, x5, x6, x7]) := sneg_out' e_negv x0 x1 x2 x3 x4 x5 x6 x7
  rw [e, h]
  rfl

end Go.Proofs.Ytfeancgmmonebaa.Sx
