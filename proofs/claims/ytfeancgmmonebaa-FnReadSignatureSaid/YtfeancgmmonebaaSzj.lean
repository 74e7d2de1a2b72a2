/-
  Questions after field elements, scalars and words: what they come to. Conditions: none; each theorem bears its own.
-/
import Derived.Test.YtfeancgmmonebaaSyf
import Derived.Test.YtfeancgmmonebaaSzi
namespace Go.Proofs.Ytfeancgmmonebaa.Sx
open Go Go.Proofs

theorem lit_val (E : List Int) (n : Int) : (SI.lit n).val E = n := rfl

def iszB : BF := (.and (.and (.and (.and (.and (.and (.and (.and (.and (.eq (.var 0) (.lit 0)) (.eq (.var 1) (.lit 0))) (.eq (.var 2) (.lit 0))) (.eq (.var 3) (.lit 0))) (.eq (.var 4) (.lit 0))) (.eq (.var 5) (.lit 0))) (.eq (.var 6) (.lit 0))) (.eq (.var 7) (.lit 0))) (.eq (.var 8) (.lit 0))) (.eq (.var 9) (.lit 0)))

def isoB : BF := (.and (.and (.and (.and (.and (.and (.and (.and (.and (.eq (.var 0) (.lit 1)) (.eq (.var 1) (.lit 0))) (.eq (.var 2) (.lit 0))) (.eq (.var 3) (.lit 0))) (.eq (.var 4) (.lit 0))) (.eq (.var 5) (.lit 0))) (.eq (.var 6) (.lit 0))) (.eq (.var 7) (.lit 0))) (.eq (.var 8) (.lit 0))) (.eq (.var 9) (.lit 0)))

theorem far_words {x0 x1 x2 x3 x4 x5 x6 x7 x8 x9 : Int} (p0 : 0 ≤ x0 ∧ x0 < 2 ^ 26) (p1 : 0 ≤ x1 ∧ x1 < 2 ^ 26) (p2 : 0 ≤ x2 ∧ x2 < 2 ^ 26) (p3 : 0 ≤ x3 ∧ x3 < 2 ^ 26) (p4 : 0 ≤ x4 ∧ x4 < 2 ^ 26) (p5 : 0 ≤ x5 ∧ x5 < 2 ^ 26) (p6 : 0 ≤ x6 ∧ x6 < 2 ^ 26) (p7 : 0 ≤ x7 ∧ x7 < 2 ^ 26) (p8 : 0 ≤ x8 ∧ x8 < 2 ^ 26) (p9 : 0 ≤ x9 ∧ x9 < 2 ^ 26) :
    (((((((((0 < x9 ∨ (x9 = 0 ∧ 0 < x8)) ∨ ((x9 = 0 ∧ x8 = 0) ∧ 0 < x7)) ∨ (((x9 = 0 ∧ x8 = 0) ∧ x7 = 0) ∧ 0 < x6)) ∨ ((((x9 = 0 ∧ x8 = 0) ∧ x7 = 0) ∧ x6 = 0) ∧ 0 < x5)) ∨ (((((x9 = 0 ∧ x8 = 0) ∧ x7 = 0) ∧ x6 = 0) ∧ x5 = 0) ∧ 21319971 < x4)) ∨ ((((((x9 = 0 ∧ x8 = 0) ∧ x7 = 0) ∧ x6 = 0) ∧ x5 = 0) ∧ x4 = 21319971) ∧ 6636253 < x3)) ∨ (((((((x9 = 0 ∧ x8 = 0) ∧ x7 = 0) ∧ x6 = 0) ∧ x5 = 0) ∧ x4 = 21319971) ∧ x3 = 6636253) ∧ 33309698 < x2)) ∨ ((((((((x9 = 0 ∧ x8 = 0) ∧ x7 = 0) ∧ x6 = 0) ∧ x5 = 0) ∧ x4 = 21319971) ∧ x3 = 6636253) ∧ x2 = 33309698) ∧ 57171083 < x1)) ∨ (((((((((x9 = 0 ∧ x8 = 0) ∧ x7 = 0) ∧ x6 = 0) ∧ x5 = 0) ∧ x4 = 21319971) ∧ x3 = 6636253) ∧ x2 = 33309698) ∧ x1 = 57171083) ∧ 63552238 ≤ x0)) ↔ fp - fn ≤ num 26 [x0, x1, x2, x3, x4, x5, x6, x7, x8, x9] := by
  simp only [num]
  unfold fp fn
  constructor
  · rintro (((((((((l | ⟨e9, l⟩) | ⟨⟨e9, e8⟩, l⟩) | ⟨⟨⟨e9, e8⟩, e7⟩, l⟩) | ⟨⟨⟨⟨e9, e8⟩, e7⟩, e6⟩, l⟩) | ⟨⟨⟨⟨⟨e9, e8⟩, e7⟩, e6⟩, e5⟩, l⟩) | ⟨⟨⟨⟨⟨⟨e9, e8⟩, e7⟩, e6⟩, e5⟩, e4⟩, l⟩) | ⟨⟨⟨⟨⟨⟨⟨e9, e8⟩, e7⟩, e6⟩, e5⟩, e4⟩, e3⟩, l⟩) | ⟨⟨⟨⟨⟨⟨⟨⟨e9, e8⟩, e7⟩, e6⟩, e5⟩, e4⟩, e3⟩, e2⟩, l⟩) | ⟨⟨⟨⟨⟨⟨⟨⟨⟨e9, e8⟩, e7⟩, e6⟩, e5⟩, e4⟩, e3⟩, e2⟩, e1⟩, l⟩) <;> omega
  · intro h
    apply Decidable.byContradiction
    intro hn
    simp only [not_or, not_and, Int.not_lt, Int.not_le] at hn
    obtain ⟨⟨⟨⟨⟨⟨⟨⟨⟨n9, n8⟩, n7⟩, n6⟩, n5⟩, n4⟩, n3⟩, n2⟩, n1⟩, n0⟩ := hn
    have e9 : x9 = 0 := by omega
    have m8 := n8 (e9)
    have e8 : x8 = 0 := by omega
    have m7 := n7 (⟨e9, e8⟩)
    have e7 : x7 = 0 := by omega
    have m6 := n6 (⟨⟨e9, e8⟩, e7⟩)
    have e6 : x6 = 0 := by omega
    have m5 := n5 (⟨⟨⟨e9, e8⟩, e7⟩, e6⟩)
    have e5 : x5 = 0 := by omega
    have m4 := n4 (⟨⟨⟨⟨e9, e8⟩, e7⟩, e6⟩, e5⟩)
    have e4 : x4 = 21319971 := by omega
    have m3 := n3 (⟨⟨⟨⟨⟨e9, e8⟩, e7⟩, e6⟩, e5⟩, e4⟩)
    have e3 : x3 = 6636253 := by omega
    have m2 := n2 (⟨⟨⟨⟨⟨⟨e9, e8⟩, e7⟩, e6⟩, e5⟩, e4⟩, e3⟩)
    have e2 : x2 = 33309698 := by omega
    have m1 := n1 (⟨⟨⟨⟨⟨⟨⟨e9, e8⟩, e7⟩, e6⟩, e5⟩, e4⟩, e3⟩, e2⟩)
    have e1 : x1 = 57171083 := by omega
    have m0 := n0 (⟨⟨⟨⟨⟨⟨⟨⟨e9, e8⟩, e7⟩, e6⟩, e5⟩, e4⟩, e3⟩, e2⟩, e1⟩)
    omega

def farB : BF := (.or (.or (.or (.or (.or (.or (.or (.or (.or (.lt (.lit 0) (.var 9)) (.and (.eq (.var 9) (.lit 0)) (.lt (.lit 0) (.var 8)))) (.and (.and (.eq (.var 9) (.lit 0)) (.eq (.var 8) (.lit 0))) (.lt (.lit 0) (.var 7)))) (.and (.and (.and (.eq (.var 9) (.lit 0)) (.eq (.var 8) (.lit 0))) (.eq (.var 7) (.lit 0))) (.lt (.lit 0) (.var 6)))) (.and (.and (.and (.and (.eq (.var 9) (.lit 0)) (.eq (.var 8) (.lit 0))) (.eq (.var 7) (.lit 0))) (.eq (.var 6) (.lit 0))) (.lt (.lit 0) (.var 5)))) (.and (.and (.and (.and (.and (.eq (.var 9) (.lit 0)) (.eq (.var 8) (.lit 0))) (.eq (.var 7) (.lit 0))) (.eq (.var 6) (.lit 0))) (.eq (.var 5) (.lit 0))) (.lt (.lit 21319971) (.var 4)))) (.and (.and (.and (.and (.and (.and (.eq (.var 9) (.lit 0)) (.eq (.var 8) (.lit 0))) (.eq (.var 7) (.lit 0))) (.eq (.var 6) (.lit 0))) (.eq (.var 5) (.lit 0))) (.eq (.var 4) (.lit 21319971))) (.lt (.lit 6636253) (.var 3)))) (.and (.and (.and (.and (.and (.and (.and (.eq (.var 9) (.lit 0)) (.eq (.var 8) (.lit 0))) (.eq (.var 7) (.lit 0))) (.eq (.var 6) (.lit 0))) (.eq (.var 5) (.lit 0))) (.eq (.var 4) (.lit 21319971))) (.eq (.var 3) (.lit 6636253))) (.lt (.lit 33309698) (.var 2)))) (.and (.and (.and (.and (.and (.and (.and (.and (.eq (.var 9) (.lit 0)) (.eq (.var 8) (.lit 0))) (.eq (.var 7) (.lit 0))) (.eq (.var 6) (.lit 0))) (.eq (.var 5) (.lit 0))) (.eq (.var 4) (.lit 21319971))) (.eq (.var 3) (.lit 6636253))) (.eq (.var 2) (.lit 33309698))) (.lt (.lit 57171083) (.var 1)))) (.and (.and (.and (.and (.and (.and (.and (.and (.and (.eq (.var 9) (.lit 0)) (.eq (.var 8) (.lit 0))) (.eq (.var 7) (.lit 0))) (.eq (.var 6) (.lit 0))) (.eq (.var 5) (.lit 0))) (.eq (.var 4) (.lit 21319971))) (.eq (.var 3) (.lit 6636253))) (.eq (.var 2) (.lit 33309698))) (.eq (.var 1) (.lit 57171083))) (.not (.lt (.var 0) (.lit 63552238)))))

def siszB : BF := (.and (.and (.and (.and (.and (.and (.and (.eq (.var 0) (.lit 0)) (.eq (.var 1) (.lit 0))) (.eq (.var 2) (.lit 0))) (.eq (.var 3) (.lit 0))) (.eq (.var 4) (.lit 0))) (.eq (.var 5) (.lit 0))) (.eq (.var 6) (.lit 0))) (.eq (.var 7) (.lit 0)))

theorem sisz_spec {V : Int} (v0 : 0 ≤ V) (v1 : V < 2 ^ 256) : e_sisz.F (dig 32 8 V) = [b01 (decide (V = 0))] := by
  have hv := num_dig 32 8 V v0 v1
  have hd := dig_dg 32 8 V
  obtain ⟨x0, x1, x2, x3, x4, x5, x6, x7, hx⟩ := len8 (dig_length 32 8 V)
  rw [hx] at hv hd ⊢
  have px0 := hd x0 (by simp)
  have px1 := hd x1 (by simp)
  have px2 := hd x2 (by simp)
  have px3 := hd x3 (by simp)
  have px4 := hd x4 (by simp)
  have px5 := hd x5 (by simp)
  have px6 := hd x6 (by simp)
  have px7 := hd x7 (by simp)
  have hb : inB (List.replicate 8 ((0 : Int), (4294967295 : Int))) [x0, x1, x2, x3, x4, x5, x6, x7] := inB_rep rfl (hd.le (by decide))
  have hf := zAt_sound (Γ := G_sisz) (R := []) (rules_nil _) (defs := p_sisz.defs) (i := 14) (f := siszB) (by kernel_rfl) (by kernel_rfl) rfl hb
  have eF : e_sisz.F [x0, x1, x2, x3, x4, x5, x6, x7] = [if (runR G_sisz p_sisz.defs [x0, x1, x2, x3, x4, x5, x6, x7]).getD 14 0 = 0 then 1 else 0] := by kernel_rfl
  have hvars := vars_all G_sisz p_sisz.defs (l := [x0, x1, x2, x3, x4, x5, x6, x7]) (n := 8) rfl
  rw [eF]
  generalize runR G_sisz p_sisz.defs [x0, x1, x2, x3, x4, x5, x6, x7] = E at *
  have ex0 : (SI.var 0).val E = x0 := by have := congrArg (fun l => l.getD 0 0) hvars; exact this
  have ex1 : (SI.var 1).val E = x1 := by have := congrArg (fun l => l.getD 1 0) hvars; exact this
  have ex2 : (SI.var 2).val E = x2 := by have := congrArg (fun l => l.getD 2 0) hvars; exact this
  have ex3 : (SI.var 3).val E = x3 := by have := congrArg (fun l => l.getD 3 0) hvars; exact this
  have ex4 : (SI.var 4).val E = x4 := by have := congrArg (fun l => l.getD 4 0) hvars; exact this
  have ex5 : (SI.var 5).val E = x5 := by have := congrArg (fun l => l.getD 5 0) hvars; exact this
  have ex6 : (SI.var 6).val E = x6 := by have := congrArg (fun l => l.getD 6 0) hvars; exact this
  have ex7 : (SI.var 7).val E = x7 := by have := congrArg (fun l => l.getD 7 0) hvars; exact this
  rw [ite_b01]
  refine congrArg (fun b => [b01 b]) (Bool.eq_iff_iff.2 ?_)
  rw [decide_eq_true_eq, decide_eq_true_eq, hf, ← hv]
  simp only [siszB, BF.ev, Bool.and_eq_true, decide_eq_true_eq, ex0, ex1, ex2, ex3, ex4, ex5, ex6, ex7, lit_val, num]
  omega

def shiB : BF := (.or (.or (.or (.or (.lt (.lit 2147483647) (.var 7)) (.and (.and (.and (.and (.eq (.var 7) (.lit 2147483647)) (.eq (.var 6) (.lit 4294967295))) (.eq (.var 5) (.lit 4294967295))) (.eq (.var 4) (.lit 4294967295))) (.lt (.lit 1566010995) (.var 3)))) (.and (.and (.and (.and (.and (.eq (.var 7) (.lit 2147483647)) (.eq (.var 6) (.lit 4294967295))) (.eq (.var 5) (.lit 4294967295))) (.eq (.var 4) (.lit 4294967295))) (.eq (.var 3) (.lit 1566010995))) (.lt (.lit 1470386205) (.var 2)))) (.and (.and (.and (.and (.and (.and (.eq (.var 7) (.lit 2147483647)) (.eq (.var 6) (.lit 4294967295))) (.eq (.var 5) (.lit 4294967295))) (.eq (.var 4) (.lit 4294967295))) (.eq (.var 3) (.lit 1566010995))) (.eq (.var 2) (.lit 1470386205))) (.lt (.lit 3756601158) (.var 1)))) (.and (.and (.and (.and (.and (.and (.and (.eq (.var 7) (.lit 2147483647)) (.eq (.var 6) (.lit 4294967295))) (.eq (.var 5) (.lit 4294967295))) (.eq (.var 4) (.lit 4294967295))) (.eq (.var 3) (.lit 1566010995))) (.eq (.var 2) (.lit 1470386205))) (.eq (.var 1) (.lit 3756601158))) (.lt (.lit 1746608288) (.var 0))))

theorem shi_spec {V : Int} (v0 : 0 ≤ V) (v1 : V < 2 ^ 256) : e_shi.F (dig 32 8 V) = [b01 (decide (fn / 2 < V))] := by
  have hv := num_dig 32 8 V v0 v1
  have hd := dig_dg 32 8 V
  obtain ⟨x0, x1, x2, x3, x4, x5, x6, x7, hx⟩ := len8 (dig_length 32 8 V)
  rw [hx] at hv hd ⊢
  have px0 := hd x0 (by simp)
  have px1 := hd x1 (by simp)
  have px2 := hd x2 (by simp)
  have px3 := hd x3 (by simp)
  have px4 := hd x4 (by simp)
  have px5 := hd x5 (by simp)
  have px6 := hd x6 (by simp)
  have px7 := hd x7 (by simp)
  have hb : inB (List.replicate 8 ((0 : Int), (4294967295 : Int))) [x0, x1, x2, x3, x4, x5, x6, x7] := inB_rep rfl (hd.le (by decide))
  have hf := bfAt_sound (Γ := G_shi) (R := Rtests) (RB := [.eq, .gt, .ge]) rEqGtGe bEqGtGe (defs := p_shi.defs) (i := 34) (f := shiB) (by kernel_rfl) (by kernel_rfl) rfl hb
  have eF : e_shi.F [x0, x1, x2, x3, x4, x5, x6, x7] = [(runR G_shi p_shi.defs [x0, x1, x2, x3, x4, x5, x6, x7]).getD 34 0] := by kernel_rfl
  have hvars := vars_all G_shi p_shi.defs (l := [x0, x1, x2, x3, x4, x5, x6, x7]) (n := 8) rfl
  rw [eF]
  generalize runR G_shi p_shi.defs [x0, x1, x2, x3, x4, x5, x6, x7] = E at *
  have ex0 : (SI.var 0).val E = x0 := by have := congrArg (fun l => l.getD 0 0) hvars; exact this
  have ex1 : (SI.var 1).val E = x1 := by have := congrArg (fun l => l.getD 1 0) hvars; exact this
  have ex2 : (SI.var 2).val E = x2 := by have := congrArg (fun l => l.getD 2 0) hvars; exact this
  have ex3 : (SI.var 3).val E = x3 := by have := congrArg (fun l => l.getD 3 0) hvars; exact this
  have ex4 : (SI.var 4).val E = x4 := by have := congrArg (fun l => l.getD 4 0) hvars; exact this
  have ex5 : (SI.var 5).val E = x5 := by have := congrArg (fun l => l.getD 5 0) hvars; exact this
  have ex6 : (SI.var 6).val E = x6 := by have := congrArg (fun l => l.getD 6 0) hvars; exact this
  have ex7 : (SI.var 7).val E = x7 := by have := congrArg (fun l => l.getD 7 0) hvars; exact this
  rw [hf]
  refine congrArg (fun b => [b01 b]) (Bool.eq_iff_iff.2 ?_)
  rw [decide_eq_true_eq, ← hv]
  simp only [shiB, BF.ev, Bool.or_eq_true, Bool.and_eq_true, decide_eq_true_eq, ex0, ex1, ex2, ex3, ex4, ex5, ex6, ex7, lit_val, num]
  unfold fn
  omega

def equB : BF := (.and (.and (.and (.and (.and (.and (.and (.and (.and (.eq (.var 0) (.var 10)) (.eq (.var 1) (.var 11))) (.eq (.var 2) (.var 12))) (.eq (.var 3) (.var 13))) (.eq (.var 4) (.var 14))) (.eq (.var 5) (.var 15))) (.eq (.var 6) (.var 16))) (.eq (.var 7) (.var 17))) (.eq (.var 8) (.var 18))) (.eq (.var 9) (.var 19)))

def sequB : BF := (.and (.and (.and (.and (.and (.and (.and (.eq (.var 0) (.var 8)) (.eq (.var 1) (.var 9))) (.eq (.var 2) (.var 10))) (.eq (.var 3) (.var 11))) (.eq (.var 4) (.var 12))) (.eq (.var 5) (.var 13))) (.eq (.var 6) (.var 14))) (.eq (.var 7) (.var 15)))

theorem len4 {b : List Int} (h : b.length = 4) : ∃ a0 a1 a2 a3, b = [a0, a1, a2, a3] := by
  match b, h with
  | [a0, a1, a2, a3], _ => exact ⟨a0, a1, a2, a3, rfl⟩

theorem eqs_spec {A B : Int} (a0 : 0 ≤ A) (a1 : A < 2 ^ 256) (b0 : 0 ≤ B) (b1 : B < 2 ^ 256) : allEq (List.replicate 4 false) (twine (dig 64 4 A) (dig 64 4 B)) = decide (A = B) := by
  have key : ∀ (n : Nat) (l r : List Int), l.length = n → r.length = n → (allEq (List.replicate n false) (twine l r) = true ↔ l = r) := by
    intro n
    induction n with
    | zero =>
      intro l r hl hr
      rw [List.length_eq_zero_iff.1 hl, List.length_eq_zero_iff.1 hr]
      exact ⟨fun _ => rfl, fun _ => rfl⟩
    | succ n ih =>
      intro l r hl hr
      match l, r, hl, hr with
      | x :: l, y :: r, hl, hr =>
        simp only [List.replicate_succ, twine, allEq, Bool.false_eq_true, if_false, Bool.and_eq_true, decide_eq_true_eq, List.cons.injEq]
        rw [ih l r (by simpa using hl) (by simpa using hr)]
  apply Bool.eq_iff_iff.2
  rw [key 4 _ _ (dig_length 64 4 A) (dig_length 64 4 B), decide_eq_true_eq]
  exact ⟨dig_inj a0 a1 b0 b1, fun h => by rw [h]⟩

theorem uzer_spec {V : Int} (v0 : 0 ≤ V) (v1 : V < 2 ^ 256) : e_uzer.F (dig 64 4 V) = [b01 (decide (V = 0))] := by
  have h := eqs_spec v0 v1 (B := 0) (by decide) (by decide)
  obtain ⟨x0, x1, x2, x3, hx⟩ := len4 (dig_length 64 4 V)
  rw [hx] at h ⊢
  have eF : e_uzer.F [x0, x1, x2, x3] = [if allEq (List.replicate 4 false) (twine [x0, x1, x2, x3] (dig 64 4 0)) = true then 1 else 0] := by kernel_rfl
  rw [eF, h]
  rfl

theorem half_spec {V : Int} (v0 : 0 ≤ V) (v1 : V < 2 ^ 256) : e_half.F (dig 64 4 V ++ [0]) = dig 64 4 (V / 2) := by
  have hv := num_dig 64 4 V v0 v1
  have hd := dig_dg 64 4 V
  obtain ⟨x0, x1, x2, x3, hx⟩ := len4 (dig_length 64 4 V)
  rw [hx] at hv hd ⊢
  have px0 := hd x0 (by simp)
  have px1 := hd x1 (by simp)
  have px2 := hd x2 (by simp)
  have px3 := hd x3 (by simp)
  have hb : inB (List.replicate 4 ((0 : Int), (18446744073709551615 : Int)) ++ [(0, 0)]) ([x0, x1, x2, x3] ++ [0]) := inB_append rfl (inB_rep rfl (hd.le (by decide))) (inB_one (by decide) (by decide))
  have step : ∀ (a b : Int), 0 ≤ a → a < 2 ^ 64 → 0 ≤ b → b < 2 ^ 64 → bits .or .u64 (a.fdiv (2 ^ (min (1 : Int).toNat IntKind.u64.bits))) (IntKind.u64.wrap (b * 2 ^ (min (63 : Int).toNat IntKind.u64.bits))) = a / 2 + b % 2 * 9223372036854775808 := by
    intro a b a0 a1 b0 b1
    rw [show ((2 : Int) ^ (min (1 : Int).toNat IntKind.u64.bits)) = 2 from rfl, show ((2 : Int) ^ (min (63 : Int).toNat IntKind.u64.bits)) = 9223372036854775808 from rfl, Int.fdiv_eq_ediv_of_nonneg _ (by decide), w64]
    have e : b * 9223372036854775808 % 18446744073709551616 = b % 2 * 9223372036854775808 := by omega
    rw [e, bits_or (k := .u64) (b := 64) rfl (by omega) (by omega) (by omega) (by omega)]
    have := or_disj (x := (a / 2).toNat) (y := (b % 2 * 9223372036854775808).toNat) (t := 63) (by omega) ⟨(b % 2).toNat, by omega⟩
    rw [this]
    omega
  have eF : e_half.F ([x0, x1, x2, x3] ++ [0]) = [bits .or .u64 (x0.fdiv (2 ^ (min (1 : Int).toNat IntKind.u64.bits))) (IntKind.u64.wrap (x1 * 2 ^ (min (63 : Int).toNat IntKind.u64.bits))), bits .or .u64 (x1.fdiv (2 ^ (min (1 : Int).toNat IntKind.u64.bits))) (IntKind.u64.wrap (x2 * 2 ^ (min (63 : Int).toNat IntKind.u64.bits))),
      bits .or .u64 (x2.fdiv (2 ^ (min (1 : Int).toNat IntKind.u64.bits))) (IntKind.u64.wrap (x3 * 2 ^ (min (63 : Int).toNat IntKind.u64.bits))), bits .or .u64 (x3.fdiv (2 ^ (min (1 : Int).toNat IntKind.u64.bits))) (IntKind.u64.wrap (0 * 2 ^ (min (63 : Int).toNat IntKind.u64.bits)))] := by kernel_rfl
  rw [eF, step x0 x1 px0.1 px0.2 px1.1 px1.2, step x1 x2 px1.1 px1.2 px2.1 px2.2, step x2 x3 px2.1 px2.2 px3.1 px3.2, step x3 0 px3.1 px3.2 (by decide) (by decide)]
  refine dig_eq (w := 64) ?_ ?_
  · intro y hy
    simp only [List.mem_cons, List.not_mem_nil, or_false] at hy
    omega
  · rw [← hv]
    simp only [num]
    omega

theorem low_out' (e0 e1 e2 e3 : Entry) (a0 a1 a2 a3 : Int) : p_low.out [e0, e1, e2, e3] [a0, a1, a2, a3] = [if (fit 1 (e3.F (fit 4 (e2.F (fit 4 (e1.F (fit 4 (e0.F []) ++ [1, 0, 0, 0])) ++ [0])) ++ [a0, a1, a2, a3]))).headD 0 = 0 then 1 else 0] := by kernel_rfl

theorem field_out' (e0 e1 : Entry) (b0 b1 b2 b3 b4 b5 b6 b7 b8 b9 b10 b11 b12 b13 b14 b15 b16 b17 b18 b19 b20 b21 b22 b23 b24 b25 b26 b27 b28 b29 b30 b31 : Int) : p_field.out [e0, e1] [b0, b1, b2, b3, b4, b5, b6, b7, b8, b9, b10, b11, b12, b13, b14, b15, b16, b17, b18, b19, b20, b21, b22, b23, b24, b25, b26, b27, b28, b29, b30, b31] = fit 10 (e1.F (fit 10 (e0.F (List.replicate 10 0 ++ [b0, b1, b2, b3, b4, b5, b6, b7, b8, b9, b10, b11, b12, b13, b14, b15, b16, b17, b18, b19, b20, b21, b22, b23, b24, b25, b26, b27, b28, b29, b30, b31])))) := by kernel_rfl

theorem scalar_out' (e0 : Entry) (b0 b1 b2 b3 b4 b5 b6 b7 b8 b9 b10 b11 b12 b13 b14 b15 b16 b17 b18 b19 b20 b21 b22 b23 b24 b25 b26 b27 b28 b29 b30 b31 : Int) : p_scalar.out [e0] [b0, b1, b2, b3, b4, b5, b6, b7, b8, b9, b10, b11, b12, b13, b14, b15, b16, b17, b18, b19, b20, b21, b22, b23, b24, b25, b26, b27, b28, b29, b30, b31] = fit 8 (e0.F (List.replicate 8 0 ++ [b0, b1, b2, b3, b4, b5, b6, b7, b8, b9, b10, b11, b12, b13, b14, b15, b16, b17, b18, b19, b20, b21, b22, b23, b24, b25, b26, b27, b28, b29, b30, b31])) := by kernel_rfl

theorem scalar_spec {bs : List Int} (h : bs.length = 32) (hd : Dg 8 bs) : e_scalar.F bs = dig 32 8 (be bs % fn) := by
  have e : e_scalar.F bs = fit 8 (e_ssetb.F (List.replicate 8 0 ++ bs)) := by
    obtain ⟨b0, b1, b2, b3, b4, b5, b6, b7, b8, b9, b10, b11, b12, b13, b14, b15, b16, b17, b18, b19, b20, b21, b22, b23, b24, b25, b26, b27, b28, b29, b30, b31, rfl⟩ := len32 h
    exact scalar_out' e_ssetb b0 b1 b2 b3 b4 b5 b6 b7 b8 b9 b10 b11 b12 b13 b14 b15 b16 b17 b18 b19 b20 b21 b22 b23 b24 b25 b26 b27 b28 b29 b30 b31
  rw [e, ssetb_spec (old := List.replicate 8 0) (by simp) (zeros_dg 32 8) h hd, fit_append (dig_length 32 8 _)]

theorem fasks_out' (e0 e1 e2 e3 e4 e5 : Entry) (b0 b1 b2 b3 b4 b5 b6 b7 b8 b9 b10 b11 b12 b13 b14 b15 b16 b17 b18 b19 b20 b21 b22 b23 b24 b25 b26 b27 b28 b29 b30 b31 c0 c1 c2 c3 c4 c5 c6 c7 c8 c9 c10 c11 c12 c13 c14 c15 c16 c17 c18 c19 c20 c21 c22 c23 c24 c25 c26 c27 c28 c29 c30 c31 : Int) : p_fasks.out [e0, e1, e2, e3, e4, e5] ([b0, b1, b2, b3, b4, b5, b6, b7, b8, b9, b10, b11, b12, b13, b14, b15, b16, b17, b18, b19, b20, b21, b22, b23, b24, b25, b26, b27, b28, b29, b30, b31] ++ [c0, c1, c2, c3, c4, c5, c6, c7, c8, c9, c10, c11, c12, c13, c14, c15, c16, c17, c18, c19, c20, c21, c22, c23, c24, c25, c26, c27, c28, c29, c30, c31]) =
    [(fit 1 (e1.F (fit 10 (e0.F [b0, b1, b2, b3, b4, b5, b6, b7, b8, b9, b10, b11, b12, b13, b14, b15, b16, b17, b18, b19, b20, b21, b22, b23, b24, b25, b26, b27, b28, b29, b30, b31])))).headD 0, (fit 1 (e2.F (fit 10 (e0.F [b0, b1, b2, b3, b4, b5, b6, b7, b8, b9, b10, b11, b12, b13, b14, b15, b16, b17, b18, b19, b20, b21, b22, b23, b24, b25, b26, b27, b28, b29, b30, b31])))).headD 0, (fit 1 (e3.F (fit 10 (e0.F [b0, b1, b2, b3, b4, b5, b6, b7, b8, b9, b10, b11, b12, b13, b14, b15, b16, b17, b18, b19, b20, b21, b22, b23, b24, b25, b26, b27, b28, b29, b30, b31])))).headD 0, (fit 1 (e4.F (fit 10 (e0.F [b0, b1, b2, b3, b4, b5, b6, b7, b8, b9, b10, b11, b12, b13, b14, b15, b16, b17, b18, b19, b20, b21, b22, b23, b24, b25, b26, b27, b28, b29, b30, b31]) ++ fit 10 (e0.F [c0, c1, c2, c3, c4, c5, c6, c7, c8, c9, c10, c11, c12, c13, c14, c15, c16, c17, c18, c19, c20, c21, c22, c23, c24, c25, c26, c27, c28, c29, c30, c31])))).headD 0, (fit 1 (e5.F (fit 10 (e0.F [b0, b1, b2, b3, b4, b5, b6, b7, b8, b9, b10, b11, b12, b13, b14, b15, b16, b17, b18, b19, b20, b21, b22, b23, b24, b25, b26, b27, b28, b29, b30, b31])))).headD 0] := by kernel_rfl

theorem sasks_out' (e0 e1 e2 e3 e4 : Entry) (b0 b1 b2 b3 b4 b5 b6 b7 b8 b9 b10 b11 b12 b13 b14 b15 b16 b17 b18 b19 b20 b21 b22 b23 b24 b25 b26 b27 b28 b29 b30 b31 c0 c1 c2 c3 c4 c5 c6 c7 c8 c9 c10 c11 c12 c13 c14 c15 c16 c17 c18 c19 c20 c21 c22 c23 c24 c25 c26 c27 c28 c29 c30 c31 : Int) : p_sasks.out [e0, e1, e2, e3, e4] ([b0, b1, b2, b3, b4, b5, b6, b7, b8, b9, b10, b11, b12, b13, b14, b15, b16, b17, b18, b19, b20, b21, b22, b23, b24, b25, b26, b27, b28, b29, b30, b31] ++ [c0, c1, c2, c3, c4, c5, c6, c7, c8, c9, c10, c11, c12, c13, c14, c15, c16, c17, c18, c19, c20, c21, c22, c23, c24, c25, c26, c27, c28, c29, c30, c31]) =
    [(fit 1 (e1.F (fit 8 (e0.F [b0, b1, b2, b3, b4, b5, b6, b7, b8, b9, b10, b11, b12, b13, b14, b15, b16, b17, b18, b19, b20, b21, b22, b23, b24, b25, b26, b27, b28, b29, b30, b31])))).headD 0, (fit 1 (e2.F (fit 8 (e0.F [b0, b1, b2, b3, b4, b5, b6, b7, b8, b9, b10, b11, b12, b13, b14, b15, b16, b17, b18, b19, b20, b21, b22, b23, b24, b25, b26, b27, b28, b29, b30, b31])))).headD 0, (fit 1 (e4.F (fit 8 (e0.F [b0, b1, b2, b3, b4, b5, b6, b7, b8, b9, b10, b11, b12, b13, b14, b15, b16, b17, b18, b19, b20, b21, b22, b23, b24, b25, b26, b27, b28, b29, b30, b31])))).headD 0, (fit 1 (e3.F (fit 8 (e0.F [b0, b1, b2, b3, b4, b5, b6, b7, b8, b9, b10, b11, b12, b13, b14, b15, b16, b17, b18, b19, b20, b21, b22, b23, b24, b25, b26, b27, b28, b29, b30, b31]) ++ fit 8 (e0.F [c0, c1, c2, c3, c4, c5, c6, c7, c8, c9, c10, c11, c12, c13, c14, c15, c16, c17, c18, c19, c20, c21, c22, c23, c24, c25, c26, c27, c28, c29, c30, c31])))).headD 0] := by kernel_rfl

end Go.Proofs.Ytfeancgmmonebaa.Sx
