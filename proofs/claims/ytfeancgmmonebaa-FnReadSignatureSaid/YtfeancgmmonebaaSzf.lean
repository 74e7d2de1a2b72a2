/-
  Field elements and scalars of 32 bytes, whole. Conditions: none; each theorem bears its own.
-/
import Derived.Test.YtfeancgmmonebaaSze
namespace Go.Proofs.Ytfeancgmmonebaa.Sx
open Go Go.Proofs

theorem len32 {b : List Int} (h : b.length = 32) : ∃ b0 b1 b2 b3 b4 b5 b6 b7 b8 b9 b10 b11 b12 b13 b14 b15 b16 b17 b18 b19 b20 b21 b22 b23 b24 b25 b26 b27 b28 b29 b30 b31, b = [b0, b1, b2, b3, b4, b5, b6, b7, b8, b9, b10, b11, b12, b13, b14, b15, b16, b17, b18, b19, b20, b21, b22, b23, b24, b25, b26, b27, b28, b29, b30, b31] := by
  match b, h with
  | [b0, b1, b2, b3, b4, b5, b6, b7, b8, b9, b10, b11, b12, b13, b14, b15, b16, b17, b18, b19, b20, b21, b22, b23, b24, b25, b26, b27, b28, b29, b30, b31], _ => exact ⟨b0, b1, b2, b3, b4, b5, b6, b7, b8, b9, b10, b11, b12, b13, b14, b15, b16, b17, b18, b19, b20, b21, b22, b23, b24, b25, b26, b27, b28, b29, b30, b31, rfl⟩

theorem zeros_dg (w n : Nat) : Dg w (List.replicate n 0) := fun x hx => by
  rw [(List.mem_replicate.1 hx).2]
  exact ⟨Int.le_refl _, two_pos w⟩

theorem dig_ex10 (V : Int) : ∃ a0 a1 a2 a3 a4 a5 a6 a7 a8 a9, dig 26 10 V = [a0, a1, a2, a3, a4, a5, a6, a7, a8, a9] := len10 (dig_length 26 10 V)

theorem bytes_out' (e0 : Entry) (a0 a1 a2 a3 a4 a5 a6 a7 a8 a9 : Int) : p_bytes.out [e0] [a0, a1, a2, a3, a4, a5, a6, a7, a8, a9] = fit 32 (e0.F ([a0, a1, a2, a3, a4, a5, a6, a7, a8, a9] ++ List.replicate 32 0)) := by kernel_rfl

theorem number_out' (e0 e1 : Entry) (a0 a1 a2 a3 a4 a5 a6 a7 a8 a9 : Int) : p_number.out [e0, e1] [a0, a1, a2, a3, a4, a5, a6, a7, a8, a9] = fit 10 (e0.F [a0, a1, a2, a3, a4, a5, a6, a7, a8, a9]) ++ fit 32 (e1.F (fit 10 (e0.F [a0, a1, a2, a3, a4, a5, a6, a7, a8, a9]))) := by kernel_rfl

theorem mod_bounds {V p : Int} (hp : 0 < p) (hp' : p < 2 ^ 256) : 0 ≤ V % p ∧ V % p < 2 ^ 256 := by
  have := Int.emod_nonneg V (show p ≠ 0 by omega)
  have := Int.emod_lt_of_pos V hp
  omega

theorem fp_pos : (0 : Int) < fp := by decide
theorem fp_lt : fp < 2 ^ 256 := by unfold fp; omega
theorem fn_pos : (0 : Int) < fn := by decide
theorem fn_lt : fn < 2 ^ 256 := by unfold fn; omega

theorem fset_out' (e0 e1 : Entry) (b0 b1 b2 b3 b4 b5 b6 b7 b8 b9 b10 b11 b12 b13 b14 b15 b16 b17 b18 b19 b20 b21 b22 b23 b24 b25 b26 b27 b28 b29 b30 b31 : Int) : p_fset.out [e0, e1] [b0, b1, b2, b3, b4, b5, b6, b7, b8, b9, b10, b11, b12, b13, b14, b15, b16, b17, b18, b19, b20, b21, b22, b23, b24, b25, b26, b27, b28, b29, b30, b31] = (if (fit 11 (e0.F (List.replicate 10 0 ++ [b0, b1, b2, b3, b4, b5, b6, b7, b8, b9, b10, b11, b12, b13, b14, b15, b16, b17, b18, b19, b20, b21, b22, b23, b24, b25, b26, b27, b28, b29, b30, b31]))).getD 10 0 = 0 then 0 else 1) :: (fit 42 (e1.F (fit 10 (e0.F (List.replicate 10 0 ++ [b0, b1, b2, b3, b4, b5, b6, b7, b8, b9, b10, b11, b12, b13, b14, b15, b16, b17, b18, b19, b20, b21, b22, b23, b24, b25, b26, b27, b28, b29, b30, b31]))))).drop 10 := by kernel_rfl

theorem fieldof_out' (e0 e1 e2 : Entry) (b0 b1 b2 b3 b4 b5 b6 b7 b8 b9 b10 b11 b12 b13 b14 b15 b16 b17 b18 b19 b20 b21 b22 b23 b24 b25 b26 b27 b28 b29 b30 b31 : Int) : p_fieldof.out [e0, e1, e2] [b0, b1, b2, b3, b4, b5, b6, b7, b8, b9, b10, b11, b12, b13, b14, b15, b16, b17, b18, b19, b20, b21, b22, b23, b24, b25, b26, b27, b28, b29, b30, b31] = fit 4 (e1.F (fit 4 (e0.F [b0, b1, b2, b3, b4, b5, b6, b7, b8, b9, b10, b11, b12, b13, b14, b15, b16, b17, b18, b19, b20, b21, b22, b23, b24, b25, b26, b27, b28, b29, b30, b31]) ++ fit 4 (e2.F []))) := by kernel_rfl

theorem scalarof_out' (e0 e1 e2 : Entry) (b0 b1 b2 b3 b4 b5 b6 b7 b8 b9 b10 b11 b12 b13 b14 b15 b16 b17 b18 b19 b20 b21 b22 b23 b24 b25 b26 b27 b28 b29 b30 b31 : Int) : p_scalarof.out [e0, e1, e2] [b0, b1, b2, b3, b4, b5, b6, b7, b8, b9, b10, b11, b12, b13, b14, b15, b16, b17, b18, b19, b20, b21, b22, b23, b24, b25, b26, b27, b28, b29, b30, b31] = fit 4 (e1.F (fit 4 (e0.F [b0, b1, b2, b3, b4, b5, b6, b7, b8, b9, b10, b11, b12, b13, b14, b15, b16, b17, b18, b19, b20, b21, b22, b23, b24, b25, b26, b27, b28, b29, b30, b31]) ++ fit 4 (e2.F []))) := by kernel_rfl

/-! ## Scalars -/

theorem satL_app {Γ : List Entry} {E : List Int} : ∀ {ds : List Def} {n i j m : Nat} {xs : List SI}, SatL Γ E n ds → defAt n ds i = some (.app j xs m) → (vars i m).map (·.val E) = fit m ((Γ.getD j noEntry).F (xs.map (·.val E)))
  | [], _, _, _, _, _, _, h => by cases h
  | d :: ds, n, i, j, m, xs, hs, h => by
    unfold defAt at h
    split at h
    · rename_i hn
      cases h
      rw [← Nat.eq_of_beq_eq_true hn]
      have key : ∀ (m k : Nat) (l : List Int), (∀ i, i < m → E.getD (k + i) 0 = l.getD i 0) → (vars k m).map (·.val E) = fit m l := by
        intro m
        induction m with
        | zero => intro k l _; rfl
        | succ m ih =>
          intro k l hh
          simp only [vars, List.map_cons, fit]
          rw [ih (k + 1) l.tail fun i hi => by
            have := hh (i + 1) (by omega)
            rw [show k + 1 + i = k + (i + 1) by omega, this]
            cases l <;> simp]
          congr 1
          have := hh 0 (by omega)
          rw [Nat.add_zero] at this
          show E.getD k 0 = _
          rw [this]
          cases l <;> rfl
      exact key _ _ _ hs.1
    · cases d with
      | pr p' xs' => exact satL_app hs.2 h
      | app j xs' m => exact satL_app hs.2 h

theorem satL_of {Γ : List Entry} {ds : List Def} {base : List Int} {n : Nat} (hn : base.length = n) (h : okDs n ds.reverse = true) : SatL Γ (runR Γ ds base) n ds.reverse := by
  rw [runR_eq, ← hn]
  exact satL_run Γ ds.reverse base (by rw [hn]; exact h)

theorem len8' {b : List Int} (h : b.length = 8) : ∃ a0 a1 a2 a3 a4 a5 a6 a7, b = [a0, a1, a2, a3, a4, a5, a6, a7] := len8 h

theorem over_scalar {x0 x1 x2 x3 x4 x5 x6 x7 : Int} (h : Dg 32 [x0, x1, x2, x3, x4, x5, x6, x7]) :
    fn ≤ num 32 [x0, x1, x2, x3, x4, x5, x6, x7] ↔ (x7 = 4294967295 ∧ x6 = 4294967295 ∧ x5 = 4294967295 ∧ (4294967294 < x4 ∨ (x4 = 4294967294 ∧ (3132021990 < x3 ∨ (x3 = 3132021990 ∧ (2940772411 < x2 ∨ (x2 = 2940772411 ∧ (3218235020 < x1 ∨ (x1 = 3218235020 ∧ 3493216577 ≤ x0)))))))))  := by
  have p0 := h x0 (by simp)
  have p1 := h x1 (by simp)
  have p2 := h x2 (by simp)
  have p3 := h x3 (by simp)
  have p4 := h x4 (by simp)
  have p5 := h x5 (by simp)
  have p6 := h x6 (by simp)
  have p7 := h x7 (by simp)
  simp only [num]
  unfold fn
  constructor
  · intro hv
    have e7 : x7 = 4294967295 := by omega
    subst e7
    have e6 : x6 = 4294967295 := by omega
    subst e6
    have e5 : x5 = 4294967295 := by omega
    subst e5
    refine ⟨rfl, rfl, rfl, ?_⟩
    by_cases c4 : 4294967294 < x4
    · exact .inl c4
    have e4 : x4 = 4294967294 := by omega
    subst e4
    refine .inr ⟨rfl, ?_⟩
    by_cases c3 : 3132021990 < x3
    · exact .inl c3
    have e3 : x3 = 3132021990 := by omega
    subst e3
    refine .inr ⟨rfl, ?_⟩
    by_cases c2 : 2940772411 < x2
    · exact .inl c2
    have e2 : x2 = 2940772411 := by omega
    subst e2
    refine .inr ⟨rfl, ?_⟩
    by_cases c1 : 3218235020 < x1
    · exact .inl c1
    have e1 : x1 = 3218235020 := by omega
    subst e1
    exact .inr ⟨rfl, by omega⟩
  · rintro ⟨rfl, rfl, rfl, c4 | ⟨rfl, c3 | ⟨rfl, c2 | ⟨rfl, c1 | ⟨rfl, c0⟩⟩⟩⟩⟩ <;> omega

def overB : BF := (.or (.or (.or (.or (.and (.and (.and (.eq (.var 7) (.lit 4294967295)) (.eq (.var 6) (.lit 4294967295))) (.eq (.var 5) (.lit 4294967295))) (.lt (.lit 4294967294) (.var 4))) (.and (.and (.and (.and (.eq (.var 7) (.lit 4294967295)) (.eq (.var 6) (.lit 4294967295))) (.eq (.var 5) (.lit 4294967295))) (.eq (.var 4) (.lit 4294967294))) (.lt (.lit 3132021990) (.var 3)))) (.and (.and (.and (.and (.and (.eq (.var 7) (.lit 4294967295)) (.eq (.var 6) (.lit 4294967295))) (.eq (.var 5) (.lit 4294967295))) (.eq (.var 4) (.lit 4294967294))) (.eq (.var 3) (.lit 3132021990))) (.lt (.lit 2940772411) (.var 2)))) (.and (.and (.and (.and (.and (.and (.eq (.var 7) (.lit 4294967295)) (.eq (.var 6) (.lit 4294967295))) (.eq (.var 5) (.lit 4294967295))) (.eq (.var 4) (.lit 4294967294))) (.eq (.var 3) (.lit 3132021990))) (.eq (.var 2) (.lit 2940772411))) (.lt (.lit 3218235020) (.var 1)))) (.and (.and (.and (.and (.and (.and (.and (.eq (.var 7) (.lit 4294967295)) (.eq (.var 6) (.lit 4294967295))) (.eq (.var 5) (.lit 4294967295))) (.eq (.var 4) (.lit 4294967294))) (.eq (.var 3) (.lit 3132021990))) (.eq (.var 2) (.lit 2940772411))) (.eq (.var 1) (.lit 3218235020))) (.not (.lt (.var 0) (.lit 3493216577)))))

theorem over_spec {V : Int} (v0 : 0 ≤ V) (v1 : V < 2 ^ 256) : e_over.F (dig 32 8 V) = [b01 (decide (fn ≤ V))] := by
  have hv := num_dig 32 8 V v0 v1
  have hd := dig_dg 32 8 V
  obtain ⟨x0, x1, x2, x3, x4, x5, x6, x7, hx⟩ := len8 (dig_length 32 8 V)
  rw [hx] at hv hd ⊢
  have hov := over_scalar hd
  rw [hv] at hov
  have hb : inB (List.replicate 8 ((0 : Int), (4294967295 : Int))) [x0, x1, x2, x3, x4, x5, x6, x7] := inB_rep rfl (hd.le (by decide))
  have hf := bfAt_sound (Γ := G_over) (R := Rtests) (RB := [.eq, .gt, .ge]) rEqGtGe bEqGtGe (defs := p_over.defs) (i := 34) (f := overB) (by kernel_rfl) (by kernel_rfl) rfl hb
  have hvars := vars_all G_over p_over.defs (l := [x0, x1, x2, x3, x4, x5, x6, x7]) (n := 8) rfl
  have eF : e_over.F [x0, x1, x2, x3, x4, x5, x6, x7] = [(runR G_over p_over.defs [x0, x1, x2, x3, x4, x5, x6, x7]).getD 34 0] := rfl
  rw [eF, hf]
  refine congrArg (fun b => [b01 b]) ?_
  generalize runR G_over p_over.defs [x0, x1, x2, x3, x4, x5, x6, x7] = E at *
  have e0 : (SI.var 0).val E = x0 := by have := congrArg (fun l => l.getD 0 0) hvars; exact this
  have e1 : (SI.var 1).val E = x1 := by have := congrArg (fun l => l.getD 1 0) hvars; exact this
  have e2 : (SI.var 2).val E = x2 := by have := congrArg (fun l => l.getD 2 0) hvars; exact this
  have e3 : (SI.var 3).val E = x3 := by have := congrArg (fun l => l.getD 3 0) hvars; exact this
  have e4 : (SI.var 4).val E = x4 := by have := congrArg (fun l => l.getD 4 0) hvars; exact this
  have e5 : (SI.var 5).val E = x5 := by have := congrArg (fun l => l.getD 5 0) hvars; exact this
  have e6 : (SI.var 6).val E = x6 := by have := congrArg (fun l => l.getD 6 0) hvars; exact this
  have e7 : (SI.var 7).val E = x7 := by have := congrArg (fun l => l.getD 7 0) hvars; exact this
  apply Bool.eq_iff_iff.2
  rw [decide_eq_true_eq, hov]
  have l : ∀ n : Int, (SI.lit n).val E = n := fun _ => rfl
  simp only [overB, BF.ev, Bool.or_eq_true, Bool.and_eq_true, decide_eq_true_eq, Bool.not_eq_true', decide_eq_false_iff_not, Int.not_lt, e0, e1, e2, e3, e4, e5, e6, e7, l]
  constructor
  · rintro ((((⟨⟨⟨a, b⟩, c⟩, d⟩ | ⟨⟨⟨⟨a, b⟩, c⟩, d⟩, e⟩) | ⟨⟨⟨⟨⟨a, b⟩, c⟩, d⟩, e⟩, f⟩) | ⟨⟨⟨⟨⟨⟨a, b⟩, c⟩, d⟩, e⟩, f⟩, g⟩) | ⟨⟨⟨⟨⟨⟨⟨a, b⟩, c⟩, d⟩, e⟩, f⟩, g⟩, h⟩)
    · exact ⟨a, b, c, .inl d⟩
    · exact ⟨a, b, c, .inr ⟨d, .inl e⟩⟩
    · exact ⟨a, b, c, .inr ⟨d, .inr ⟨e, .inl f⟩⟩⟩
    · exact ⟨a, b, c, .inr ⟨d, .inr ⟨e, .inr ⟨f, .inl g⟩⟩⟩⟩
    · exact ⟨a, b, c, .inr ⟨d, .inr ⟨e, .inr ⟨f, .inr ⟨g, h⟩⟩⟩⟩⟩
  · rintro ⟨a, b, c, d | ⟨d, e | ⟨e, f | ⟨f, g | ⟨g, h⟩⟩⟩⟩⟩
    · exact .inl (.inl (.inl (.inl ⟨⟨⟨a, b⟩, c⟩, d⟩)))
    · exact .inl (.inl (.inl (.inr ⟨⟨⟨⟨a, b⟩, c⟩, d⟩, e⟩)))
    · exact .inl (.inl (.inr ⟨⟨⟨⟨⟨a, b⟩, c⟩, d⟩, e⟩, f⟩))
    · exact .inl (.inr ⟨⟨⟨⟨⟨⟨a, b⟩, c⟩, d⟩, e⟩, f⟩, g⟩)
    · exact .inr ⟨⟨⟨⟨⟨⟨⟨a, b⟩, c⟩, d⟩, e⟩, f⟩, g⟩, h⟩

theorem redu_spec {V o : Int} (v0 : 0 ≤ V) (v1 : V < 2 ^ 256) (o0 : 0 ≤ o) (o1 : o ≤ 1) : e_redu.F (dig 32 8 V ++ [o]) = dig 32 8 (V + 432420386565659656852420866394968145599 * o) := by
  have hb : inB (List.replicate 8 ((0 : Int), (4294967295 : Int)) ++ [(0, 1)]) (dig 32 8 V ++ [o]) := inB_append rfl (inB_rep rfl ((dig_dg 32 8 V).le (by decide))) (inB_one o0 o1)
  have h := redig (Γ := G_redu) (R := []) (rules_nil _) (ds := p_redu.defs) (w := 32) (outs := p_redu.outs) (L := linOf 32 (-1) (vars 0 8) ++ linOf 0 (-432420386565659656852420866394968145599) (vars 8 1)) (by kernel_rfl) rfl hb
  rw [linV_append, linOf_val, linOf_val, vars_base0 G_redu _ (dig_length 32 8 V), vars_last G_redu _ (l := [o]) (n := 1) (dig_length 32 8 V) rfl, num_dig 32 8 V v0 v1] at h
  rw [show -(-1 * V + -432420386565659656852420866394968145599 * num 0 [o]) = V + 432420386565659656852420866394968145599 * o by simp only [num]; omega] at h
  exact h

theorem sputb_spec {old : List Int} {V : Int} (h0 : 0 ≤ V) (h1 : V < 2 ^ 256) (ho : old.length = 32) (hod : Dg 8 old) : e_sputb.F (dig 32 8 V ++ old) = (dig 8 32 V).reverse := by
  have hlen : (dig 32 8 V ++ old).length = (List.replicate 8 ((0 : Int), (4294967295 : Int)) ++ List.replicate 32 (0, 255)).length := by simp [ho, dig_length]
  have hb : inB (List.replicate 8 ((0 : Int), (4294967295 : Int)) ++ List.replicate 32 (0, 255)) (dig 32 8 V ++ old) := inB_append rfl (inB_rep rfl ((dig_dg 32 8 V).le (by decide))) (inB_rep ho (hod.le (by decide)))
  have h := redig (Γ := G_sputb) (R := []) (rules_nil _) (ds := p_sputb.defs) (w := 8) (outs := p_sputb.outs.reverse) (L := linOf 32 (-1) (vars 0 8)) (by kernel_rfl) hlen hb
  rw [linOf_val, vars_base0 G_sputb _ (dig_length 32 8 V), num_dig 32 8 V h0 h1] at h
  rw [show -(-1 * V) = V by omega, List.map_reverse] at h
  have := congrArg List.reverse h
  rw [List.reverse_reverse] at this
  exact this

theorem sbytes_out' (e0 : Entry) (a0 a1 a2 a3 a4 a5 a6 a7 : Int) : p_sbytes.out [e0] [a0, a1, a2, a3, a4, a5, a6, a7] = fit 32 (e0.F ([a0, a1, a2, a3, a4, a5, a6, a7] ++ List.replicate 32 0)) := by kernel_rfl

theorem sbytes_out {l : List Int} (h : l.length = 8) : e_sbytes.F l = fit 32 (e_sputb.F (l ++ List.replicate 32 0)) := by
  obtain ⟨a0, a1, a2, a3, a4, a5, a6, a7, rfl⟩ := len8 h
  exact sbytes_out' e_sputb a0 a1 a2 a3 a4 a5 a6 a7

theorem sbytes_spec {V : Int} (h0 : 0 ≤ V) (h1 : V < 2 ^ 256) : e_sbytes.F (dig 32 8 V) = (dig 8 32 V).reverse := by
  rw [sbytes_out (dig_length 32 8 V), sputb_spec h0 h1 (by simp) (zeros_dg 8 32), fit_eq (by simp [dig_length])]

theorem ruleOver : RuleOk e_over (.out (List.replicate 8 (0, 4294967295)) [(0, 1)]) := by
  intro xs hl hb
  have hd : Dg 32 xs := fun x hx => by
    obtain ⟨i, hi⟩ := List.getElem?_of_mem hx
    have hlt := (List.getElem?_eq_some_iff.1 hi).1
    have := hb i (0, 4294967295) (by rw [List.getElem?_replicate, if_pos (by simp at hl; omega)])
    rw [List.getD, hi] at this
    simp only [Option.getD_some] at this
    omega
  have hn := num_bounds hd
  have hl8 : xs.length = 8 := by simpa using hl
  rw [hl8] at hn
  have := over_spec hn.1 hn.2
  have e : dig 32 8 (num 32 xs) = xs := by have := dig_num hd; rwa [hl8] at this
  rw [e] at this
  rw [this]
  cases decide (fn ≤ num 32 xs) <;> exact inB_one (by decide) (by decide)

theorem ruleRedu : RuleOk e_redu (.out (List.replicate 8 (0, 4294967295) ++ [(0, 1)]) (List.replicate 8 (0, 4294967295))) := by
  intro xs hl hb
  match xs, hl with
  | [a0, a1, a2, a3, a4, a5, a6, a7, o], _ =>
    have hd : Dg 32 [a0, a1, a2, a3, a4, a5, a6, a7] := fun x hx => by
      obtain ⟨i, hi⟩ := List.getElem?_of_mem hx
      have hlt : i < 8 := (List.getElem?_eq_some_iff.1 hi).1
      have := hb i (0, 4294967295) (by rw [List.getElem?_append_left (by simpa using hlt), List.getElem?_replicate, if_pos hlt])
      rw [show [a0, a1, a2, a3, a4, a5, a6, a7, o] = [a0, a1, a2, a3, a4, a5, a6, a7] ++ [o] from rfl, List.getD, List.getElem?_append_left (by simpa using hlt), hi] at this
      simp only [Option.getD_some] at this
      omega
    have ho := hb 8 (0, 1) rfl
    have ho' : 0 ≤ o ∧ o ≤ 1 := ho
    have hn := num_bounds hd
    have := redu_spec hn.1 hn.2 ho'.1 ho'.2
    have e : dig 32 8 (num 32 [a0, a1, a2, a3, a4, a5, a6, a7]) = [a0, a1, a2, a3, a4, a5, a6, a7] := dig_num hd
    rw [e] at this
    rw [show [a0, a1, a2, a3, a4, a5, a6, a7, o] = [a0, a1, a2, a3, a4, a5, a6, a7] ++ [o] from rfl, this]
    exact inB_rep (dig_length 32 8 _) ((dig_dg 32 8 _).le (by decide))

def ssetbW : List SI := [.var 49, .var 59, .var 69, .var 79, .var 89, .var 99, .var 109, .var 119]

theorem ssetb_spec {old bs : List Int} (ho : old.length = 8) (hod : Dg 32 old) (hl : bs.length = 32) (hd : Dg 8 bs) : e_ssetb.F (old ++ bs) = dig 32 8 (be bs % fn) ++ [b01 (decide (fn ≤ be bs))] := by
  have hlen : (old ++ bs).length = (List.replicate 8 ((0 : Int), (4294967295 : Int)) ++ List.replicate 32 (0, 255)).length := by simp [ho, hl]
  have hb : inB (List.replicate 8 ((0 : Int), (4294967295 : Int)) ++ List.replicate 32 (0, 255)) (old ++ bs) := inB_append (by simpa using ho) (inB_rep ho (hod.le (by decide))) (inB_rep hl (hd.le (by decide)))
  obtain ⟨v0, v1⟩ := be_bounds hl hd
  have h := redig (Γ := G_ssetb) (R := [.out (List.replicate 8 (0, 4294967295)) [(0, 1)], .out (List.replicate 8 (0, 4294967295) ++ [(0, 1)]) (List.replicate 8 (0, 4294967295))]) (rules_cons ruleOver (rules_cons ruleRedu (rules_nil _))) (ds := p_ssetb.defs) (w := 32) (outs := ssetbW) (L := linOf 8 (-1) (vars 8 32).reverse) (by kernel_rfl) hlen hb
  rw [linOf_val, List.map_reverse, vars_last G_ssetb _ ho hl] at h
  rw [show -(-1 * num 8 bs.reverse) = be bs by unfold be; omega] at h
  have hs := satL_of (Γ := G_ssetb) (ds := p_ssetb.defs) (base := old ++ bs) (n := 40) (by simp [ho, hl]) (by kernel_rfl)
  have a120 := satL_app (i := 120) (j := 0) (m := 1) (xs := ssetbW) hs (by kernel_rfl)
  have a121 := satL_app (i := 121) (j := 1) (m := 8) (xs := ssetbW ++ [.var 120]) hs (by kernel_rfl)
  have hW : ssetbW.map (·.val (runR G_ssetb p_ssetb.defs (old ++ bs))) = dig 32 8 (be bs) := h
  have e : e_ssetb.F (old ++ bs) = (vars 121 8).map (·.val (runR G_ssetb p_ssetb.defs (old ++ bs))) ++ (vars 120 1).map (·.val (runR G_ssetb p_ssetb.defs (old ++ bs))) := by
    rw [← List.map_append]
    rfl
  rw [e, a121, a120, List.map_append, hW]
  have g0 : G_ssetb.getD 0 noEntry = e_over := rfl
  have g1 : G_ssetb.getD 1 noEntry = e_redu := rfl
  rw [g0] at a120 ⊢
  rw [g1, over_spec v0 v1]
  have e120 : [SI.var 120].map (·.val (runR G_ssetb p_ssetb.defs (old ++ bs))) = [b01 (decide (fn ≤ be bs))] := by
    have := a120
    rw [hW, over_spec v0 v1] at this
    exact this
  rw [e120, redu_spec v0 v1 (by cases decide (fn ≤ be bs) <;> decide) (by cases decide (fn ≤ be bs) <;> decide), fit_eq (dig_length 32 8 _), fit_eq (n := 1) rfl]
  refine congrArg (fun l => l ++ [b01 (decide (fn ≤ be bs))]) ?_
  by_cases hh : fn ≤ be bs
  · have hm : be bs % fn = be bs - fn := by
      rw [← Int.sub_emod_right]
      exact Int.emod_eq_of_lt (by omega) (by unfold fn; omega)
    rw [hm, show b01 (decide (fn ≤ be bs)) = 1 by simp [b01, hh]]
    rw [show be bs + 432420386565659656852420866394968145599 * 1 = (be bs - fn) + 2 ^ (32 * 8) * 1 by unfold fn; omega, dig_add_mul]
  · rw [Int.emod_eq_of_lt v0 (by omega), show b01 (decide (fn ≤ be bs)) = 0 by simp [b01, hh], Int.mul_zero, Int.add_zero]

theorem sset_out' (e0 e1 : Entry) (b0 b1 b2 b3 b4 b5 b6 b7 b8 b9 b10 b11 b12 b13 b14 b15 b16 b17 b18 b19 b20 b21 b22 b23 b24 b25 b26 b27 b28 b29 b30 b31 : Int) : p_sset.out [e0, e1] [b0, b1, b2, b3, b4, b5, b6, b7, b8, b9, b10, b11, b12, b13, b14, b15, b16, b17, b18, b19, b20, b21, b22, b23, b24, b25, b26, b27, b28, b29, b30, b31] = (if (fit 9 (e0.F (List.replicate 8 0 ++ [b0, b1, b2, b3, b4, b5, b6, b7, b8, b9, b10, b11, b12, b13, b14, b15, b16, b17, b18, b19, b20, b21, b22, b23, b24, b25, b26, b27, b28, b29, b30, b31]))).getD 8 0 = 0 then 0 else 1) :: fit 32 (e1.F (fit 8 (e0.F (List.replicate 8 0 ++ [b0, b1, b2, b3, b4, b5, b6, b7, b8, b9, b10, b11, b12, b13, b14, b15, b16, b17, b18, b19, b20, b21, b22, b23, b24, b25, b26, b27, b28, b29, b30, b31])))) := by kernel_rfl

end Go.Proofs.Ytfeancgmmonebaa.Sx
