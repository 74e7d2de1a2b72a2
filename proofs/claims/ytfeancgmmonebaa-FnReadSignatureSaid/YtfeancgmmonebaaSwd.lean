/-
  Calls of the reference's small functions; the statement FnReadSchnorr: what its function gives. Conditions: none; each theorem bears its own.
-/
import Derived.Test.YtfeancgmmonebaaSwc
import Derived.Deep.Cut
namespace Go.Proofs.Ytfeancgmmonebaa.Sx
open Go Go.Proofs Go.RowKit

theorem c_fprime (w : World) : Calls Try.prog 9 #[] w fun en w' => en = .returned (.agg ((dig 64 4 fp).map (Value.int .u64)).toArray) ∧ Below w.heap.size w w' :=
  m_fprime.pure (by kernel_rfl) (base := []) rfl rfl (fun h => by cases h) fprime_spec (args := []) rfl
    (fun nb => by
      show (SV.one (.agg (kcells 0 (List.replicate 4 (some .u64))))).den ⟨[] ++ fit 4 _, nb⟩ = _
      rw [fit_eq (dig_length 64 4 _)]
      exact agg_at .u64 nb (pre := []) (post := []) (by simp) rfl (dig_length 64 4 _)) w

theorem c_order (w : World) : Calls Try.prog 20 #[] w fun en w' => en = .returned (.agg ((dig 64 4 fn).map (Value.int .u64)).toArray) ∧ Below w.heap.size w w' :=
  m_order.pure (by kernel_rfl) (base := []) rfl rfl (fun h => by cases h) order_spec (args := []) rfl
    (fun nb => by
      show (SV.one (.agg (kcells 0 (List.replicate 4 (some .u64))))).den ⟨[] ++ fit 4 _, nb⟩ = _
      rw [fit_eq (dig_length 64 4 _)]
      exact agg_at .u64 nb (pre := []) (post := []) (by simp) rfl (dig_length 64 4 _)) w

theorem c_uless {A B : Int} (a0 : 0 ≤ A) (a1 : A < 2 ^ 256) (b0 : 0 ≤ B) (b1 : B < 2 ^ 256) (w : World) :
    Calls Try.prog 8 #[.agg ((dig 64 4 A).map (Value.int .u64)).toArray, .agg ((dig 64 4 B).map (Value.int .u64)).toArray] w fun en w' => en = .returned (.bool (decide (A < B))) ∧ Below w.heap.size w w' :=
  m_uless.pure (by kernel_rfl) (base := dig 64 4 A ++ dig 64 4 B) (by simp [dig_length]; rfl) rfl (fun h => by cases h) (uless_spec a0 a1 b0 b1) (args := [.agg ((dig 64 4 A).map (Value.int .u64)).toArray, .agg ((dig 64 4 B).map (Value.int .u64)).toArray])
    (by
      show [(SV.one (.agg (kcells 0 (List.replicate 4 (some .u64))))).den ⟨dig 64 4 A ++ dig 64 4 B, []⟩, (SV.one (.agg (kcells 4 (List.replicate 4 (some .u64))))).den ⟨dig 64 4 A ++ dig 64 4 B, []⟩] = _
      rw [agg_at .u64 [] (l := dig 64 4 A) (pre := []) (post := dig 64 4 B) (n := 0) (by simp) rfl (dig_length 64 4 _), agg_at .u64 [] (l := dig 64 4 B) (pre := dig 64 4 A) (post := []) (n := 4) (by simp) (dig_length 64 4 _) (dig_length 64 4 _)])
    (fun nb => by
      show Value.bool (b01 (decide (A < B)) != 0) = _
      cases decide (A < B) <;> rfl) w

theorem lscalar_out' (e0 e1 e2 : Entry) (b0 b1 b2 b3 b4 b5 b6 b7 b8 b9 b10 b11 b12 b13 b14 b15 b16 b17 b18 b19 b20 b21 b22 b23 b24 b25 b26 b27 b28 b29 b30 b31 : Int) :
    p_lscalar.out [e0, e1, e2] [b0, b1, b2, b3, b4, b5, b6, b7, b8, b9, b10, b11, b12, b13, b14, b15, b16, b17, b18, b19, b20, b21, b22, b23, b24, b25, b26, b27, b28, b29, b30, b31] =
      fit 1 (e2.F (fit 4 (e0.F [b0, b1, b2, b3, b4, b5, b6, b7, b8, b9, b10, b11, b12, b13, b14, b15, b16, b17, b18, b19, b20, b21, b22, b23, b24, b25, b26, b27, b28, b29, b30, b31]) ++ fit 4 (e1.F []))) := by kernel_rfl

theorem lscalar_spec {bs : List Int} (h : bs.length = 32) (hd : Dg 8 bs) : e_lscalar.F bs = [b01 (decide (be bs < fn))] := by
  obtain ⟨v0, v1⟩ := be_bounds h hd
  have hu := uof_spec h hd
  have : e_lscalar.F bs = fit 1 (e_uless.F (fit 4 (e_uof.F bs) ++ fit 4 (e_order.F []))) := by
    obtain ⟨b0, b1, b2, b3, b4, b5, b6, b7, b8, b9, b10, b11, b12, b13, b14, b15, b16, b17, b18, b19, b20, b21, b22, b23, b24, b25, b26, b27, b28, b29, b30, b31, rfl⟩ := len32 h
    exact lscalar_out' e_uof e_order e_uless b0 b1 b2 b3 b4 b5 b6 b7 b8 b9 b10 b11 b12 b13 b14 b15 b16 b17 b18 b19 b20 b21 b22 b23 b24 b25 b26 b27 b28 b29 b30 b31
  rw [this, hu, order_spec, fit_eq (dig_length 64 4 _), fit_eq (dig_length 64 4 _), uless_spec v0 v1 (by decide) fn_lt]
  rfl

theorem c_lscalar {bs : List Int} (hl : bs.length = 32) (hd : Dg 8 bs) (w : World) :
    Calls Try.prog 6 #[.agg (bs.map (Value.int .u8)).toArray] w fun en w' => en = .returned (.bool (decide (be bs < fn))) ∧ Below w.heap.size w w' :=
  m_lscalar.pure (by kernel_rfl) (base := bs) hl rfl (fun h => by cases h) (lscalar_spec hl hd) (args := [.agg (bs.map (Value.int .u8)).toArray])
    (by
      show [(SV.one (.agg (kcells 0 (List.replicate 32 (some .u8))))).den ⟨bs, []⟩] = _
      rw [agg_at .u8 [] (l := bs) (pre := []) (post := []) (n := 0) (by simp) rfl hl])
    (fun nb => by
      show Value.bool (List.getD (bs ++ fit 1 [b01 (decide (be bs < fn))]) 32 0 != 0) = _
      rw [List.getD, List.getElem?_append_right (by omega), hl]
      show Value.bool (b01 (decide (be bs < fn)) != 0) = _
      cases decide (be bs < fn) <;> rfl) w

section
variable {P : Program} {w w' : World} {ops : Array Oper} {rest : List Oper} {o : Oper} {a : Act} {Q : Exit → Act → World → Prop} {v : Value}
/-- An operation that is wanted, and whose run is known. -/
theorem wpList_runw (hw : Region.wanted o (yielded ops a.tmps) = true) (hrun : (execOp a.eval o).run P w = .ok (.value v) w') (h : wpList P ops Q rest (a.put o.dst v) w') : wpList P ops Q (o :: rest) a w := by
  unfold wpList
  rw [if_pos hw]
  refine .inl ?_
  unfold Oper.wp
  rw [hrun]
  exact h
end

theorem load_op {ρ : Operand → Value} {dst : Option Nat} {T ty : TypeId} {x : Operand} {pos : String} {after : Array Edge} {g : Option (Nat × Bool)} {P : Program} {w w' : World} {v : Value} (h : (Instr.loadAt T (ρ x)).run P w = .ok v w') :
    (execOp ρ ⟨dst, .load T x, ty, pos, after, g⟩).run P w = .ok (.value v) w' := by simp [execOp, h]

/-- 32 bytes are loaded. -/
theorem run_load32 {w : World} {ad : Addr} {xs : List Value} (hl : xs.length = 32) (hc : ∀ j v, xs[j]? = some v → w.cell? (ad.add j) = some v) :
    (Instr.loadAt 24 (.pointer (some ad))).run Try.prog w = .ok (.agg xs.toArray) w := by
  have := run_loadCells_list (P := Try.prog) w ad xs hc
  rw [hl] at this
  simp [Instr.loadAt, Instr.sureAddr, loadVar, run_isAggB (P := Try.prog) (t := 24) (b := true) (by kernel_rfl), run_szOf (P := Try.prog) (t := 24) (n := 32) (by kernel_rfl), this]

set_option maxRecDepth 100000 in
set_option maxHeartbeats 1000000 in
theorem law_schnorr (n c : Nat) (bs : List Int) (A : Option Addr) (w : World) (hm : n ≤ 9223372036854775807) (hc : n ≤ c) (hr : Reads w w.heap.size A n (bs.map (Value.int .u8))) (hd : Dg 8 bs) :
    Calls Try.prog 3 #[.slice A n c] w fun en w' => en = .returned (.bool true) ∧ Below w.heap.size w w' := by
  have HR := Lib.hid hr
  clear hr
  by_cases h10 : (n : Int) ≤ 10000
  · have hn : n < 2147483648 := by omega
    clear hm
    have hS : ∀ W, Below w.heap.size w W → Calls Try.prog 10 #[.slice A n c] W fun e w' => ((SchnorrOk n bs ∧ e = .returned (.int .i64 0)) ∨ (¬ SchnorrOk n bs ∧ e = .returned (.int .i64 1))) ∧ Below W.heap.size W w' := fun W hb =>
      read_schnorr n c bs A W hn ((HR.out.below hb).more hb.size) hd
    by_cases h64 : n = 64
    · subst h64
      obtain ⟨ad, rfl, _, _⟩ := HR.out.2 (by omega)
      have hbl : bs.length = 64 := by have h : (bs.map (Value.int .u8)).length = 64 := HR.out.1; simpa using h
      have q1 : ∀ W, (Instr.sliceAt 22 (.slice (some ad) 64 c) (some (.int .i64 32)) none none).run Try.prog W = .ok (.slice (some (ad.add 32)) 32 (c - 32)) W := fun W => by
        have := run_cut_slice (P := Try.prog) Try.underlying22 (by kernel_rfl) (some ad) 64 c (some 32) none 32 64 rfl rfl (by omega) (by omega) W
        rw [if_neg (by omega)] at this
        simpa using this
      have q2 : ∀ W, (Instr.sliceAt 22 (.slice (some ad) 64 c) none (some (.int .i64 32)) none).run Try.prog W = .ok (.slice (some ad) 32 c) W := fun W => by
        have := run_cut_slice (P := Try.prog) Try.underlying22 (by kernel_rfl) (some ad) 64 c none (some 32) 0 32 rfl rfl (by omega) (by omega) W
        rw [if_neg (by omega)] at this
        simpa [Addr.add] using this
      have hl : (Instr.loadAt 24 (.pointer (some (ad.add 32)))).run Try.prog w = .ok (.agg ((bs.drop 32).map (Value.int .u8)).toArray) w := by
        have hr1 := HR.out.drop 32
        rw [← List.map_drop] at hr1
        obtain ⟨ad', e, _, hcell⟩ := hr1.2 (by omega)
        obtain rfl : ad.add 32 = ad' := Option.some.inj e
        exact run_load32 (by simp [hbl]) hcell
      have HLd := Lib.hid hl
      have q3 : ∀ W, (Instr.arrayAt 24 (.slice (some ⟨ad.block, ad.off + 32, none⟩) 32 (c - 32))).run Try.prog W = .ok (.pointer (some ⟨ad.block, ad.off + 32, none⟩)) W := fun W => by
        simp [Instr.arrayAt, run_underlying Try.underlying24]
      have hsc : ∀ W, Calls Try.prog 6 #[.agg ((bs.drop 32).map (Value.int .u8)).toArray] W fun en w' => en = .returned (.bool (decide (be (bs.drop 32) < fn))) ∧ Below W.heap.size W w' := fun W =>
        c_lscalar (by simp [hbl]) (fun x hx => hd x (List.mem_of_mem_drop hx)) W
      have hnu : ∀ W, Below w.heap.size w W → Calls Try.prog 7 #[.slice (some ad) 32 c] W fun en w' => en = .returned (.agg ((dig 64 4 (be (bs.take 32))).map (Value.int .u64)).toArray) ∧ Below W.heap.size W w' := fun W hb => by
        have hr1 := ((HR.out.below hb).more hb.size).take (k := 32) (by omega)
        rw [← List.map_take] at hr1
        have := n256_calls 32 c (bs.take 32) (some ad) W (by omega) hr1 (hd.take 32)
        rwa [List.take_take, Nat.min_self] at this
      have HSC := Lib.hid hsc
      have HNU := Lib.hid hnu
      obtain ⟨v0, v1⟩ := be_any (hd.take 32) (by simp <;> omega)
      have HV := Lib.hid (And.intro v0 v1)
      clear hl hsc hnu v0 v1 hbl
      obtain ⟨D, hD⟩ : ∃ D, D = ((bs.drop 32).map (Value.int .u8)).toArray := ⟨_, rfl⟩
      rw [← hD] at HSC HLd
      clear hD
      by_cases hs : be (bs.drop 32) < fn
      · have hdec : Hid (decide (be (bs.drop 32) < fn) = true) := decide_eq_true hs
        by_cases hok : be (bs.take 32) < fp
        · have hS1 : ∀ W, Below w.heap.size w W → Calls Try.prog 10 #[.slice (some ad) 64 c] W fun e w' => e = .returned (.int .i64 0) ∧ Below W.heap.size W w' := fun W hb =>
            (hS W hb).mono fun e w' h => ⟨h.1.elim (fun q => q.2) (fun q => absurd ⟨rfl, hok⟩ q.1), h.2⟩
          have HS := Lib.hid hS1
          have hdo : Hid (decide (be (bs.take 32) < fp) = true) := decide_eq_true hok
          clear hS hS1 hs hok
          go_enter Try.func3, Try.ntmps3
          go_wp2_with ((with_reducible refine (show wpList _ _ _ ((⟨some 17, _, _, _, _, _⟩ : Oper) :: _) _ _ from ?_)); refine Halt.of ?_)
          show wpList _ _ _ _ _ _
          refine wpList_runw (by go_simp) (load_op HLd.out) ?_
          go_wp2_with (first
            | (refine (HSC.out _).mono ?_; rintro e w1 ⟨rfl, hb1⟩; rw [hdec.out])
            | (refine (HNU.out _ hb1).mono ?_; rintro e w2 ⟨rfl, hb2⟩)
            | (refine (c_fprime _).mono ?_; rintro e w3 ⟨rfl, hb3⟩)
            | (refine (c_uless HV.out.1 HV.out.2 (by decide) fp_lt _).mono ?_; rintro e w4 ⟨rfl, hb4⟩; rw [hdo.out])
            | (refine (HS.out _ (by exact ((hb1.trans (hb2.mono hb1.size)).trans (hb3.mono (by have := hb1.size; have := hb2.size; omega))).trans (hb4.mono (by have := hb1.size; have := hb2.size; have := hb3.size; omega)))).mono ?_; rintro e w5 ⟨rfl, hb5⟩))
          go_ret
          exact ⟨rfl, ((((hb1.trans (hb2.mono hb1.size)).trans (hb3.mono (by have := hb1.size; have := hb2.size; omega))).trans (hb4.mono (by have := hb1.size; have := hb2.size; have := hb3.size; omega))).trans (hb5.mono (by have := hb1.size; have := hb2.size; have := hb3.size; have := hb4.size; omega)))⟩
        · have hS1 : ∀ W, Below w.heap.size w W → Calls Try.prog 10 #[.slice (some ad) 64 c] W fun e w' => e = .returned (.int .i64 1) ∧ Below W.heap.size W w' := fun W hb =>
            (hS W hb).mono fun e w' h => ⟨h.1.elim (fun q => absurd q.1.2 hok) (fun q => q.2), h.2⟩
          have HS := Lib.hid hS1
          have hdo : Hid (decide (be (bs.take 32) < fp) = false) := decide_eq_false hok
          clear hS hS1 hs hok
          go_enter Try.func3, Try.ntmps3
          go_wp2_with ((with_reducible refine (show wpList _ _ _ ((⟨some 17, _, _, _, _, _⟩ : Oper) :: _) _ _ from ?_)); refine Halt.of ?_)
          show wpList _ _ _ _ _ _
          refine wpList_runw (by go_simp) (load_op HLd.out) ?_
          go_wp2_with (first
            | (refine (HSC.out _).mono ?_; rintro e w1 ⟨rfl, hb1⟩; rw [hdec.out])
            | (refine (HNU.out _ hb1).mono ?_; rintro e w2 ⟨rfl, hb2⟩)
            | (refine (c_fprime _).mono ?_; rintro e w3 ⟨rfl, hb3⟩)
            | (refine (c_uless HV.out.1 HV.out.2 (by decide) fp_lt _).mono ?_; rintro e w4 ⟨rfl, hb4⟩; rw [hdo.out])
            | (refine (HS.out _ (by exact ((hb1.trans (hb2.mono hb1.size)).trans (hb3.mono (by have := hb1.size; have := hb2.size; omega))).trans (hb4.mono (by have := hb1.size; have := hb2.size; have := hb3.size; omega)))).mono ?_; rintro e w5 ⟨rfl, hb5⟩))
          go_ret
          exact ⟨rfl, ((((hb1.trans (hb2.mono hb1.size)).trans (hb3.mono (by have := hb1.size; have := hb2.size; omega))).trans (hb4.mono (by have := hb1.size; have := hb2.size; have := hb3.size; omega))).trans (hb5.mono (by have := hb1.size; have := hb2.size; have := hb3.size; have := hb4.size; omega)))⟩
      · have hdec : Hid (decide (be (bs.drop 32) < fn) = false) := decide_eq_false hs
        clear hS hs
        go_enter Try.func3, Try.ntmps3
        go_wp2_with ((with_reducible refine (show wpList _ _ _ ((⟨some 17, _, _, _, _, _⟩ : Oper) :: _) _ _ from ?_)); refine Halt.of ?_)
        show wpList _ _ _ _ _ _
        refine wpList_runw (by go_simp) (load_op HLd.out) ?_
        go_wp2_with (refine (HSC.out _).mono ?_; rintro e w1 ⟨rfl, hb1⟩; rw [hdec.out])
        go_ret
        exact ⟨rfl, hb1⟩
    · have hne : ((n : Int) == 64) = false := by simp; omega
      have hS1 : ∀ W, Below w.heap.size w W → Calls Try.prog 10 #[.slice A n c] W fun e w' => e = .returned (.int .i64 1) ∧ Below W.heap.size W w' := fun W hb =>
        (hS W hb).mono fun e w' h => ⟨h.1.elim (fun q => absurd q.1.1 h64) (fun q => q.2), h.2⟩
      have HS := Lib.hid hS1
      clear hS hS1 h64
      go_enter Try.func3, Try.ntmps3
      go_wp2_with (refine (HS.out _ (Below.refl _ _)).mono ?_; rintro e w1 ⟨rfl, hb1⟩)
      go_ret
      exact ⟨rfl, hb1⟩
  · go_enter Try.func3, Try.ntmps3
    go_wp2_with fail
    all_goals (go_ret; exact ⟨rfl, Below.refl _ _⟩)

end Go.Proofs.Ytfeancgmmonebaa.Sx
