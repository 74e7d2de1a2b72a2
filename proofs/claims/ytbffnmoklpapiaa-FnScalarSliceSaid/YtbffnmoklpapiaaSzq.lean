/-
  The statements on bytes of any length: what their functions give. Printed by mkszq.py. Conditions: none; each theorem bears its own.
-/
import Derived.Test.YtbffnmoklpapiaaSzp
import Derived.Deep.WholeRow
namespace Go.Proofs.Ytbffnmoklpapiaa.Sx
open Go Go.Proofs Go.RowKit

/-- Two lists, by turns. -/
def twine2 : List Int → List Int → List Int
  | x :: l, y :: r => x :: y :: twine2 l r
  | _, _ => []

theorem allEq_twine2 : ∀ {n : Nat} {l : List Int}, l.length = n → allEq (List.replicate n false) (twine2 l l) = true
  | 0, [], _ => rfl
  | n + 1, x :: l, h => by
    simp only [List.replicate_succ, twine2, allEq, decide_true, Bool.false_eq_true, if_false, Bool.true_and]
    exact allEq_twine2 (by simpa using h)

def t_slice : Tail := { n := 37, nt := 33, slots := [(3, .one (.sc (.ptr 0 0))), (16, .tup [.sc (.bool (.var 4)), .agg (kcells 5 (List.replicate 32 (some .u8)))])], mem := [⟨kcells 0 (List.replicate 4 (some .u64)), false⟩] }
def q_slice_0 : Path := ⟨[.pr (.eqs [false, false, false, false, false, false, false, false, false, false, false, false, false, false, false, false, false, false, false, false, false, false, false, false, false, false, false, false, false, false, false, false]) [.var 5, .var 52, .var 6, .var 53, .var 7, .var 54, .var 8, .var 55, .var 9, .var 56, .var 10, .var 57, .var 11, .var 58, .var 12, .var 59, .var 13, .var 60, .var 14, .var 61, .var 15, .var 62, .var 16, .var 63, .var 17, .var 64, .var 18, .var 65, .var 19, .var 66, .var 20, .var 67, .var 21, .var 68, .var 22, .var 69, .var 23, .var 70, .var 24, .var 71, .var 25, .var 72, .var 26, .var 73, .var 27, .var 74, .var 28, .var 75, .var 29, .var 76, .var 30, .var 77, .var 31, .var 78, .var 32, .var 79, .var 33, .var 80, .var 34, .var 81, .var 35, .var 82, .var 36, .var 83], .app 3 [.var 48, .var 49, .var 50, .var 51] 32, .app 2 [.var 0, .var 1, .var 2, .var 3, .var 44, .var 45, .var 46, .var 47] 4, .app 1 [] 4, .pr (.beq) [.var 4, .var 42], .pr (.neg) [.var 41], .app 0 [.var 0, .var 1, .var 2, .var 3, .var 37, .var 38, .var 39, .var 40] 1, .app 1 [] 4], [(.var 43, true)], [.var 84]⟩
def q_slice_1 : Path := ⟨[.pr (.beq) [.var 4, .var 42], .pr (.neg) [.var 41], .app 0 [.var 0, .var 1, .var 2, .var 3, .var 37, .var 38, .var 39, .var 40] 1, .app 1 [] 4], [(.var 43, false)], [.lit 0]⟩

theorem slice_c (e0 e1 e2 e3 : Entry) (x0 x1 x2 x3 o b0 b1 b2 b3 b4 b5 b6 b7 b8 b9 b10 b11 b12 b13 b14 b15 b16 b17 b18 b19 b20 b21 b22 b23 b24 b25 b26 b27 b28 b29 b30 b31 : Int) : (SI.var 43).val (runR [e0, e1, e2, e3] q_slice_0.defs [x0, x1, x2, x3, o, b0, b1, b2, b3, b4, b5, b6, b7, b8, b9, b10, b11, b12, b13, b14, b15, b16, b17, b18, b19, b20, b21, b22, b23, b24, b25, b26, b27, b28, b29, b30, b31]) =
    if ((o != 0) == ((if (fit 1 (e0.F ([x0, x1, x2, x3] ++ fit 4 (e1.F [])))).headD 0 = 0 then (1 : Int) else 0) != 0)) = true then 1 else 0 := by kernel_rfl

theorem slice_d (e0 e1 e2 e3 : Entry) (x0 x1 x2 x3 o b0 b1 b2 b3 b4 b5 b6 b7 b8 b9 b10 b11 b12 b13 b14 b15 b16 b17 b18 b19 b20 b21 b22 b23 b24 b25 b26 b27 b28 b29 b30 b31 : Int) : (SI.var 43).val (runR [e0, e1, e2, e3] q_slice_1.defs [x0, x1, x2, x3, o, b0, b1, b2, b3, b4, b5, b6, b7, b8, b9, b10, b11, b12, b13, b14, b15, b16, b17, b18, b19, b20, b21, b22, b23, b24, b25, b26, b27, b28, b29, b30, b31]) =
    if ((o != 0) == ((if (fit 1 (e0.F ([x0, x1, x2, x3] ++ fit 4 (e1.F [])))).headD 0 = 0 then (1 : Int) else 0) != 0)) = true then 1 else 0 := by kernel_rfl

theorem len4q {b : List Int} (h : b.length = 4) : ∃ a0 a1 a2 a3, b = [a0, a1, a2, a3] := by
  match b, h with
  | [a0, a1, a2, a3], _ => exact ⟨a0, a1, a2, a3, rfl⟩

theorem slice_o (e0 e1 e2 e3 : Entry) (x0 x1 x2 x3 o b0 b1 b2 b3 b4 b5 b6 b7 b8 b9 b10 b11 b12 b13 b14 b15 b16 b17 b18 b19 b20 b21 b22 b23 b24 b25 b26 b27 b28 b29 b30 b31 : Int) : q_slice_0.outs.map (·.val (runR [e0, e1, e2, e3] q_slice_0.defs [x0, x1, x2, x3, o, b0, b1, b2, b3, b4, b5, b6, b7, b8, b9, b10, b11, b12, b13, b14, b15, b16, b17, b18, b19, b20, b21, b22, b23, b24, b25, b26, b27, b28, b29, b30, b31])) = [if allEq (List.replicate 32 false) (twine2 [b0, b1, b2, b3, b4, b5, b6, b7, b8, b9, b10, b11, b12, b13, b14, b15, b16, b17, b18, b19, b20, b21, b22, b23, b24, b25, b26, b27, b28, b29, b30, b31] (fit 32 (e3.F (fit 4 (e2.F ([x0, x1, x2, x3] ++ fit 4 (e1.F []))))))) then 1 else 0] := by kernel_rfl

theorem sslice_key {V : Int} (v0 : 0 ≤ V) (v1 : V < 2 ^ 256) :
    (if ((b01 (decide (fn ≤ V)) != 0) == ((if (fit 1 (e_uless.F (dig 64 4 V ++ fit 4 (e_order.F [])))).headD 0 = 0 then (1 : Int) else 0) != 0)) = true then (1 : Int) else 0) = 1 ∧
    (if allEq (List.replicate 32 false) (twine2 (dig 8 32 (V % fn)).reverse (fit 32 (e_ub.F (fit 4 (e_red.F (dig 64 4 V ++ fit 4 (e_order.F []))))))) = true then (1 : Int) else 0) = 1 := by
  obtain ⟨m0, m1⟩ := mod_bounds (V := V) fn_pos fn_lt
  rw [order_spec, fit_eq (dig_length 64 4 _), uless_spec v0 v1 (by decide) fn_lt]
  refine ⟨?_, ?_⟩
  · by_cases hh : fn ≤ V
    · have h2 : ¬ V < fn := by omega
      simp [b01, fit, hh, h2]
    · have h2 : V < fn := by omega
      simp [b01, fit, hh, h2]
  · rw [red_spec v0 v1 fn_pos fn_lt (by unfold fn; omega), fit_eq (dig_length 64 4 _), ub_spec m0 m1, fit_eq (n := 32) (by simp [dig_length]), if_pos (allEq_twine2 (by simp [dig_length]))]

set_option maxRecDepth 100000 in
theorem law_sslice (n c : Nat) (bs : List Int) (A : Option Addr) (w : World) (hm : n ≤ 9223372036854775807) (hc : n ≤ c) (hr : Reads w w.heap.size A n (bs.map (Value.int .u8))) (hd : Dg 8 bs) :
    Calls Try.prog 6 #[.slice A n c] w fun en w' => en = .returned (.bool true) ∧ Below w.heap.size w w' := by
  have HR := Lib.hid hr
  clear hr
  by_cases h10 : (n : Int) ≤ 10000
  · have hn : n < 2147483648 := by omega
    clear hm
    obtain ⟨V, hV⟩ : ∃ V, V = be (bs.take 32) := ⟨_, rfl⟩
    have hv : 0 ≤ V ∧ V < 2 ^ 256 := by rw [hV]; exact be_any (hd.take 32) (by simp <;> omega)
    have HV := Lib.hid hV
    have hN : ∀ W : World, Below w.heap.size w W → Calls Try.prog 24 #[.slice A n c] W fun en w' => en = .returned (.agg ((dig 64 4 V).map (Value.int .u64)).toArray) ∧ Below W.heap.size W w' := fun W hb => by
      rw [hV]
      exact n256_calls n c bs A W hc ((Reads.below HR hb).more hb.size) hd
    have hF : ∀ W : World, Below w.heap.size w W → Calls Try.prog 25 #[.slice A n c] W fun en w' =>
        en = .returned (.tuple #[.bool (decide (fn ≤ V)), .agg (((dig 8 32 (V % fn)).reverse).map (Value.int .u8)).toArray]) ∧ Below W.heap.size W w' := fun W hb => by
      rw [hV]
      exact sslice_calls n c bs A W hn hc ((Reads.below HR hb).more hb.size) hd
    have HN := Lib.hid hN
    have HF := Lib.hid hF
    clear hN hF hV
    obtain ⟨D, hD⟩ : ∃ D, D = (dig 64 4 V).map (Value.int .u64) := ⟨_, rfl⟩
    have hst : ∀ W : World, (storeCells ⟨W.heap.size, 0, none⟩ D).run Try.prog (W.alloc (.cells zero4 33)) = .ok () (W.alloc (.cells D.toArray 33)) := fun W => by
      have hl : D.length = 4 := by rw [hD]; simp [dig_length]
      have h1 : D.toArray.all (·.oneCell') = true := by
        rw [hD]
        simp only [List.all_toArray, List.all_map, List.all_eq_true]
        intro x _
        rfl
      have := run_storeCells_new (P := Try.prog) W 33 zero4 D.toArray (by rw [show D.toArray.size = 4 by simpa using hl]; kernel_rfl) (by simp [hl]) h1
      simpa using this
    have hDl : D.length = 4 := by rw [hD]; simp [dig_length]
    have HD := Lib.hid hD
    clear hD
    go_enter Try.func6, Try.ntmps6
    go_wp2_with (first
      | (refine (HN.out _ (Below.refl _ _)).mono ?_; rintro en w1 ⟨rfl, hb1⟩; rw [← HD.out])
      | (refine (HF.out _ (by exact hb1.alloc hb1.size _)).mono ?_; rintro en w2 ⟨rfl, hb2⟩; refine Halt.of ?_))
    rename_i K1 hK1 K hK
    show K _ _
    refine hK _ _ ?_
    have g2 : w2.heap[w1.heap.size]? = some (.cells ((dig 64 4 V).map (Value.int .u64)).toArray 33 (0, 0)) := by
      rw [← HD.out]
      exact (hb2.block w1.heap.size (by simp)).trans (heap_alloc_new w1 _)
    have hs1 := hb1.size
    have hs2 := hb2.size
    refine tail_list mixed (Γ := [e_uless, e_order, e_red, e_ub]) (fun e he => by
        simp only [List.mem_cons, List.not_mem_nil, or_false] at he
        rcases he with rfl | rfl | rfl | rfl
        · exact m_uless
        · exact m_order
        · exact m_red
        · exact m_ub) (t := t_slice) (res := [.bool]) (nds := []) (ps := [q_slice_0, q_slice_1]) (by kernel_rfl)
      (base := dig 64 4 V ++ (b01 (decide (fn ≤ V)) :: (dig 8 32 (V % fn)).reverse)) (bs := [(w1.heap.size, 0)]) (by simp [dig_length]; rfl) rfl (fun _ h => by cases h) rfl rfl ⟨rfl, ?_, trivial⟩ ?_ ?_ hK1 ?_
    · have h1 := kcells_at .u8 [(w1.heap.size, 0)] (dig 8 32 (V % fn)).reverse (dig 64 4 V ++ [b01 (decide (fn ≤ V))]) [] (dig 64 4 V ++ (b01 (decide (fn ≤ V)) :: (dig 8 32 (V % fn)).reverse)) 5 32 (by simp) (by simp [dig_length]) (by simp [dig_length])
      show some _ = some (SV.den _ (.tup [.sc (.bool (.var 4)), .agg (kcells 5 (List.replicate 32 (some .u8)))]))
      simp only [SV.den, S1.den, List.map, h1]
      have h2 : SC.den ⟨dig 64 4 V ++ (b01 (decide (fn ≤ V)) :: (dig 8 32 (V % fn)).reverse), [(w1.heap.size, 0)]⟩ (.bool (.var 4)) = .bool (decide (fn ≤ V)) := by
        show Value.bool (b01 (decide (fn ≤ V)) != 0) = _
        rw [b01_bool]
      rw [h2, List.map_reverse]
      rfl
    · intro o so hso
      match o with
      | 0 =>
        obtain rfl := Option.some.inj hso
        exact ObjOk.whole g2 rfl rfl (kcells_at .u64 _ (dig 64 4 V) [] _ _ 0 4 rfl rfl (dig_length 64 4 _))
      | o + 1 => cases hso
    · intro o o' so so' hoo h1 h2 h3
      match o, o' with
      | 0, 0 => exact absurd rfl hoo
      | o + 1, _ => cases h1
      | _, o' + 1 => cases h2
    · intro p hp hasm w' hfr
      obtain ⟨k1, k2⟩ := sslice_key hv.1 hv.2
      have fin1 : Below w.heap.size w w' := by
        refine (((hb1.alloc hb1.size _).trans (hb2.mono (by simp; omega)))).trans (hfr.below (by simp at hs2; omega) fun k j hk ⟨o, so, hso, hw, hk', _⟩ => ?_)
        match o with
        | 0 => have : w1.heap.size = k := hk'; omega
        | o + 1 => cases hso
      obtain ⟨x0, x1, x2, x3, hx⟩ := len4q (dig_length 64 4 V)
      obtain ⟨b0, b1, b2, b3, b4, b5, b6, b7, b8, b9, b10, b11, b12, b13, b14, b15, b16, b17, b18, b19, b20, b21, b22, b23, b24, b25, b26, b27, b28, b29, b30, b31, hb⟩ := len32 (b := (dig 8 32 (V % fn)).reverse) (by simp [dig_length])
      rw [hx] at k1 k2
      rw [hb] at k2
      rw [hx, hb] at hasm ⊢
      simp only [List.mem_cons, List.not_mem_nil, or_false] at hp
      rcases hp with rfl | rfl
      · have := slice_o e_uless e_order e_red e_ub x0 x1 x2 x3 (b01 (decide (fn ≤ V))) b0 b1 b2 b3 b4 b5 b6 b7 b8 b9 b10 b11 b12 b13 b14 b15 b16 b17 b18 b19 b20 b21 b22 b23 b24 b25 b26 b27 b28 b29 b30 b31
        rw [k2] at this
        refine ⟨?_, fin1⟩
        exact congrArg (fun l => Ending.returned (resV [.bool] l)) this
      · exfalso
        have h1 : ((SI.var 43).val _ != 0) = false := hasm _ List.mem_cons_self
        have h2 := slice_d e_uless e_order e_red e_ub x0 x1 x2 x3 (b01 (decide (fn ≤ V))) b0 b1 b2 b3 b4 b5 b6 b7 b8 b9 b10 b11 b12 b13 b14 b15 b16 b17 b18 b19 b20 b21 b22 b23 b24 b25 b26 b27 b28 b29 b30 b31
        rw [k1] at h2
        have h3 := congrArg (fun z : Int => z != 0) h2
        exact absurd (h1.symm.trans h3) (by decide)
  · go_enter Try.func6, Try.ntmps6
    go_wp2_with fail
    all_goals (go_ret; exact ⟨rfl, Below.refl _ _⟩)

theorem fslice_key {V : Int} (v0 : 0 ≤ V) (v1 : V < 2 ^ 256) :
    (if ((b01 (decide (fp ≤ V)) != 0) == ((if (fit 1 (e_uless.F (dig 64 4 V ++ fit 4 (e_fprime.F [])))).headD 0 = 0 then (1 : Int) else 0) != 0)) = true then (1 : Int) else 0) = 1 ∧
    (if allEq (List.replicate 32 false) (twine2 (dig 8 32 (V % fp)).reverse (fit 32 (e_ub.F (fit 4 (e_red.F (dig 64 4 V ++ fit 4 (e_fprime.F []))))))) = true then (1 : Int) else 0) = 1 := by
  obtain ⟨m0, m1⟩ := mod_bounds (V := V) fp_pos fp_lt
  rw [fprime_spec, fit_eq (dig_length 64 4 _), uless_spec v0 v1 (by decide) fp_lt]
  refine ⟨?_, ?_⟩
  · by_cases hh : fp ≤ V
    · have h2 : ¬ V < fp := by omega
      simp [b01, fit, hh, h2]
    · have h2 : V < fp := by omega
      simp [b01, fit, hh, h2]
  · rw [red_spec v0 v1 fp_pos fp_lt (by unfold fp; omega), fit_eq (dig_length 64 4 _), ub_spec m0 m1, fit_eq (n := 32) (by simp [dig_length]), if_pos (allEq_twine2 (by simp [dig_length]))]

set_option maxRecDepth 100000 in
theorem law_fslice (n c : Nat) (bs : List Int) (A : Option Addr) (w : World) (hm : n ≤ 9223372036854775807) (hc : n ≤ c) (hr : Reads w w.heap.size A n (bs.map (Value.int .u8))) (hd : Dg 8 bs) :
    Calls Try.prog 8 #[.slice A n c] w fun en w' => en = .returned (.bool true) ∧ Below w.heap.size w w' := by
  have HR := Lib.hid hr
  clear hr
  by_cases h10 : (n : Int) ≤ 10000
  · have hn : n < 2147483648 := by omega
    clear hm
    obtain ⟨V, hV⟩ : ∃ V, V = be (bs.take 32) := ⟨_, rfl⟩
    have hv : 0 ≤ V ∧ V < 2 ^ 256 := by rw [hV]; exact be_any (hd.take 32) (by simp <;> omega)
    have HV := Lib.hid hV
    have hN : ∀ W : World, Below w.heap.size w W → Calls Try.prog 24 #[.slice A n c] W fun en w' => en = .returned (.agg ((dig 64 4 V).map (Value.int .u64)).toArray) ∧ Below W.heap.size W w' := fun W hb => by
      rw [hV]
      exact n256_calls n c bs A W hc ((Reads.below HR hb).more hb.size) hd
    have hF : ∀ W : World, Below w.heap.size w W → Calls Try.prog 30 #[.slice A n c] W fun en w' =>
        en = .returned (.tuple #[.bool (decide (fp ≤ V)), .agg (((dig 8 32 (V % fp)).reverse).map (Value.int .u8)).toArray]) ∧ Below W.heap.size W w' := fun W hb => by
      rw [hV]
      exact fslice_calls n c bs A W hn hc ((Reads.below HR hb).more hb.size) hd
    have HN := Lib.hid hN
    have HF := Lib.hid hF
    clear hN hF hV
    obtain ⟨D, hD⟩ : ∃ D, D = (dig 64 4 V).map (Value.int .u64) := ⟨_, rfl⟩
    have hst : ∀ W : World, (storeCells ⟨W.heap.size, 0, none⟩ D).run Try.prog (W.alloc (.cells zero4 33)) = .ok () (W.alloc (.cells D.toArray 33)) := fun W => by
      have hl : D.length = 4 := by rw [hD]; simp [dig_length]
      have h1 : D.toArray.all (·.oneCell') = true := by
        rw [hD]
        simp only [List.all_toArray, List.all_map, List.all_eq_true]
        intro x _
        rfl
      have := run_storeCells_new (P := Try.prog) W 33 zero4 D.toArray (by rw [show D.toArray.size = 4 by simpa using hl]; kernel_rfl) (by simp [hl]) h1
      simpa using this
    have hDl : D.length = 4 := by rw [hD]; simp [dig_length]
    have HD := Lib.hid hD
    clear hD
    go_enter Try.func8, Try.ntmps8
    go_wp2_with (first
      | (refine (HN.out _ (Below.refl _ _)).mono ?_; rintro en w1 ⟨rfl, hb1⟩; rw [← HD.out])
      | (refine (HF.out _ (by exact hb1.alloc hb1.size _)).mono ?_; rintro en w2 ⟨rfl, hb2⟩; refine Halt.of ?_))
    rename_i K1 hK1 K hK
    show K _ _
    refine hK _ _ ?_
    have g2 : w2.heap[w1.heap.size]? = some (.cells ((dig 64 4 V).map (Value.int .u64)).toArray 33 (0, 0)) := by
      rw [← HD.out]
      exact (hb2.block w1.heap.size (by simp)).trans (heap_alloc_new w1 _)
    have hs1 := hb1.size
    have hs2 := hb2.size
    refine tail_list mixed (Γ := [e_uless, e_fprime, e_red, e_ub]) (fun e he => by
        simp only [List.mem_cons, List.not_mem_nil, or_false] at he
        rcases he with rfl | rfl | rfl | rfl
        · exact m_uless
        · exact m_fprime
        · exact m_red
        · exact m_ub) (t := t_slice) (res := [.bool]) (nds := []) (ps := [q_slice_0, q_slice_1]) (by kernel_rfl)
      (base := dig 64 4 V ++ (b01 (decide (fp ≤ V)) :: (dig 8 32 (V % fp)).reverse)) (bs := [(w1.heap.size, 0)]) (by simp [dig_length]; rfl) rfl (fun _ h => by cases h) rfl rfl ⟨rfl, ?_, trivial⟩ ?_ ?_ hK1 ?_
    · have h1 := kcells_at .u8 [(w1.heap.size, 0)] (dig 8 32 (V % fp)).reverse (dig 64 4 V ++ [b01 (decide (fp ≤ V))]) [] (dig 64 4 V ++ (b01 (decide (fp ≤ V)) :: (dig 8 32 (V % fp)).reverse)) 5 32 (by simp) (by simp [dig_length]) (by simp [dig_length])
      show some _ = some (SV.den _ (.tup [.sc (.bool (.var 4)), .agg (kcells 5 (List.replicate 32 (some .u8)))]))
      simp only [SV.den, S1.den, List.map, h1]
      have h2 : SC.den ⟨dig 64 4 V ++ (b01 (decide (fp ≤ V)) :: (dig 8 32 (V % fp)).reverse), [(w1.heap.size, 0)]⟩ (.bool (.var 4)) = .bool (decide (fp ≤ V)) := by
        show Value.bool (b01 (decide (fp ≤ V)) != 0) = _
        rw [b01_bool]
      rw [h2, List.map_reverse]
      rfl
    · intro o so hso
      match o with
      | 0 =>
        obtain rfl := Option.some.inj hso
        exact ObjOk.whole g2 rfl rfl (kcells_at .u64 _ (dig 64 4 V) [] _ _ 0 4 rfl rfl (dig_length 64 4 _))
      | o + 1 => cases hso
    · intro o o' so so' hoo h1 h2 h3
      match o, o' with
      | 0, 0 => exact absurd rfl hoo
      | o + 1, _ => cases h1
      | _, o' + 1 => cases h2
    · intro p hp hasm w' hfr
      obtain ⟨k1, k2⟩ := fslice_key hv.1 hv.2
      have fin1 : Below w.heap.size w w' := by
        refine (((hb1.alloc hb1.size _).trans (hb2.mono (by simp; omega)))).trans (hfr.below (by simp at hs2; omega) fun k j hk ⟨o, so, hso, hw, hk', _⟩ => ?_)
        match o with
        | 0 => have : w1.heap.size = k := hk'; omega
        | o + 1 => cases hso
      obtain ⟨x0, x1, x2, x3, hx⟩ := len4q (dig_length 64 4 V)
      obtain ⟨b0, b1, b2, b3, b4, b5, b6, b7, b8, b9, b10, b11, b12, b13, b14, b15, b16, b17, b18, b19, b20, b21, b22, b23, b24, b25, b26, b27, b28, b29, b30, b31, hb⟩ := len32 (b := (dig 8 32 (V % fp)).reverse) (by simp [dig_length])
      rw [hx] at k1 k2
      rw [hb] at k2
      rw [hx, hb] at hasm ⊢
      simp only [List.mem_cons, List.not_mem_nil, or_false] at hp
      rcases hp with rfl | rfl
      · have := slice_o e_uless e_fprime e_red e_ub x0 x1 x2 x3 (b01 (decide (fp ≤ V))) b0 b1 b2 b3 b4 b5 b6 b7 b8 b9 b10 b11 b12 b13 b14 b15 b16 b17 b18 b19 b20 b21 b22 b23 b24 b25 b26 b27 b28 b29 b30 b31
        rw [k2] at this
        refine ⟨?_, fin1⟩
        exact congrArg (fun l => Ending.returned (resV [.bool] l)) this
      · exfalso
        have h1 : ((SI.var 43).val _ != 0) = false := hasm _ List.mem_cons_self
        have h2 := slice_d e_uless e_fprime e_red e_ub x0 x1 x2 x3 (b01 (decide (fp ≤ V))) b0 b1 b2 b3 b4 b5 b6 b7 b8 b9 b10 b11 b12 b13 b14 b15 b16 b17 b18 b19 b20 b21 b22 b23 b24 b25 b26 b27 b28 b29 b30 b31
        rw [k1] at h2
        have h3 := congrArg (fun z : Int => z != 0) h2
        exact absurd (h1.symm.trans h3) (by decide)
  · go_enter Try.func8, Try.ntmps8
    go_wp2_with fail
    all_goals (go_ret; exact ⟨rfl, Below.refl _ _⟩)

end Go.Proofs.Ytbffnmoklpapiaa.Sx
