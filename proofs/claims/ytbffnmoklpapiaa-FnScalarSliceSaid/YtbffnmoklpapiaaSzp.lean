/-
  Bytes of any length as a scalar, as a field element: the thin package's functions. Conditions: none; each theorem bears its own.
-/
import Derived.Test.YtbffnmoklpapiaaSzo
namespace Go.Proofs.Ytbffnmoklpapiaa.Sx
open Go Go.Proofs Go.RowKit

section
variable {P : Program} {w w' : World} {ops : Array Oper} {rest : List Oper} {o : Oper} {a : Act} {Q : Exit → Act → World → Prop} {v : Value}
/-- An operation whose run is known. -/
theorem wpList_run (hgd : o.guard = none) (hrun : (execOp a.eval o).run P w = .ok (.value v) w') (h : wpList P ops Q rest (a.put o.dst v) w') : wpList P ops Q (o :: rest) a w := by
  refine wpList_plain hgd fun K hK => ?_
  unfold Oper.wp
  rw [hrun]
  exact hK _ _ h
end

theorem resV_bool_agg (k : IntKind) {b : Int} {xs : List Int} {m : Nat} (h : xs.length = m) : resV [.bool, .agg (List.replicate m (some k))] (b :: xs) = .tuple #[.bool (b != 0), .agg (xs.map (Value.int k)).toArray] := by
  have h1 := kcells_at k [] xs [b] [] (b :: xs) 1 m (by simp) rfl h
  show Value.tuple (List.map (S1.den ⟨b :: xs, []⟩) [.sc (.bool (.var 0)), .agg (kcells 1 (List.replicate m (some k)))]).toArray = _
  simp only [List.map, S1.den, h1]
  rfl

theorem b01_bool (b : Bool) : (b01 b != 0) = b := by cases b <;> rfl

def zero32 : Array Value := (List.replicate 32 (Value.int .u8 0)).toArray

/-! ## Scalars -/

def t_sslice : Tail := { n := 9, nt := 10, slots := [(3, .one (.sc (.ptr 0 0))), (4, .one (.sc (.ptr 1 0))), (5, .one (.sc (.bool (.var 8))))], mem := [⟨List.replicate 32 (.int .u8 (.lit 0)), true⟩, ⟨kcells 0 (List.replicate 8 (some .u32)), false⟩] }
def p_sslice : Path := ⟨[.app 0 (vars 0 8) 32], [], .var 8 :: vars 9 32⟩

theorem out_sslice {V b : Int} (v0 : 0 ≤ V) (v1 : V < 2 ^ 256) : p_sslice.outs.map (·.val (runR [e_sbytes] p_sslice.defs (dig 32 8 V ++ [b]))) = b :: (dig 8 32 V).reverse := by
  show (SI.var 8 :: vars 9 32).map (·.val ((dig 32 8 V ++ [b]) ++ fit 32 (e_sbytes.F ((vars 0 8).map (·.val (dig 32 8 V ++ [b])))))) = _
  have h0 : (vars 0 8).map (·.val (dig 32 8 V ++ [b])) = dig 32 8 V := vars_base0 [e_sbytes] [] (dig_length 32 8 V)
  rw [h0, sbytes_spec v0 v1, fit_eq (by simp [dig_length])]
  have h1 := vars_last [e_sbytes] [] (a := dig 32 8 V ++ [b]) (l := (dig 8 32 V).reverse) (i := 9) (n := 32) (by simp [dig_length]) (by simp [dig_length])
  rw [List.map_cons]
  exact List.cons_eq_cons.2 ⟨rfl, h1⟩

theorem mod_lo {V p : Int} (hp : 0 < p) : 0 ≤ V % p := Int.emod_nonneg _ (by omega)

set_option maxRecDepth 100000 in
theorem sslice_calls (n c : Nat) (bs : List Int) (A : Option Addr) (w : World) (hn : n < 2147483648) (hc : n ≤ c) (hr : Reads w w.heap.size A n (bs.map (Value.int .u8))) (hd : Dg 8 bs) :
    Calls Try.prog 25 #[.slice A n c] w fun en w' =>
      en = .returned (.tuple #[.bool (decide (fn ≤ be (bs.take 32))), .agg (((dig 8 32 (be (bs.take 32) % fn)).reverse).map (Value.int .u8)).toArray]) ∧ Below w.heap.size w w' := by
  have hlen : bs.length = n := by simpa using hr.1
  obtain ⟨W0, hW0⟩ : ∃ W0, W0 = (w.alloc (.cells zero32 24)).alloc (.cells ((List.replicate 8 (0 : Int)).map (Value.int .u32)).toArray 56) := ⟨_, rfl⟩
  have hWs : W0.heap.size = w.heap.size + 2 := by rw [hW0]; simp
  have hWb : Below w.heap.size w W0 := by rw [hW0]; exact ((Below.refl _ _).alloc (Nat.le_refl _) _).alloc (by simp) _
  have hg0 : W0.heap[w.heap.size]? = some (.cells zero32 24 (0, 0)) := by
    rw [hW0]
    exact (heap_alloc_old _ _ (by simp)).trans (heap_alloc_new w _)
  have hg1 : W0.heap[w.heap.size + 1]? = some (.cells ((List.replicate 8 (0 : Int)).map (Value.int .u32)).toArray 56 (0, 0)) := by
    have h := heap_alloc_new (w.alloc (.cells zero32 24)) (.cells ((List.replicate 8 (0 : Int)).map (Value.int .u32)).toArray 56)
    rw [show (w.alloc (.cells zero32 24)).heap.size = w.heap.size + 1 by simp] at h
    rw [hW0]
    exact h
  have hr0 : Reads W0 W0.heap.size A n (bs.map (Value.int .u8)) := (hr.below hWb).more (by omega)
  have hcall := sbs_calls (w.heap.size + 1) n c _ (List.replicate 8 0) bs A W0 (by simp) (zeros_dg 32 8) hg1 hn hc hr0 hd
  have HC := Lib.hid hcall
  have HW0 := Lib.hid hW0
  have HWs := Lib.hid hWs
  have HG := Lib.hid hg0
  clear hcall hW0 hWs hg0 hg1 hlen
  go_enter Try.func25, Try.ntmps25
  go_wp2_with (refine Calls.mono (by have := HW0.out; subst this; exact HC.out) ?_; rintro en w1 ⟨rfl, g1, ho1⟩; refine Halt.of ?_)
  rename_i K1 hK1 K hK
  show K _ _
  refine hK _ _ (wpList_run rfl rfl (wpList_nil (hK1 _ _ ?_)))
  rw [← HW0.out] at ho1
  obtain ⟨V, hV⟩ : ∃ V, V = be (bs.take 32) % fn := ⟨_, rfl⟩
  rw [← hV] at g1
  have HV := Lib.hid hV
  have v0 : 0 ≤ V := by rw [hV]; exact (mod_bounds fn_pos fn_lt).1
  have v1 : V < 2 ^ 256 := by rw [hV]; exact (mod_bounds fn_pos fn_lt).2
  have hws := HWs.out
  have g0 : w1.heap[w.heap.size]? = some (.cells zero32 24 (0, 0)) := (ho1.block w.heap.size (by omega) (by omega)).trans HG.out
  refine tail_sound mixed (Γ := [e_sbytes]) (fun e he => by simp only [List.mem_cons, List.not_mem_nil, or_false] at he; subst he; exact m_sbytes) (t := t_sslice) (res := [.bool, .agg (List.replicate 32 (some .u8))]) (nds := []) (ps := [p_sslice]) (by kernel_rfl)
    (base := dig 32 8 V ++ [b01 (decide (fn ≤ be (bs.take 32)))]) (bs := [(w.heap.size, 0), (w.heap.size + 1, 0)]) (by simp [dig_length]; rfl) rfl (fun _ h => by cases h) rfl rfl ⟨rfl, rfl, ?_, trivial⟩ ?_ ?_ ?_
  · show some (Value.bool (decide (fn ≤ be (bs.take 32)))) = some (Value.bool (List.getD _ 8 0 != 0))
    rw [List.getD, List.getElem?_append_right (by simp [dig_length])]
    simp only [dig_length, b01]
    cases decide (fn ≤ be (bs.take 32)) <;> rfl
  · intro o so hso
    match o with
    | 0 =>
      obtain rfl := Option.some.inj hso
      exact ObjOk.whole (cs := zero32.toList) g0 rfl rfl rfl
    | 1 =>
      obtain rfl := Option.some.inj hso
      exact ObjOk.whole g1 rfl rfl (kcells_at .u32 _ (dig 32 8 V) [] _ _ 0 8 rfl rfl (dig_length 32 8 _))
    | o + 2 => cases hso
  · intro o o' so so' hoo h1 h2 h3
    match o, o' with
    | 0, 1 => exact .inl (by show w.heap.size ≠ w.heap.size + 1; omega)
    | 1, 0 => exact .inl (by show w.heap.size + 1 ≠ w.heap.size; omega)
    | 0, 0 => exact absurd rfl hoo
    | 1, 1 => exact absurd rfl hoo
    | o + 2, _ => cases h1
    | _, o' + 2 => cases h2
  · intro p hp _ w' hfr
    obtain rfl : p = p_sslice := by simpa using hp
    rw [out_sslice v0 v1, resV_bool_agg .u8 (by simp [dig_length])]
    refine ⟨?_, ?_⟩
    · rw [← HV.out, b01_bool]
    · have hs1 := ho1.size
      have h1 : Below w.heap.size w1 w' := hfr.below (by omega) fun k j hk ⟨o, so, hso, hw, hk', _⟩ => by
        match o with
        | 0 => have : w.heap.size = k := hk'; omega
        | 1 => have : w.heap.size + 1 = k := hk'; omega
        | o + 2 => cases hso
      exact (ho1.below hWb (Nat.le_refl _) (by omega)).trans h1

/-! ## Field elements -/

theorem be_any {l : List Int} (h : Dg 8 l) (hl : l.length ≤ 32) : 0 ≤ be l ∧ be l < 2 ^ 256 := by
  have h1 := be_bounds (l := List.replicate (32 - l.length) 0 ++ l) (by simp; omega) (pad_dg h)
  rwa [be_pad] at h1

def t_fslice : Tail := { n := 11, nt := 10, slots := [(3, .one (.sc (.ptr 0 0))), (4, .one (.sc (.ptr 1 0))), (5, .one (.sc (.bool (.var 10))))], mem := [⟨List.replicate 32 (.int .u8 (.lit 0)), true⟩, ⟨kcells 0 (List.replicate 10 (some .u32)), true⟩] }
def p_fslice : Path := ⟨[.app 0 (vars 0 10) 42], [], .var 10 :: vars 21 32⟩

theorem out_fslice {V b : Int} (v0 : 0 ≤ V) (v1 : V < 2 ^ 256) : p_fslice.outs.map (·.val (runR [e_number] p_fslice.defs (dig 26 10 V ++ [b]))) = b :: (dig 8 32 (V % fp)).reverse := by
  show (SI.var 10 :: vars 21 32).map (·.val ((dig 26 10 V ++ [b]) ++ fit 42 (e_number.F ((vars 0 10).map (·.val (dig 26 10 V ++ [b])))))) = _
  have h0 : (vars 0 10).map (·.val (dig 26 10 V ++ [b])) = dig 26 10 V := vars_base0 [e_number] [] (dig_length 26 10 V)
  rw [h0, number_spec v0 v1, fit_eq (by simp [dig_length])]
  have h1 := vars_last [e_number] [] (a := (dig 26 10 V ++ [b]) ++ dig 26 10 (V % fp)) (l := (dig 8 32 (V % fp)).reverse) (i := 21) (n := 32) (by simp [dig_length]) (by simp [dig_length])
  rw [List.map_cons]
  exact List.cons_eq_cons.2 ⟨rfl, by rw [← List.append_assoc]; exact h1⟩

set_option maxRecDepth 100000 in
theorem fslice_calls (n c : Nat) (bs : List Int) (A : Option Addr) (w : World) (hn : n < 2147483648) (hc : n ≤ c) (hr : Reads w w.heap.size A n (bs.map (Value.int .u8))) (hd : Dg 8 bs) :
    Calls Try.prog 30 #[.slice A n c] w fun en w' =>
      en = .returned (.tuple #[.bool (decide (fp ≤ be (bs.take 32))), .agg (((dig 8 32 (be (bs.take 32) % fp)).reverse).map (Value.int .u8)).toArray]) ∧ Below w.heap.size w w' := by
  have hlen : bs.length = n := by simpa using hr.1
  obtain ⟨W0, hW0⟩ : ∃ W0, W0 = (w.alloc (.cells zero32 24)).alloc (.cells ((List.replicate 10 (0 : Int)).map (Value.int .u32)).toArray 66) := ⟨_, rfl⟩
  have hWs : W0.heap.size = w.heap.size + 2 := by rw [hW0]; simp
  have hWb : Below w.heap.size w W0 := by rw [hW0]; exact ((Below.refl _ _).alloc (Nat.le_refl _) _).alloc (by simp) _
  have hg0 : W0.heap[w.heap.size]? = some (.cells zero32 24 (0, 0)) := by
    rw [hW0]
    exact (heap_alloc_old _ _ (by simp)).trans (heap_alloc_new w _)
  have hg1 : W0.heap[w.heap.size + 1]? = some (.cells ((List.replicate 10 (0 : Int)).map (Value.int .u32)).toArray 66 (0, 0)) := by
    have h := heap_alloc_new (w.alloc (.cells zero32 24)) (.cells ((List.replicate 10 (0 : Int)).map (Value.int .u32)).toArray 66)
    rw [show (w.alloc (.cells zero32 24)).heap.size = w.heap.size + 1 by simp] at h
    rw [hW0]
    exact h
  have hr0 : Reads W0 W0.heap.size A n (bs.map (Value.int .u8)) := (hr.below hWb).more (by omega)
  have hcall := fbs_calls (w.heap.size + 1) n c _ (List.replicate 10 0) bs A W0 (by simp) (zeros_dg 32 10) hg1 hn hc hr0 hd
  have HC := Lib.hid hcall
  have HW0 := Lib.hid hW0
  have HWs := Lib.hid hWs
  have HG := Lib.hid hg0
  clear hcall hW0 hWs hg0 hg1 hlen
  go_enter Try.func30, Try.ntmps30
  go_wp2_with (refine Calls.mono (by have := HW0.out; subst this; exact HC.out) ?_; rintro en w1 ⟨rfl, g1, ho1⟩; refine Halt.of ?_)
  rename_i K1 hK1 K hK
  show K _ _
  refine hK _ _ (wpList_run rfl rfl (wpList_nil (hK1 _ _ ?_)))
  rw [← HW0.out] at ho1
  obtain ⟨V, hV⟩ : ∃ V, V = be (bs.take 32) := ⟨_, rfl⟩
  rw [← hV] at g1
  have HV := Lib.hid hV
  have v0 : 0 ≤ V := by rw [hV]; exact (be_any (hd.take 32) (by simp <;> omega)).1
  have v1 : V < 2 ^ 256 := by rw [hV]; exact (be_any (hd.take 32) (by simp <;> omega)).2
  have hws := HWs.out
  have g0 : w1.heap[w.heap.size]? = some (.cells zero32 24 (0, 0)) := (ho1.block w.heap.size (by omega) (by omega)).trans HG.out
  refine tail_sound mixed (Γ := [e_number]) (fun e he => by simp only [List.mem_cons, List.not_mem_nil, or_false] at he; subst he; exact m_number) (t := t_fslice) (res := [.bool, .agg (List.replicate 32 (some .u8))]) (nds := []) (ps := [p_fslice]) (by kernel_rfl)
    (base := dig 26 10 V ++ [b01 (decide (fp ≤ be (bs.take 32)))]) (bs := [(w.heap.size, 0), (w.heap.size + 1, 0)]) (by simp [dig_length]; rfl) rfl (fun _ h => by cases h) rfl rfl ⟨rfl, rfl, ?_, trivial⟩ ?_ ?_ ?_
  · show some (Value.bool (decide (fp ≤ be (bs.take 32)))) = some (Value.bool (List.getD _ 10 0 != 0))
    rw [List.getD, List.getElem?_append_right (by simp [dig_length])]
    simp only [dig_length, b01]
    cases decide (fp ≤ be (bs.take 32)) <;> rfl
  · intro o so hso
    match o with
    | 0 =>
      obtain rfl := Option.some.inj hso
      exact ObjOk.whole (cs := zero32.toList) g0 rfl rfl rfl
    | 1 =>
      obtain rfl := Option.some.inj hso
      exact ObjOk.whole g1 rfl rfl (kcells_at .u32 _ (dig 26 10 V) [] _ _ 0 10 rfl rfl (dig_length 26 10 _))
    | o + 2 => cases hso
  · intro o o' so so' hoo h1 h2 h3
    match o, o' with
    | 0, 1 => exact .inl (by show w.heap.size ≠ w.heap.size + 1; omega)
    | 1, 0 => exact .inl (by show w.heap.size + 1 ≠ w.heap.size; omega)
    | 0, 0 => exact absurd rfl hoo
    | 1, 1 => exact absurd rfl hoo
    | o + 2, _ => cases h1
    | _, o' + 2 => cases h2
  · intro p hp _ w' hfr
    obtain rfl : p = p_fslice := by simpa using hp
    rw [out_fslice v0 v1, resV_bool_agg .u8 (by simp [dig_length])]
    refine ⟨?_, ?_⟩
    · rw [← HV.out, b01_bool]
    · have hs1 := ho1.size
      have h1 : Below w.heap.size w1 w' := hfr.below (by omega) fun k j hk ⟨o, so, hso, hw, hk', _⟩ => by
        match o with
        | 0 => have : w.heap.size = k := hk'; omega
        | 1 => have : w.heap.size + 1 = k := hk'; omega
        | o + 2 => cases hso
      exact (ho1.below hWb (Nat.le_refl _) (by omega)).trans h1

end Go.Proofs.Ytbffnmoklpapiaa.Sx
