/-
  impl.SignatureBytes. Conditions: none; each theorem bears its own.
-/
import Derived.Test.YtfeancgmmonebaaDoorMgt
import Derived.Test.YtfeancgmmonebaaDoorMgm
import Derived.Test.YtfeancgmmonebaaDoorMgr
import Derived.Test.YtfeancgmmonebaaDoorMgl
namespace Go.Proofs.YtfeancgmmonebaaDoor.Sx
open Go Go.Proofs Go.RowKit

set_option maxRecDepth 100000 in
/-- 32 bytes as a new scalar. -/
theorem c_iscalar {bs : List Int} (hl : bs.length = 32) (hd : Dg 8 bs) (w : World) :
    Calls Tryd.prog 24 #[.agg (bs.map (Value.int .u8)).toArray] w fun en w' =>
      (∃ g, en = .returned (.pointer (some ⟨g, 0, none⟩)) ∧ w.heap.size ≤ g ∧ w'.heap[g]? = some (.cells ((dig 32 8 (be bs % fn)).map (Value.int .u32)).toArray 64 (0, 0))) ∧ Below w.heap.size w w' := by
  obtain ⟨B, hB⟩ : ∃ B : Array Value, B = (bs.map (Value.int .u8)).toArray := ⟨_, rfl⟩
  rw [← hB]
  have HB := Lib.hid hB
  clear hB
  go_enter Tryd.func24, Tryd.ntmps24
  go_upto_region 2 with fail
  have hs : ((w.alloc (.cells B 33)).alloc (.cells zlit8 64)).heap.size = w.heap.size + 2 := by simp
  have hb : Below w.heap.size w ((w.alloc (.cells B 33)).alloc (.cells zlit8 64)) := ((Below.refl _ _).alloc (Nat.le_refl _) _).alloc (by simp) _
  have hg0 : ((w.alloc (.cells B 33)).alloc (.cells zlit8 64)).heap[w.heap.size]? = some (.cells B 33 (0, 0)) := (heap_alloc_old _ _ (by simp)).trans (heap_alloc_new w _)
  have hg1 : ((w.alloc (.cells B 33)).alloc (.cells zlit8 64)).heap[w.heap.size + 1]? = some (.cells zlit8 64 (0, 0)) := by
    have h := heap_alloc_new (w.alloc (.cells B 33)) (.cells zlit8 64)
    rwa [show (w.alloc (.cells B 33)).heap.size = w.heap.size + 1 by simp] at h
  generalize (w.alloc (.cells B 33)).alloc (.cells zlit8 64) = W1 at hs hb hg0 hg1 ⊢
  rw [HB.out] at hg0
  have hset := c_ssetb (g := w.heap.size + 1) (h := w.heap.size) (old := List.replicate 8 0) (by simp) (zeros_dg 32 8) hl hd hg1 hg0 (by omega)
  have HSet := Lib.hid hset
  have HB1 := Lib.hid hb
  have HS1 := Lib.hid hs
  clear hset hb hs hg0 hg1
  go_wp2_with (go_at_call 38; refine HSet.out.mono ?_; rintro e w2 ⟨rfl, hg2, ho2⟩)
  go_ret
  exact ⟨⟨_, rfl, by omega, hg2⟩, ho2.below HB1.out (Nat.le_refl _) (by omega)⟩

theorem range_keep {w w' : World} (hb : Below w.heap.size w w') {b o : Nat} {cs : List Value} (h : w.rangeAt b o cs) : w'.rangeAt b o cs := fun j v hv => cell_keep hb (h j v hv)

theorem range_of {w : World} {g : Nat} {T : TypeId} {cs : List Value} (h : w.heap[g]? = some (.cells cs.toArray T (0, 0))) : w.rangeAt g 0 cs := fun j v hv => by
  rw [Nat.zero_add]
  simp only [World.cell?, h]
  simpa using hv

set_option maxRecDepth 100000 in
/-- A signature's bytes, of its numbers. -/
theorem c_implBytes {b0 b1 : List Int} (hl0 : b0.length = 32) (hd0 : Dg 8 b0) (hl1 : b1.length = 32) (hd1 : Dg 8 b1) (hR : 0 < be b0 ∧ be b0 < fn) (hS : 0 < be b1 ∧ be b1 < fn) (w : World) :
    Calls Tryd.prog 10 #[.agg (b0.map (Value.int .u8)).toArray, .agg (b1.map (Value.int .u8)).toArray] w (SigOut w (be b0) (lowOf (be b1))) := by
  have hA : ∀ W, Calls Tryd.prog 24 #[.agg (b0.map (Value.int .u8)).toArray] W fun en w' =>
      (∃ g, en = .returned (.pointer (some ⟨g, 0, none⟩)) ∧ W.heap.size ≤ g ∧ w'.heap[g]? = some (.cells ((dig 32 8 (be b0)).map (Value.int .u32)).toArray 64 (0, 0))) ∧ Below W.heap.size W w' := fun W => by
    have := c_iscalar hl0 hd0 W
    rwa [Int.emod_eq_of_lt (Int.le_of_lt hR.1) hR.2] at this
  have hB : ∀ W, Calls Tryd.prog 24 #[.agg (b1.map (Value.int .u8)).toArray] W fun en w' =>
      (∃ g, en = .returned (.pointer (some ⟨g, 0, none⟩)) ∧ W.heap.size ≤ g ∧ w'.heap[g]? = some (.cells ((dig 32 8 (be b1)).map (Value.int .u32)).toArray 64 (0, 0))) ∧ Below W.heap.size W w' := fun W => by
    have := c_iscalar hl1 hd1 W
    rwa [Int.emod_eq_of_lt (Int.le_of_lt hS.1) hS.2] at this
  obtain ⟨L0, hL0⟩ : ∃ L : List Value, L = b0.map (Value.int .u8) := ⟨_, rfl⟩
  obtain ⟨L1, hL1⟩ : ∃ L : List Value, L = b1.map (Value.int .u8) := ⟨_, rfl⟩
  have one0 : ∀ v ∈ L0, v.oneCell' = true := by rw [hL0]; exact ints_one
  have one1 : ∀ v ∈ L1, v.oneCell' = true := by rw [hL1]; exact ints_one
  have len0 : L0.length = 32 := by rw [hL0]; simp [hl0]
  have len1 : L1.length = 32 := by rw [hL1]; simp [hl1]
  rw [← hL0] at hA ⊢
  rw [← hL1] at hB ⊢
  have hu : Tryd.prog.underlying 33 = some (.array 32 5) := by kernel_rfl
  have hi : (Tryd.prog.info? 33).map (·.size) = some 32 := by kernel_rfl
  have hi0 : (Tryd.prog.info? 33).map (·.size) = some L0.length := by rw [len0]; exact hi
  have hi1 : (Tryd.prog.info? 33).map (·.size) = some L1.length := by rw [len1]; exact hi
  have HA := Lib.hid hA
  have HB := Lib.hid hB
  have HbR := Lib.hid hR
  have HbS := Lib.hid hS
  clear hA hB hR hS hL0 hL1 hi
  go_enter Tryd.func10, Tryd.ntmps10
  go_upto_region 1 with fail
  have hs : ((w.alloc (.cells L0.toArray 33)).alloc (.cells L1.toArray 33)).heap.size = w.heap.size + 2 := by simp
  have hb : Below w.heap.size w ((w.alloc (.cells L0.toArray 33)).alloc (.cells L1.toArray 33)) := ((Below.refl _ _).alloc (Nat.le_refl _) _).alloc (by simp) _
  have hg0 : ((w.alloc (.cells L0.toArray 33)).alloc (.cells L1.toArray 33)).heap[w.heap.size]? = some (.cells L0.toArray 33 (0, 0)) := (heap_alloc_old _ _ (by simp)).trans (heap_alloc_new w _)
  have hg1 : ((w.alloc (.cells L0.toArray 33)).alloc (.cells L1.toArray 33)).heap[w.heap.size + 1]? = some (.cells L1.toArray 33 (0, 0)) := by
    have h := heap_alloc_new (w.alloc (.cells L0.toArray 33)) (.cells L1.toArray 33)
    rwa [show (w.alloc (.cells L0.toArray 33)).heap.size = w.heap.size + 1 by simp] at h
  generalize (w.alloc (.cells L0.toArray 33)).alloc (.cells L1.toArray 33) = W1 at hs hb hg0 hg1 ⊢
  have r0 : W1.rangeAt w.heap.size 0 L0 := range_of hg0
  have r1 : W1.rangeAt (w.heap.size + 1) 0 L1 := range_of hg1
  have HR0 := Lib.hid r0
  have HR1 := Lib.hid r1
  have HB1 := Lib.hid hb
  have HS1 := Lib.hid hs
  clear hb hs hg0 hg1
  refine wp_region_held_drew (S := fun w' => w'.rangeAt w.heap.size 0 L0 ∧ w'.rangeAt (w.heap.size + 1) 0 L1) (by kernel_rfl) ⟨HR0.out, HR1.out⟩ (fun hHeld => ?_)
  refine wpAnyH_take (i := 0) rfl (by kernel_rfl) (by kernel_rfl) (by kernel_rfl) (fun _ _ _ h => h) (yieldsIf_load_mid (by rfl) _ _ rfl _ _ rfl L0 _ (fun _ h => h.1) hu rfl hi0) hHeld ?_
  refine wpAnyH_take (i := 2) rfl (by kernel_rfl) (by kernel_rfl) (by kernel_rfl) (fun _ _ _ h => h) (yieldsIf_load_mid (by rfl) _ _ rfl _ _ rfl L1 _ (fun _ h => h.2) hu rfl hi1) hHeld ?_
  simp only [Act.put, List.setIfInBounds_toArray]
  refine wpAnyH_ready (rs := [1]) (by kernel_rfl) (by simp) ?_
  refine AllReadyH.cons rfl (fun K hK => ?_) AllReadyH.nil
  rw [if_pos (by rfl)]
  go_simp
  (with_reducible refine (HA.out _).mono ?_)
  rintro e w2 ⟨⟨ga, rfl, hga, hha⟩, hb2⟩
  have r2 : w2.rangeAt w.heap.size 0 L0 := range_keep (w := W1.drew) hb2 HR0.out
  have s2 : w2.rangeAt (w.heap.size + 1) 0 L1 := range_keep (w := W1.drew) hb2 HR1.out
  have HB2 : Hid (Below W1.heap.size W1 w2) := (Below.refl _ _).drew.trans hb2
  have HGa := Lib.hid hha
  have HLa := Lib.hid hga
  clear hb2 hha hga
  refine hK.out _ _ ⟨r2, s2⟩ (fun hHeld => ?_)
  clear hK K
  refine wpAnyH_ready (rs := [3]) (by kernel_rfl) (by simp) ?_
  refine AllReadyH.cons rfl (fun K hK => ?_) AllReadyH.nil
  rw [if_pos (by rfl)]
  go_simp
  (with_reducible refine (HB.out _).mono ?_)
  rintro e w3 ⟨⟨gb, rfl, hgb, hhb⟩, hb3⟩
  have r3 : w3.rangeAt w.heap.size 0 L0 := range_keep hb3 r2
  have s3 : w3.rangeAt (w.heap.size + 1) 0 L1 := range_keep hb3 s2
  have hga2 : ga < w2.heap.size := (Array.getElem?_eq_some_iff.1 HGa.out).1
  have hha3 := (hb3.block ga hga2).trans HGa.out
  have HB3 : Hid (Below W1.heap.size W1 w3) := HB2.out.trans (hb3.mono HB2.out.size)
  have HSg := Lib.hid (c_newsig hha3 hhb (by omega))
  clear hb3 hhb hha3
  refine hK.out _ _ ⟨r3, s3⟩ (fun hHeld => ?_)
  clear hK K
  refine wpAnyH_ready (rs := [4]) (by kernel_rfl) (by simp) ?_
  refine AllReadyH.cons rfl (fun K hK => ?_) AllReadyH.nil
  rw [if_pos (by rfl)]
  go_simp
  refine HSg.out.mono ?_
  rintro e w4 ⟨⟨b, o, rfl, hbl, hcells⟩, hb4⟩
  have r4 : w4.rangeAt w.heap.size 0 L0 := range_keep hb4 r3
  have s4 : w4.rangeAt (w.heap.size + 1) 0 L1 := range_keep hb4 s3
  have hbs : b < w4.heap.size := by
    obtain ⟨x, hx⟩ : ∃ x, ((dig 32 8 (be b0) ++ dig 32 8 (be b1)).map (Value.int .u32))[0]? = some x := by
      rw [List.getElem?_map]
      obtain ⟨d, hd⟩ : ∃ d, (dig 32 8 (be b0) ++ dig 32 8 (be b1))[0]? = some d := ⟨_, List.getElem?_eq_getElem (by simp [dig_length])⟩
      exact ⟨_, by rw [hd]; rfl⟩
    exact World.block_lt_of_cell? _ _ (hcells 0 x hx)
  have HB4 : Hid (Below W1.heap.size W1 w4) := HB3.out.trans (hb4.mono HB3.out.size)
  have HSer := Lib.hid (c_serialize HbR.out HbS.out hbs hcells)
  clear hb4 hcells
  refine hK.out _ _ ⟨r4, s4⟩ (fun hHeld => ?_)
  clear hK K
  refine wpAnyH_ready (rs := [5]) (by kernel_rfl) (by simp) ?_
  refine AllReadyH.cons rfl (fun K hK => ?_) AllReadyH.nil
  rw [if_pos (by rfl)]
  go_simp
  refine HSer.out.mono ?_
  rintro e w5 ⟨c, d, hc, hd, ⟨v, rfl, hov⟩, hb5⟩
  have r5 : w5.rangeAt w.heap.size 0 L0 := range_keep hb5 r4
  have s5 : w5.rangeAt (w.heap.size + 1) 0 L1 := range_keep hb5 s4
  have HCc := Lib.hid hc
  have HCd := Lib.hid hd
  have HOv := Lib.hid hov
  have HB5 : Hid (Below W1.heap.size W1 w5) := HB4.out.trans (hb5.mono HB4.out.size)
  clear hb5 hov hc hd
  refine hK.out _ _ ⟨r5, s5⟩ (fun hHeld => ?_)
  clear hK K
  refine wpAnyH_ready (rs := [6]) (by kernel_rfl) (by simp) ?_
  refine AllReadyH.cons rfl (fun K hK => ?_) AllReadyH.nil
  rw [if_pos (by rfl)]
  go_simp
  refine hK.out _ _ ⟨r5, s5⟩ (fun hHeld => ?_)
  clear hK K
  refine wpAnyH_done (by kernel_rfl) ?_ _
  go_wp2_with fail
  go_ret
  exact ⟨c, d, HCc.out, HCd.out, ⟨v, rfl, owns_mono HOv.out (Nat.le_trans HB1.out.size HB4.out.size)⟩, HB1.out.trans (HB5.out.mono HB1.out.size)⟩

end Go.Proofs.YtfeancgmmonebaaDoor.Sx

/-
  Bytes of any length as a scalar, as a field element: the thin package's functions. Conditions: none; each theorem bears its own.
-/
namespace Go.Proofs.YtfeancgmmonebaaDoor.Sx
open Go Go.Proofs Go.RowKit

theorem resV_bool_agg (k : IntKind) {b : Int} {xs : List Int} {m : Nat} (h : xs.length = m) : resV [.bool, .agg (List.replicate m (some k))] (b :: xs) = .tuple #[.bool (b != 0), .agg (xs.map (Value.int k)).toArray] := by
  have h1 := kcells_at k [] xs [b] [] (b :: xs) 1 m (by simp) rfl h
  show Value.tuple (List.map (S1.den ⟨b :: xs, []⟩) [.sc (.bool (.var 0)), .agg (kcells 1 (List.replicate m (some k)))]).toArray = _
  simp only [List.map, S1.den, h1]
  rfl

def zero32 : Array Value := (List.replicate 32 (Value.int .u8 0)).toArray

/-! ## Scalars -/

def t_sslice : Tail := { n := 9, nt := 10, slots := [(3, .one (.sc (.ptr 0 0))), (4, .one (.sc (.ptr 1 0))), (5, .one (.sc (.bool (.var 8))))], mem := [⟨List.replicate 32 (.int .u8 (.lit 0)), true⟩, ⟨kcells 0 (List.replicate 8 (some .u32)), false⟩] }
def p_sslice : Path := ⟨[.app 0 (vars 0 8) 32], [], .var 8 :: vars 9 32⟩

theorem out_sslice {V b : Int} (v0 : 0 ≤ V) (v1 : V < 2 ^ 256) : p_sslice.outs.map (·.val (runR [e_sbytes] p_sslice.defs (dig 32 8 V ++ [b]))) = b :: (dig 8 32 V).reverse := by
  show (SI.var 8 :: vars 9 32).map (·.val ((dig 32 8 V ++ [b]) ++ fit 32 (e_sbytes.F ((vars 0 8).map (·.val (dig 32 8 V ++ [b])))))) = _
  have h0 : (vars 0 8).map (·.val (dig 32 8 V ++ [b])) = dig 32 8 V := vars_base0 [e_sbytes] [] (dig_length 32 8 V)
  rw [h0, sbytes_spec v0 v1, fit_eq (by simp [dig_length])]
  have h1 := vars_last [e_sbytes] [] (a := dig 32 8 V ++ [b]) (l := (dig 8 32 V).reverse) (i := 9) (n := 32) (by simp [dig_length]) (by simp [dig_length])
  rw [List.map_cons]
  exact List.cons_eq_cons.2 ⟨rfl, h1⟩

theorem mod_lo {V p : Int} (hp : 0 < p) : 0 ≤ V % p := Int.emod_nonneg _ (by omega)

/-! ## Field elements -/

def t_fslice : Tail := { n := 11, nt := 10, slots := [(3, .one (.sc (.ptr 0 0))), (4, .one (.sc (.ptr 1 0))), (5, .one (.sc (.bool (.var 10))))], mem := [⟨List.replicate 32 (.int .u8 (.lit 0)), true⟩, ⟨kcells 0 (List.replicate 10 (some .u32)), true⟩] }
def p_fslice : Path := ⟨[.app 0 (vars 0 10) 42], [], .var 10 :: vars 21 32⟩

end Go.Proofs.YtfeancgmmonebaaDoor.Sx

/-
  impl.ReadSignature. Conditions: none; each theorem bears its own.
-/
namespace Go.Proofs.YtfeancgmmonebaaDoor.Sx
open Go Go.Proofs Go.RowKit

def ImplSig (w : World) (bs : List Int) (e : Ending) (w' : World) : Prop :=
  ((SigOk bs ∧ e = .returned (.tuple #[.agg ((byt (sigR bs)).map (Value.int .u8)).toArray, .agg ((byt (sigS bs)).map (Value.int .u8)).toArray, .int .i64 0])) ∨
    (¬ SigOk bs ∧ e = .returned (.tuple #[.agg zero32, .agg zero32, .int .i64 1]))) ∧ Below w.heap.size w w'

def t_rsbad : Tail := { n := 0, nt := 23, slots := [(2, .one (.sc (.ptr 0 0))), (3, .one (.sc (.ptr 1 0)))], mem := [⟨List.replicate 32 (.int .u8 (.lit 0)), true⟩, ⟨List.replicate 32 (.int .u8 (.lit 0)), true⟩] }
def p_rsbad : Path := ⟨[], [], List.replicate 64 (.lit 0) ++ [.lit 1]⟩

def t_rsok : Tail := { n := 64, nt := 23, slots := [(2, .one (.sc (.ptr 0 0))), (3, .one (.sc (.ptr 1 0))), (18, .tup [.agg (kcells 0 (List.replicate 32 (some .u8))), .agg (kcells 32 (List.replicate 32 (some .u8)))])], mem := [⟨List.replicate 32 (.int .u8 (.lit 0)), true⟩, ⟨List.replicate 32 (.int .u8 (.lit 0)), true⟩] }
def p_rsok : Path := ⟨[], [], vars 0 64 ++ [.lit 0]⟩

theorem resV_two {x y : List Int} {z : Int} (hx : x.length = 32) (hy : y.length = 32) :
    resV [.agg (List.replicate 32 (some .u8)), .agg (List.replicate 32 (some .u8)), .int .i64] ((x ++ y) ++ [z]) = .tuple #[.agg (x.map (Value.int .u8)).toArray, .agg (y.map (Value.int .u8)).toArray, .int .i64 z] := by
  have h1 := kcells_at .u8 [] x [] (y ++ [z]) ((x ++ y) ++ [z]) 0 32 (by simp) rfl hx
  have h2 := kcells_at .u8 [] y x [z] ((x ++ y) ++ [z]) 32 32 (by simp) hx hy
  show Value.tuple (List.map (S1.den ⟨(x ++ y) ++ [z], []⟩) [.agg (kcells 0 (List.replicate 32 (some .u8))), .agg (kcells 32 (List.replicate 32 (some .u8))), .sc (.int .i64 (.var 64))]).toArray = _
  simp only [List.map, S1.den, h1, h2]
  show Value.tuple #[_, _, .int .i64 (List.getD ((x ++ y) ++ [z]) 64 0)] = _
  rw [List.getD, List.getElem?_append_right (by simp [hx, hy])]
  simp [hx, hy]

set_option maxRecDepth 100000 in
theorem impl_readsig (n c : Nat) (bs : List Int) (A : Option Addr) (w : World) (hn : n < 2147483648) (hc : n ≤ c) (hr : Reads w w.heap.size A n (bs.map (Value.int .u8))) (hd : Dg 8 bs) :
    Calls Tryd.prog 8 #[.slice A n c] w (ImplSig w bs) := by
  obtain ⟨W0, hW0⟩ : ∃ W0, W0 = (w.alloc (.cells zero32 33)).alloc (.cells zero32 33) := ⟨_, rfl⟩
  have hWs : W0.heap.size = w.heap.size + 2 := by rw [hW0]; simp
  have hWb : Below w.heap.size w W0 := by rw [hW0]; exact ((Below.refl _ _).alloc (Nat.le_refl _) _).alloc (by simp) _
  have hg0 : W0.heap[w.heap.size]? = some (.cells zero32 33 (0, 0)) := by
    rw [hW0]
    exact (heap_alloc_old _ _ (by simp)).trans (heap_alloc_new w _)
  have hg1 : W0.heap[w.heap.size + 1]? = some (.cells zero32 33 (0, 0)) := by
    have h := heap_alloc_new (w.alloc (.cells zero32 33)) (.cells zero32 33)
    rw [show (w.alloc (.cells zero32 33)).heap.size = w.heap.size + 1 by simp] at h
    rw [hW0]
    exact h
  have hP := parse_der n c bs A W0 hn hc ((hr.below hWb).more (by omega)) hd
  have HW0 := Lib.hid hW0
  have HWs := Lib.hid hWs
  have HWb := Lib.hid hWb
  have HG0 := Lib.hid hg0
  have HG1 := Lib.hid hg1
  clear hW0 hWs hWb hg0 hg1 hr
  by_cases hok : SigOk bs
  case neg =>
    have hP1 := hP.mono (R' := fun e w' => (∃ t x, e = .returned (.tuple #[.pointer none, .iface t x])) ∧ Below W0.heap.size W0 w') fun e w' h => ⟨h.1.elim (fun q => absurd q.1 hok) (fun q => q.2), h.2⟩
    have HP := Lib.hid hP1
    have HN := Lib.hid hok
    clear hP hP1 hok
    go_enter Tryd.func8, Tryd.ntmps8
    go_upto_region 3 with (go_at_call 21; refine Calls.mono (by have := HW0.out; subst this; exact HP.out) ?_; rintro e w1 ⟨⟨t, x, rfl⟩, hb1⟩)
    rw [← HW0.out] at hb1
    rename_i K1 hK1 K hK
    have hws := HWs.out
    have g0 : w1.heap[w.heap.size]? = some (.cells zero32 33 (0, 0)) := (hb1.block _ (by omega)).trans HG0.out
    have g1 : w1.heap[w.heap.size + 1]? = some (.cells zero32 33 (0, 0)) := (hb1.block _ (by omega)).trans HG1.out
    refine tail_seq mixed (Γ := []) (fun e he => by cases he) (t := t_rsbad) (res := [.agg (List.replicate 32 (some .u8)), .agg (List.replicate 32 (some .u8)), .int .i64]) (nds := []) (ps := [p_rsbad]) (by kernel_rfl)
      (base := []) (bs := [(w.heap.size, 0), (w.heap.size + 1, 0)]) rfl rfl (fun _ h => by cases h) rfl rfl ⟨rfl, rfl, trivial⟩ ?_ ?_ hK (fun a w h => h) ?_
    · intro o so hso
      match o with
      | 0 =>
        obtain rfl := Option.some.inj hso
        exact ObjOk.whole (cs := zero32.toList) g0 rfl rfl rfl
      | 1 =>
        obtain rfl := Option.some.inj hso
        exact ObjOk.whole (cs := zero32.toList) g1 rfl rfl rfl
      | o + 2 => cases hso
    · intro o o' so so' hoo h1 h2 h3
      match o, o' with
      | 0, 1 => exact .inl (by show w.heap.size ≠ w.heap.size + 1; omega)
      | 1, 0 => exact .inl (by show w.heap.size + 1 ≠ w.heap.size; omega)
      | 0, 0 => exact absurd rfl hoo
      | 1, 1 => exact absurd rfl hoo
      | o + 2, _ => cases h1
      | _, o' + 2 => cases h2
    · intro p hp _ w' hfr
      obtain rfl : p = p_rsbad := by simpa using hp
      refine ⟨.inr ⟨HN.out, rfl⟩, ?_⟩
      have h1 : Below w.heap.size w1 w' := hfr.below (by have := hb1.size; omega) fun k j hk ⟨o, so, hso, hw, hk', _⟩ => by
        match o with
        | 0 => have : w.heap.size = k := hk'; omega
        | 1 => have : w.heap.size + 1 = k := hk'; omega
        | o + 2 => cases hso
      exact (HWb.out.trans (hb1.mono (by omega))).trans h1
  case pos =>
    have rb : 0 ≤ sigR bs ∧ sigR bs < 2 ^ 256 := ⟨Int.le_of_lt hok.rR.1, Int.lt_trans hok.rR.2 fn_lt⟩
    have sb : 0 ≤ sigS bs ∧ sigS bs < 2 ^ 256 := ⟨Int.le_of_lt hok.rS.1, Int.lt_trans hok.rS.2 fn_lt⟩
    have hP1 := hP.mono (R' := fun e w' => (∃ b o, e = .returned (.tuple #[.pointer (some ⟨b, o, none⟩), .nilIface]) ∧ W0.heap.size ≤ b ∧ ∀ (j : Nat) v, ((dig 32 8 (sigR bs) ++ dig 32 8 (sigS bs)).map (Value.int .u32))[j]? = some v → w'.cell? ⟨b, o + j, none⟩ = some v) ∧ Below W0.heap.size W0 w') fun e w' h => ⟨h.1.elim (fun q => q.2) (fun q => absurd hok q.1), h.2⟩
    have HP := Lib.hid hP1
    have HN := Lib.hid hok
    have HRb := Lib.hid rb
    have HSb := Lib.hid sb
    clear hP hP1 hok rb sb
    go_enter Tryd.func8, Tryd.ntmps8
    go_wp2_with (first
      | (go_at_call 21; refine Calls.mono (by have := HW0.out; subst this; exact HP.out) ?_; rintro e w1 ⟨⟨b, o, rfl, hbl, hcells⟩, hb1⟩
         have HCl := Lib.hid hcells
         clear hcells)
      | (go_at_call 22; refine (c_numbers HRb.out.1 HRb.out.2 HSb.out.1 HSb.out.2 HCl.out).mono ?_; rintro e w2 ⟨rfl, hb2⟩; refine Halt.of ?_))
    rename_i K1 hK1 K hK
    show K _ _
    refine hK _ _ ?_
    rw [← HW0.out] at hb1 hbl
    have hws := HWs.out
    have hz1 := hb1.size
    have g0 : w2.heap[w.heap.size]? = some (.cells zero32 33 (0, 0)) := (hb2.block _ (by omega)).trans ((hb1.block _ (by omega)).trans HG0.out)
    have g1 : w2.heap[w.heap.size + 1]? = some (.cells zero32 33 (0, 0)) := (hb2.block _ (by omega)).trans ((hb1.block _ (by omega)).trans HG1.out)
    have hl : (byt (sigR bs) ++ byt (sigS bs)).length = 64 := by simp [byt_length]
    have ht := agg_tup [(w.heap.size, 0), (w.heap.size + 1, 0)] (x := byt (sigR bs)) (y := byt (sigS bs)) (E := byt (sigR bs) ++ byt (sigS bs)) (pre := []) (n := 0) rfl rfl (byt_length _) (byt_length _)
    refine tail_list mixed (Γ := []) (fun e he => by cases he) (t := t_rsok) (res := [.agg (List.replicate 32 (some .u8)), .agg (List.replicate 32 (some .u8)), .int .i64]) (nds := []) (ps := [p_rsok]) (by kernel_rfl)
      (base := byt (sigR bs) ++ byt (sigS bs)) (bs := [(w.heap.size, 0), (w.heap.size + 1, 0)]) hl rfl (fun _ h => by cases h) rfl rfl ⟨rfl, rfl, (by exact congrArg some ht.symm), trivial⟩ ?_ ?_ hK1 ?_
    · intro o so hso
      match o with
      | 0 =>
        obtain rfl := Option.some.inj hso
        exact ObjOk.whole (cs := zero32.toList) g0 rfl rfl rfl
      | 1 =>
        obtain rfl := Option.some.inj hso
        exact ObjOk.whole (cs := zero32.toList) g1 rfl rfl rfl
      | o + 2 => cases hso
    · intro o o' so so' hoo h1 h2 h3
      match o, o' with
      | 0, 1 => exact .inl (by show w.heap.size ≠ w.heap.size + 1; omega)
      | 1, 0 => exact .inl (by show w.heap.size + 1 ≠ w.heap.size; omega)
      | 0, 0 => exact absurd rfl hoo
      | 1, 1 => exact absurd rfl hoo
      | o + 2, _ => cases h1
      | _, o' + 2 => cases h2
    · intro p hp _ w' hfr
      obtain rfl : p = p_rsok := by simpa using hp
      refine ⟨.inl ⟨HN.out, ?_⟩, ?_⟩
      · have ho : p_rsok.outs.map (·.val (runR [] p_rsok.defs (byt (sigR bs) ++ byt (sigS bs)))) = (byt (sigR bs) ++ byt (sigS bs)) ++ [0] := by
          show (vars 0 64 ++ [SI.lit 0]).map (·.val (byt (sigR bs) ++ byt (sigS bs))) = _
          rw [List.map_append, vars_at (E := byt (sigR bs) ++ byt (sigS bs)) (i := 0) (A := []) (l := byt (sigR bs) ++ byt (sigS bs)) (B := []) (by simp) rfl hl]
          rfl
        rw [ho]
        exact congrArg Ending.returned (resV_two (byt_length _) (byt_length _))
      · have h1 : Below w.heap.size w2 w' := hfr.below (by have := hb2.size; omega) fun k j hk ⟨o, so, hso, hw, hk', _⟩ => by
          match o with
          | 0 => have : w.heap.size = k := hk'; omega
          | 1 => have : w.heap.size + 1 = k := hk'; omega
          | o + 2 => cases hso
        exact (HWb.out.trans ((hb1.trans (hb2.mono hz1)).mono (by omega))).trans h1

end Go.Proofs.YtfeancgmmonebaaDoor.Sx

/-
  FnReadSignature: what its function gives. Conditions: none; each theorem bears its own.
-/
namespace Go.Proofs.YtfeancgmmonebaaDoor.Sx
open Go Go.Proofs Go.RowKit

def twS : List SI → List SI → List SI
  | x :: l, y :: r => x :: y :: twS l r
  | _, _ => []

theorem twS_val (E : List Int) : ∀ l r : List SI, (twS l r).map (·.val E) = twine (l.map (·.val E)) (r.map (·.val E))
  | x :: l, y :: r => by simp [twS, twine, twS_val E l r]
  | [], _ => by simp [twS, twine]
  | _ :: _, [] => by simp [twS, twine]

def q_rs0 : Path := ⟨[.pr (.eqs (List.replicate 32 false)) (twS (vars 40 32) (vars 105 32)), .app 0 (vars 4 4) 32, .pr (.eqs (List.replicate 32 false)) (twS (vars 8 32) (vars 72 32)), .app 0 (vars 0 4) 32], [(.var 104, true)], [.var 137]⟩
def q_rs1 : Path := ⟨[.pr (.eqs (List.replicate 32 false)) (twS (vars 8 32) (vars 72 32)), .app 0 (vars 0 4) 32], [(.var 104, false)], [.lit 0]⟩

def rsBase (R S : Int) : List Int := (dig 64 4 R ++ dig 64 4 S) ++ (byt R ++ byt S)
theorem rsBase_length (R S : Int) : (rsBase R S).length = 72 := by simp [rsBase, dig_length, byt_length]

theorem c_readSig (n c : Nat) (bs : List Int) (A : Option Addr) (w : World) (hn : n < 2147483648) (hc : n ≤ c) (hr : Reads w w.heap.size A n (bs.map (Value.int .u8))) (hd : Dg 8 bs) :
    Calls Tryd.prog 5 #[.slice A n c] w (SigRes w bs) := by
  have hl : bs.length = n := by have h : (bs.map (Value.int .u8)).length = n := hr.1; simpa using h
  by_cases h : n < 8 ∨ 72 < n
  · exact readSig_len n c bs A w (by omega) hl
  · obtain ⟨ad, rfl, _, _⟩ := hr.2 (by omega)
    exact readSig_fit n c bs ad w (by omega) (by omega) hc hr hd

end Go.Proofs.YtfeancgmmonebaaDoor.Sx

/-
  The statement FnSignatureBytes: what its last region reckons. Conditions: none; each theorem bears its own.
-/
namespace Go.Proofs.YtfeancgmmonebaaDoor.Sx
open Go Go.Proofs Go.RowKit

theorem allEq_twine_iff : ∀ {n : Nat} {l r : List Int}, l.length = n → r.length = n → allEq (List.replicate n false) (twine l r) = decide (l = r)
  | 0, [], [], _, _ => rfl
  | n + 1, x :: l, y :: r, h, h' => by
    simp only [List.replicate_succ, twine, allEq, Bool.false_eq_true, if_false]
    rw [allEq_twine_iff (by simpa using h) (by simpa using h')]
    by_cases hxy : x = y
    · subst hxy
      simp
    · simp [hxy]

theorem byt_of_be {l : List Int} (hl : l.length = 32) (hd : Dg 8 l) : byt (be l) = l := by
  have := be_dig hd
  rw [hl] at this
  exact this.symm

theorem lowOf_low (S : Int) : lowOf S ≤ fn / 2 := by
  unfold lowOf
  have : fn = 2 * (fn / 2) + 1 := by decide
  split <;> omega

theorem lowOf_eq (S : Int) : decide (lowOf S = S) = decide (S ≤ fn / 2) := by
  unfold lowOf
  have : fn = 2 * (fn / 2) + 1 := by decide
  apply decide_eq_decide.2
  split <;> omega

def q_sb0 : Path := ⟨[.pr .beq [.var 142, .var 143], .app 1 (vars 68 4) 1, .pr (.eqs (List.replicate 32 false)) (twS (vars 104 32) (vars 32 32)), .app 1 (vars 137 4) 1, .app 0 (vars 104 32) 4, .pr (.eqs (List.replicate 32 false)) (twS (vars 72 32) (vars 0 32))], [(.var 141, true), (.var 136, true)], [.var 144]⟩
def q_sb1 : Path := ⟨[.app 1 (vars 137 4) 1, .app 0 (vars 104 32) 4, .pr (.eqs (List.replicate 32 false)) (twS (vars 72 32) (vars 0 32))], [(.var 141, false), (.var 136, true)], [.lit 0]⟩
def q_sb2 : Path := ⟨[.pr (.eqs (List.replicate 32 false)) (twS (vars 72 32) (vars 0 32))], [(.var 136, false)], [.lit 0]⟩

def sbBase (b0 b1 : List Int) : List Int := b0 ++ b1 ++ (dig 64 4 (be b0) ++ dig 64 4 (be b1)) ++ (byt (be b0) ++ byt (lowOf (be b1)))

section
variable {b0 b1 : List Int}

theorem sbBase_length (hl0 : b0.length = 32) (hl1 : b1.length = 32) : (sbBase b0 b1).length = 136 := by simp [sbBase, hl0, hl1, dig_length, byt_length]

abbrev G_sb : List Entry := [e_uof, e_low]

theorem sb2 (hl0 : b0.length = 32) (hd0 : Dg 8 b0) (hl1 : b1.length = 32) : runR G_sb q_sb2.defs (sbBase b0 b1) = sbBase b0 b1 ++ [1] := by
  show sbBase b0 b1 ++ [if allEq (List.replicate 32 false) ((twS (vars 72 32) (vars 0 32)).map (·.val (sbBase b0 b1))) then 1 else 0] = _
  rw [twS_val, vars_at (E := sbBase b0 b1) (i := 72) (A := b0 ++ b1 ++ (dig 64 4 (be b0) ++ dig 64 4 (be b1))) (l := byt (be b0)) (B := byt (lowOf (be b1))) rfl (by simp [hl0, hl1, dig_length]) (byt_length _),
    vars_at (E := sbBase b0 b1) (i := 0) (A := []) (l := b0) (B := b1 ++ (dig 64 4 (be b0) ++ dig 64 4 (be b1)) ++ (byt (be b0) ++ byt (lowOf (be b1)))) (by simp [sbBase]) rfl hl0, byt_of_be hl0 hd0, if_pos (allEq_twine hl0)]

theorem sb1 (hl0 : b0.length = 32) (hd0 : Dg 8 b0) (hl1 : b1.length = 32) (hS : 0 < be b1 ∧ be b1 < fn) : runR G_sb q_sb1.defs (sbBase b0 b1) = (sbBase b0 b1 ++ [1]) ++ dig 64 4 (lowOf (be b1)) ++ [1] := by
  have hr := lowOf_range hS
  have fl := fn_lt
  have t1 : runR G_sb (.app 0 (vars 104 32) 4 :: q_sb2.defs) (sbBase b0 b1) = (sbBase b0 b1 ++ [1]) ++ dig 64 4 (lowOf (be b1)) := by
    show runR G_sb q_sb2.defs (sbBase b0 b1) ++ fit 4 (e_uof.F ((vars 104 32).map (·.val (runR G_sb q_sb2.defs (sbBase b0 b1))))) = _
    rw [sb2 hl0 hd0 hl1, vars_at (E := sbBase b0 b1 ++ [1]) (i := 104) (A := b0 ++ b1 ++ (dig 64 4 (be b0) ++ dig 64 4 (be b1)) ++ byt (be b0)) (l := byt (lowOf (be b1))) (B := [1]) (by simp [sbBase]) (by simp [hl0, hl1, dig_length, byt_length]) (byt_length _),
      uof_spec (byt_length _) (byt_dg _), byt_be (by omega) (by omega)]
    exact congrArg _ (fit_eq (dig_length 64 4 _))
  show runR G_sb (.app 0 (vars 104 32) 4 :: q_sb2.defs) (sbBase b0 b1) ++ fit 1 (e_low.F ((vars 137 4).map (·.val (runR G_sb (.app 0 (vars 104 32) 4 :: q_sb2.defs) (sbBase b0 b1))))) = _
  rw [t1, vars_at (E := (sbBase b0 b1 ++ [1]) ++ dig 64 4 (lowOf (be b1))) (i := 137) (A := sbBase b0 b1 ++ [1]) (l := dig 64 4 (lowOf (be b1))) (B := []) (by simp) (by simp [sbBase_length hl0 hl1]) (dig_length 64 4 _), low_spec (by omega) (by omega), decide_eq_true (lowOf_low _)]
  rfl

theorem sb0 (hl0 : b0.length = 32) (hd0 : Dg 8 b0) (hl1 : b1.length = 32) (hd1 : Dg 8 b1) (hS : 0 < be b1 ∧ be b1 < fn) :
    runR G_sb q_sb0.defs (sbBase b0 b1) = (((sbBase b0 b1 ++ [1]) ++ dig 64 4 (lowOf (be b1)) ++ [1]) ++ [b01 (decide (be b1 ≤ fn / 2))] ++ [b01 (decide (be b1 ≤ fn / 2))]) ++ [1] := by
  have hr := lowOf_range hS
  have fl := fn_lt
  obtain ⟨E1, hE1⟩ : ∃ E, E = (sbBase b0 b1 ++ [1]) ++ dig 64 4 (lowOf (be b1)) ++ [1] := ⟨_, rfl⟩
  have h1 := sb1 hl0 hd0 hl1 hS
  rw [← hE1] at h1 ⊢
  have hl : E1.length = 142 := by rw [hE1]; simp [sbBase_length hl0 hl1, dig_length]
  have t2 : runR G_sb (.pr (.eqs (List.replicate 32 false)) (twS (vars 104 32) (vars 32 32)) :: q_sb1.defs) (sbBase b0 b1) = E1 ++ [b01 (decide (be b1 ≤ fn / 2))] := by
    show runR G_sb q_sb1.defs (sbBase b0 b1) ++ [if allEq (List.replicate 32 false) ((twS (vars 104 32) (vars 32 32)).map (·.val (runR G_sb q_sb1.defs (sbBase b0 b1)))) then 1 else 0] = _
    rw [h1, twS_val, vars_at (E := E1) (i := 104) (A := b0 ++ b1 ++ (dig 64 4 (be b0) ++ dig 64 4 (be b1)) ++ byt (be b0)) (l := byt (lowOf (be b1))) (B := [1] ++ dig 64 4 (lowOf (be b1)) ++ [1]) (by rw [hE1]; simp [sbBase]) (by simp [hl0, hl1, dig_length, byt_length]) (byt_length _),
      vars_at (E := E1) (i := 32) (A := b0) (l := b1) (B := (dig 64 4 (be b0) ++ dig 64 4 (be b1)) ++ (byt (be b0) ++ byt (lowOf (be b1))) ++ [1] ++ dig 64 4 (lowOf (be b1)) ++ [1]) (by rw [hE1]; simp [sbBase]) hl0 hl1,
      allEq_twine_iff (byt_length _) hl1]
    have : decide (byt (lowOf (be b1)) = b1) = decide (be b1 ≤ fn / 2) := by
      rw [← lowOf_eq]
      apply decide_eq_decide.2
      constructor
      · intro h
        have := congrArg be h
        rwa [byt_be (by omega) (by omega)] at this
      · intro h
        rw [h, byt_of_be hl1 hd1]
    rw [this]
    rfl
  have t3 : runR G_sb (.app 1 (vars 68 4) 1 :: .pr (.eqs (List.replicate 32 false)) (twS (vars 104 32) (vars 32 32)) :: q_sb1.defs) (sbBase b0 b1) = E1 ++ [b01 (decide (be b1 ≤ fn / 2))] ++ [b01 (decide (be b1 ≤ fn / 2))] := by
    show runR G_sb (.pr (.eqs (List.replicate 32 false)) (twS (vars 104 32) (vars 32 32)) :: q_sb1.defs) (sbBase b0 b1) ++ fit 1 (e_low.F ((vars 68 4).map (·.val (runR G_sb (.pr (.eqs (List.replicate 32 false)) (twS (vars 104 32) (vars 32 32)) :: q_sb1.defs) (sbBase b0 b1))))) = _
    rw [t2, vars_at (E := E1 ++ [b01 (decide (be b1 ≤ fn / 2))]) (i := 68) (A := b0 ++ b1 ++ dig 64 4 (be b0)) (l := dig 64 4 (be b1)) (B := (byt (be b0) ++ byt (lowOf (be b1))) ++ [1] ++ dig 64 4 (lowOf (be b1)) ++ [1] ++ [b01 (decide (be b1 ≤ fn / 2))]) (by rw [hE1]; simp [sbBase]) (by simp [hl0, hl1, dig_length]) (dig_length 64 4 _), low_spec (by omega) (by omega)]
    rfl
  show runR G_sb (.app 1 (vars 68 4) 1 :: .pr (.eqs (List.replicate 32 false)) (twS (vars 104 32) (vars 32 32)) :: q_sb1.defs) (sbBase b0 b1) ++ [if (((SI.var 142).val (runR G_sb (.app 1 (vars 68 4) 1 :: .pr (.eqs (List.replicate 32 false)) (twS (vars 104 32) (vars 32 32)) :: q_sb1.defs) (sbBase b0 b1)) != 0) == ((SI.var 143).val (runR G_sb (.app 1 (vars 68 4) 1 :: .pr (.eqs (List.replicate 32 false)) (twS (vars 104 32) (vars 32 32)) :: q_sb1.defs) (sbBase b0 b1)) != 0)) = true then 1 else 0] = _
  rw [t3]
  have v2 : (SI.var 142).val (E1 ++ [b01 (decide (be b1 ≤ fn / 2))] ++ [b01 (decide (be b1 ≤ fn / 2))]) = b01 (decide (be b1 ≤ fn / 2)) := by
    show List.getD _ 142 0 = _
    rw [List.append_assoc, List.getD, List.getElem?_append_right (by omega), hl]
    rfl
  have v3 : (SI.var 143).val (E1 ++ [b01 (decide (be b1 ≤ fn / 2))] ++ [b01 (decide (be b1 ≤ fn / 2))]) = b01 (decide (be b1 ≤ fn / 2)) := by
    show List.getD _ 143 0 = _
    rw [List.append_assoc, List.getD, List.getElem?_append_right (by omega), hl]
    rfl
  rw [v2, v3, beq_self_eq_true, if_pos rfl]

theorem sb_true (hl0 : b0.length = 32) (hd0 : Dg 8 b0) (hl1 : b1.length = 32) (hd1 : Dg 8 b1) (hS : 0 < be b1 ∧ be b1 < fn) {p : Path} (hp : p ∈ [q_sb0, q_sb1, q_sb2]) (ha : asmHolds (runR G_sb p.defs (sbBase b0 b1)) p.asm) :
    resV [.bool] (p.outs.map (·.val (runR G_sb p.defs (sbBase b0 b1)))) = .bool true := by
  have hl := sbBase_length hl0 hl1
  simp only [List.mem_cons, List.not_mem_nil, or_false] at hp
  rcases hp with rfl | rfl | rfl
  · rw [sb0 hl0 hd0 hl1 hd1 hS]
    have hv : (SI.var 144).val ((((sbBase b0 b1 ++ [1]) ++ dig 64 4 (lowOf (be b1)) ++ [1]) ++ [b01 (decide (be b1 ≤ fn / 2))] ++ [b01 (decide (be b1 ≤ fn / 2))]) ++ [1]) = 1 := by
      show List.getD _ 144 0 = 1
      rw [List.getD, List.getElem?_append_right (by simp [hl, dig_length])]
      simp [hl, dig_length]
    show resV [.bool] [(SI.var 144).val _] = _
    rw [hv]
    rfl
  · exfalso
    rw [sb1 hl0 hd0 hl1 hS] at ha
    have := ha (.var 141, false) (by simp [q_sb1])
    have hv : (SI.var 141).val ((sbBase b0 b1 ++ [1]) ++ dig 64 4 (lowOf (be b1)) ++ [1]) = 1 := by
      show List.getD _ 141 0 = 1
      rw [List.getD, List.getElem?_append_right (by simp [hl, dig_length])]
      simp [hl, dig_length]
    simp only [hv] at this
    cases this
  · exfalso
    rw [sb2 hl0 hd0 hl1] at ha
    have := ha (.var 136, false) (by simp [q_sb2])
    have hv : (SI.var 136).val (sbBase b0 b1 ++ [1]) = 1 := by
      show List.getD _ 136 0 = 1
      rw [List.getD, List.getElem?_append_right (by simp [hl])]
      simp [hl]
    simp only [hv] at this
    cases this
end

theorem c_ranged {bs : List Int} (hl : bs.length = 32) (hd : Dg 8 bs) (w : World) :
    Calls Tryd.prog 11 #[.agg (bs.map (Value.int .u8)).toArray] w fun en w' => en = .returned (.bool (decide (0 < be bs ∧ be bs < fn))) ∧ Below w.heap.size w w' :=
  m_ranged.pure (by kernel_rfl) (base := bs) (out := [b01 (decide (0 < be bs ∧ be bs < fn))]) hl rfl (fun _ => hd) rfl (args := [.agg (bs.map (Value.int .u8)).toArray])
    (by
      show [(SV.one (.agg (kcells 0 (List.replicate 32 (some .u8))))).den ⟨bs, []⟩] = _
      rw [agg_at .u8 [] (l := bs) (pre := []) (post := []) (n := 0) (by simp) rfl hl])
    (fun nb => by
      show Value.bool (List.getD (bs ++ fit 1 [b01 (decide (0 < be bs ∧ be bs < fn))]) 32 0 != 0) = _
      rw [List.getD, List.getElem?_append_right (by omega), hl]
      show Value.bool (b01 (decide (0 < be bs ∧ be bs < fn)) != 0) = _
      rw [b01_bool]) w

end Go.Proofs.YtfeancgmmonebaaDoor.Sx

/-
  Small functions of the lax reading of a signature's bytes: the padding, a new signature, its second number. Conditions: none; each theorem bears its own.
-/
namespace Go.Proofs.YtfeancgmmonebaaDoor.Sx
open Go Go.Proofs Go.RowKit

set_option maxRecDepth 100000 in
/-- A number that is padded as it ought to be. -/
theorem c_canon (m c : Nat) (l : List Int) (ad : Addr) (w : World) (hm : 0 < m) (hm72 : m ≤ 72) (hr : Reads w w.heap.size (some ad) m (l.map (Value.int .u8))) (hd : Dg 8 l) (h0 : l.getD 0 0 < 128) (hp : ¬ (1 < m ∧ l.getD 0 0 = 0 ∧ l.getD 1 0 < 128)) :
    Calls Tryd.prog 43 #[.slice (some ad) m c] w fun en w' => en = .returned .nilIface ∧ w = w' := by
  obtain ⟨y, hy⟩ : ∃ y, y = l.getD 0 0 := ⟨_, rfl⟩
  obtain ⟨z, hz⟩ : ∃ z, z = l.getD 1 0 := ⟨_, rfl⟩
  have k0 : w.cell? ad = some (.int .u8 y) := by
    have := hr.cell (j := 0) hm
    rw [← hy] at this
    rwa [show ad.add 0 = ad by unfold Addr.add; simp] at this
  have k1 : 1 < m → w.cell? ⟨ad.block, ad.off + 1, none⟩ = some (.int .u8 z) := fun h => by
    have := hr.cell (j := 1) h
    rw [← hz] at this
    rwa [addr_pos _ (by omega)] at this
  rw [← hy, ← hz] at hp
  rw [← hy] at h0
  have hby : (bits .and .u8 y 128 == 128) = false := by
    rw [and128 (by rw [hy]; exact (hd.getD 0).1) (by rw [hy]; exact (hd.getD 0).2), if_pos h0]
    rfl
  have hbz : 128 ≤ z → (bits .and .u8 z 128 != 128) = false := fun h => by
    rw [and128 (by rw [hz]; exact (hd.getD 1).1) (by rw [hz]; exact (hd.getD 1).2), if_neg (by omega)]
    rfl
  have hm0 : (0 : Int) < m := by omega
  have HP := Lib.hid hp
  have HK1 := Lib.hid k1
  have HBz := Lib.hid hbz
  clear hp k1 hbz hr hy hz
  by_cases h1 : 1 < m
  · have h1' : (1 : Int) < m := by omega
    have k1 := HK1.out h1
    by_cases hy0 : y = 0
    · subst hy0
      have hz' : 128 ≤ z := by
        have := HP.out
        omega
      have hbz := HBz.out hz'
      clear hz'
      go_enter Tryd.func43, Tryd.ntmps43
      go_wp2_with fail
      go_ret
      exact ⟨rfl, rfl⟩
    · have hyb : (y == 0) = false := by simp [hy0]
      clear hy0
      go_enter Tryd.func43, Tryd.ntmps43
      go_wp2_with fail
      go_ret
      exact ⟨rfl, rfl⟩
  · have h1' : (m : Int) ≤ 1 := by omega
    clear h1
    go_enter Tryd.func43, Tryd.ntmps43
    go_wp2_with fail
    go_ret
    exact ⟨rfl, rfl⟩

/-- What both kinds of a new signature give. -/
def NewSig (w : World) (R S : Int) (en : Ending) (w' : World) : Prop :=
  (∃ b o, en = .returned (.pointer (some ⟨b, o, none⟩)) ∧ w.heap.size ≤ b ∧ ∀ (j : Nat) v, ((dig 32 8 R ++ dig 32 8 S).map (Value.int .u32))[j]? = some v → w'.cell? ⟨b, o + j, none⟩ = some v) ∧ Below w.heap.size w w'

theorem c_bnew {g h : Nat} {T T' : TypeId} {R S : Int} {w : World} (hg : w.heap[g]? = some (.cells ((dig 32 8 R).map (Value.int .u32)).toArray T (0, 0))) (hh : w.heap[h]? = some (.cells ((dig 32 8 S).map (Value.int .u32)).toArray T' (0, 0))) (hne : g ≠ h) :
    Calls Tryd.prog 44 #[.pointer (some ⟨g, 0, none⟩), .pointer (some ⟨h, 0, none⟩)] w (NewSig w R S) := by
  have HN := Lib.hid (c_newsig hg hh hne)
  clear hg hh hne
  go_enter Tryd.func44, Tryd.ntmps44
  go_wp2_with (go_at_call 23; refine HN.out.mono ?_; rintro e w1 ⟨⟨b, o, rfl, hb, hc⟩, hb1⟩
               have HC := Lib.hid hc
               clear hc)
  go_ret
  exact ⟨⟨b, o, rfl, hb, HC.out⟩, hb1⟩

/-- The second number of a signature in memory. -/
theorem c_sigS {b o : Nat} {R S : Int} {w : World} (hb : b < w.heap.size) (hc : ∀ (j : Nat) v, ((dig 32 8 R ++ dig 32 8 S).map (Value.int .u32))[j]? = some v → w.cell? ⟨b, o + j, none⟩ = some v) :
    Calls Tryd.prog 30 #[.pointer (some ⟨b, o, none⟩)] w fun en w' => en = .returned (.agg ((dig 32 8 S).map (Value.int .u32)).toArray) ∧ Below w.heap.size w w' := by
  have hl : (dig 32 8 R ++ dig 32 8 S).length = 16 := by simp [dig_length]
  refine (m_sigS.calls (by kernel_rfl) (base := dig 32 8 R ++ dig 32 8 S) (bs := [(b, o)]) (w := w) (by rw [hl]; rfl) rfl (fun h => by cases h) ?_ ?_).mono ?_
  · intro k so hso
    match k with
    | 0 =>
      obtain rfl := Option.some.inj hso
      exact ObjOk.part rfl rfl hb hc (kcells_at .u32 [(b, o)] (dig 32 8 R ++ dig 32 8 S) [] [] _ 0 16 (by simp) rfl hl)
    | k + 1 => cases hso
  · intro k k' so so' hoo h1 h2 h3
    match k, k' with
    | 0, 0 => exact absurd rfl hoo
    | k + 1, _ => cases h1
    | _, k' + 1 => cases h2
  · rintro en w' ⟨nb, hnb, _, _, hen, _, hfr⟩
    refine ⟨?_, hfr.below (Nat.le_refl _) ?_⟩
    · have hE : e_sigS.env (dig 32 8 R ++ dig 32 8 S) [(b, o)] nb = ⟨(dig 32 8 R ++ dig 32 8 S) ++ dig 32 8 S, [(b, o)] ++ nb⟩ := by
        unfold Entry.env
        rw [sigS_F]
        show (⟨_ ++ fit 8 _, _⟩ : En) = _
        rw [fit_eq (dig_length 32 8 S)]
      rw [hE] at hen
      rw [hen]
      exact congrArg Ending.returned (agg_at .u32 _ (l := dig 32 8 S) (pre := dig 32 8 R ++ dig 32 8 S) (post := []) (n := 16) (by simp) hl (dig_length 32 8 S))
    · rintro k j hk ⟨q, so, hso, hw, _⟩
      match q with
      | 0 =>
        obtain rfl := Option.some.inj hso
        cases hw
      | q + 1 => cases hso

/-- A cut up to an end that is told in a byte. -/
theorem run_cut8 (ad : Addr) {n c : Nat} (h : Nat) (hh : h ≤ c) (w : World) :
    (Instr.sliceAt 22 (.slice (some ad) n c) none (some (.int .u8 h)) none).run Tryd.prog w = .ok (.slice (some ad) h c) w := by
  have e1 : ((none : Option Value) = none ∧ (none : Option Int) = none) ∨ ∃ k n, (none : Option Value) = some (.int k n) ∧ (none : Option Int) = some n := .inl ⟨rfl, rfl⟩
  have e2 : (some (Value.int .u8 h) = none ∧ some (h : Int) = none) ∨ ∃ k n, some (Value.int .u8 h) = some (.int k n) ∧ some (h : Int) = some n := .inr ⟨_, _, rfl, rfl⟩
  have hb := run_bounds (P := Tryd.prog) (b := true) (len := n) (cap := c) e1 e2 (by simp) (by simp) (by simp; omega) w
  simp only [Instr.sliceAt, Instr.slice, run_underlying Tryd.underlying22, Sem.run_bind, Sem.run_pure, Result.andThen_ok, hb, run_szOf (P := Tryd.prog) (t := 5) (n := 1) (by kernel_rfl)]
  simp [Addr.add]

end Go.Proofs.YtfeancgmmonebaaDoor.Sx
