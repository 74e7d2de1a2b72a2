/-
  The statement FnLowWritten: what its function gives. Conditions: none; each theorem bears its own.
-/
import Derived.Test.YtfeancgmmonebaaDoorMgv
import Derived.Test.YtfeancgmmonebaaDoorMgo
import Derived.Test.YtfeancgmmonebaaDoorMgu
namespace Go.Proofs.YtfeancgmmonebaaDoor.Sx
open Go Go.Proofs Go.RowKit

theorem sig_same {bs c d : List Int} (hd : Dg 8 bs) (hok : SigOk bs) (hc : Canon (sigR bs) c) (hdd : Canon (lowOf (sigS bs)) d) : decide (sigB c d = bs) = decide (sigS bs ≤ fn / 2) := by
  obtain ⟨c', d', h1, h2, hb⟩ := sigOk_sigB hd hok
  have hl := lowOf_eq (sigS bs)
  by_cases hlow : sigS bs ≤ fn / 2
  · have he : lowOf (sigS bs) = sigS bs := of_decide_eq_true (hl.trans (decide_eq_true hlow))
    rw [he] at hdd
    have e1 := canon_unique hc h1
    have e2 := canon_unique hdd h2
    rw [decide_eq_true hlow, decide_eq_true (by rw [e1, e2, ← hb])]
  · rw [decide_eq_false hlow]
    refine decide_eq_false fun h => ?_
    have h3 : sigS (sigB c d) = lowOf (sigS bs) := (sigS_sigB c d).trans hdd.val
    rw [h] at h3
    rw [decide_eq_true h3.symm, decide_eq_false hlow] at hl
    cases hl

def t_lwn : Tail := { n := 0, nt := 37, slots := [(14, .tup [.agg (List.replicate 32 (.int .u8 (.lit 0))), .agg (List.replicate 32 (.int .u8 (.lit 0))), .sc (.int .i64 (.lit 1))])], mem := [] }
def q_lwn : Path := ⟨[], [], [.lit 1]⟩

set_option maxRecDepth 100000 in
set_option maxHeartbeats 1000000 in
theorem law_lowwritten (n c : Nat) (bs : List Int) (A : Option Addr) (w : World) (hm : n ≤ 9223372036854775807) (hc : n ≤ c) (hr : Reads w w.heap.size A n (bs.map (Value.int .u8))) (hd : Dg 8 bs) (hv : ErrVars w) :
    Calls Tryd.prog 4 #[.slice A n c] w fun en w' => en = .returned (.bool true) ∧ Below w.heap.size w w' := by
  have HR := Lib.hid hr
  clear hr
  by_cases h10 : (n : Int) ≤ 10000
  · have hn : n < 2147483648 := by omega
    have hI := impl_readsig n c bs A w hn hc HR.out hd
    by_cases hok : SigOk bs
    case neg =>
      have hI1 := hI.mono (R' := fun e w' => e = .returned (.tuple #[.agg zero32, .agg zero32, .int .i64 1]) ∧ Below w.heap.size w w') fun e w' h => ⟨h.1.elim (fun q => absurd q.1 hok) (fun q => q.2), h.2⟩
      have HI := Lib.hid hI1
      clear hI hI1 hok hv hm
      go_enter Tryd.func4, Tryd.ntmps4
      go_wp2_with (go_at_call 8; refine HI.out.mono ?_; rintro e w2 ⟨rfl, hb2⟩; refine Halt.of ?_)
      rename_i K1 hK1 K hK
      show K _ _
      refine hK _ _ ?_
      refine tail_list mixed (Γ := []) (fun e he => by cases he) (t := t_lwn) (res := [.bool]) (nds := []) (ps := [q_lwn]) (by kernel_rfl)
        (base := []) (bs := []) rfl rfl (fun _ h => by cases h) rfl rfl ⟨rfl, trivial⟩ (fun o so hso => by cases hso) (fun o o' so so' _ h1 => by cases h1) hK1 ?_
      intro p hp _ w' hfr
      obtain rfl : p = q_lwn := by simpa using hp
      exact ⟨rfl, hb2.trans (hfr.below hb2.size fun k j hk ⟨o, so, hso, _⟩ => by cases hso)⟩
    case pos =>
      have hR := hok.rR
      have hS := hok.rS
      have fl := fn_lt
      have bR : be (byt (sigR bs)) = sigR bs := byt_be (by omega) (by omega)
      have bS : be (byt (sigS bs)) = sigS bs := byt_be (by omega) (by omega)
      have hI1 := hI.mono (R' := fun e w' => e = .returned (.tuple #[.agg ((byt (sigR bs)).map (Value.int .u8)).toArray, .agg ((byt (sigS bs)).map (Value.int .u8)).toArray, .int .i64 0]) ∧ Below w.heap.size w w') fun e w' h => ⟨h.1.elim (fun q => q.2) (fun q => absurd hok q.1), h.2⟩
      have hL : ∀ W, Below w.heap.size w W → Calls Tryd.prog 6 #[.slice A n c] W fun en w' => en = .returned (.int .i64 (if sigS bs ≤ fn / 2 then 0 else 1)) ∧ Below W.heap.size W w' := fun W hb =>
        c_lowS n c bs A W (by omega) ((HR.out.below hb).more hb.size) hd hok (hv.below hb)
      have hB : ∀ W, Calls Tryd.prog 10 #[.agg ((byt (sigR bs)).map (Value.int .u8)).toArray, .agg ((byt (sigS bs)).map (Value.int .u8)).toArray] W (SigOut W (sigR bs) (lowOf (sigS bs))) := fun W => by
        have := c_implBytes (byt_length (sigR bs)) (byt_dg (sigR bs)) (byt_length (sigS bs)) (byt_dg (sigS bs)) (by rw [bR]; exact hR) (by rw [bS]; exact hS) W
        rwa [bR, bS] at this
      have hA : ∀ W, Calls Tryd.prog 11 #[.agg ((byt (sigR bs)).map (Value.int .u8)).toArray] W fun en w' => en = .returned (.bool true) ∧ Below W.heap.size W w' := fun W => by
        have := c_ranged (byt_length (sigR bs)) (byt_dg (sigR bs)) W
        rwa [bR, decide_eq_true hR] at this
      have hA' : ∀ W, Calls Tryd.prog 11 #[.agg ((byt (sigS bs)).map (Value.int .u8)).toArray] W fun en w' => en = .returned (.bool true) ∧ Below W.heap.size W w' := fun W => by
        have := c_ranged (byt_length (sigS bs)) (byt_dg (sigS bs)) W
        rwa [bS, decide_eq_true hS] at this
      obtain ⟨L0, hL0⟩ : ∃ L : List Value, L = (byt (sigR bs)).map (Value.int .u8) := ⟨_, rfl⟩
      obtain ⟨L1, hL1⟩ : ∃ L : List Value, L = (byt (sigS bs)).map (Value.int .u8) := ⟨_, rfl⟩
      have len0 : L0.length = 32 := by rw [hL0]; simp [byt_length]
      have len1 : L1.length = 32 := by rw [hL1]; simp [byt_length]
      have one0 : L0.toArray.all (·.oneCell') = true := by rw [hL0]; simp [Value.oneCell']
      have one1 : L1.toArray.all (·.oneCell') = true := by rw [hL1]; simp [Value.oneCell']
      rw [← hL0] at hI1 hB hA
      rw [← hL1] at hI1 hB hA'
      obtain ⟨q, hq⟩ : ∃ q : Bool, q = decide (sigS bs ≤ fn / 2) := ⟨_, rfl⟩
      obtain ⟨x, hx⟩ : ∃ x : Int, x = if sigS bs ≤ fn / 2 then 0 else 1 := ⟨_, rfl⟩
      have hqx : (q == (x == 0)) = true := by
        rw [hx, hq]
        by_cases h : sigS bs ≤ fn / 2 <;> simp [h]
      have hsm : ∀ c d, Canon (sigR bs) c → Canon (lowOf (sigS bs)) d → decide (sigB c d = bs) = q := fun c d h1 h2 => by rw [hq]; exact sig_same hd hok h1 h2
      rw [← hx] at hL
      have HI := Lib.hid hI1
      have HL := Lib.hid hL
      have HB := Lib.hid hB
      have HA := Lib.hid hA
      have HA' := Lib.hid hA'
      have HN0 := Lib.hid len0
      have HN1 := Lib.hid len1
      have hinf : (Tryd.prog.info? 33).map (·.size) = some 32 := by kernel_rfl
      have HI0 : Hid ((Tryd.prog.info? 33).map (·.size) = some L0.toArray.size) := hinf.trans (congrArg some len0.symm)
      have HI1 : Hid ((Tryd.prog.info? 33).map (·.size) = some L1.toArray.size) := hinf.trans (congrArg some len1.symm)
      clear hinf
      have HO0 := Lib.hid one0
      have HO1 := Lib.hid one1
      have HSm := Lib.hid hsm
      have HbR := Lib.hid hR
      have HbS := Lib.hid (lowOf_range hS)
      have Hn := Lib.hid hn
      clear hI hI1 hL hB hA hA' hL0 hL1 len0 len1 one0 one1 hq hx hsm hR hS fl bR bS hok hv hm hn
      go_enter Tryd.func4, Tryd.ntmps4
      go_upto_region 8 with (first
        | (go_at_call 8; refine HI.out.mono ?_; rintro e w1 ⟨rfl, hb1⟩
           have ga : ((w1.alloc (.cells zlit32 33)).alloc (.cells zlit32 33)).heap[w1.heap.size]? = some (.cells zlit32 33 (0, 0)) := (heap_alloc_old _ _ (by simp)).trans (heap_alloc_new w1 _)
           have gb : ((w1.alloc (.cells zlit32 33)).alloc (.cells zlit32 33)).heap[w1.heap.size + 1]? = some (.cells zlit32 33 (0, 0)) := by
             have h := heap_alloc_new (w1.alloc (.cells zlit32 33)) (.cells zlit32 33)
             rwa [show (w1.alloc (.cells zlit32 33)).heap.size = w1.heap.size + 1 by simp] at h
           have hs : ((w1.alloc (.cells zlit32 33)).alloc (.cells zlit32 33)).heap.size = w1.heap.size + 2 := by simp
           have hb2 : Below w.heap.size w ((w1.alloc (.cells zlit32 33)).alloc (.cells zlit32 33)) := (hb1.alloc hb1.size _).alloc (by have := hb1.size; simp; omega) _
           have HGa := Lib.hid ga
           have HGb := Lib.hid ((setRow_other _ w1.heap.size _ L0.toArray (show w1.heap.size + 1 ≠ w1.heap.size by omega)).trans gb)
           have HG2 := Lib.hid (setRow_heap _ _ _ L0.toArray _ _ ga)
           have HS2 := Lib.hid hs
           have HB1 := Lib.hid hb1
           have HB2 := Lib.hid hb2
           clear ga gb hs hb1 hb2)
        | ((with_reducible refine wpList_store_row rfl _ (.tmp 3) (.tmp 15) rfl w1.heap.size L0.toArray ?_ ?_ _ zlit32 HGa.out ?_ ?_ HO0.out ?_); exact rfl; exact rfl; exact HI0.out; exact HN0.out.symm; skip)
        | ((with_reducible refine wpList_store_row rfl _ (.tmp 4) (.tmp 16) rfl (w1.heap.size + 1) L1.toArray ?_ ?_ _ zlit32 HGb.out ?_ ?_ HO1.out ?_); exact rfl; exact rfl; exact HI1.out; exact HN1.out.symm; skip))
      have r0 : ((((w1.alloc (.cells zlit32 33)).alloc (.cells zlit32 33)).setRow w1.heap.size L0.toArray).setRow (w1.heap.size + 1) L1.toArray).heap[w1.heap.size]? = some (.cells L0.toArray 33 (0, 0)) := (setRow_other _ (w1.heap.size + 1) w1.heap.size _ (by omega)).trans HG2.out
      have r1 : ((((w1.alloc (.cells zlit32 33)).alloc (.cells zlit32 33)).setRow w1.heap.size L0.toArray).setRow (w1.heap.size + 1) L1.toArray).heap[w1.heap.size + 1]? = some (.cells L1.toArray 33 (0, 0)) := setRow_heap _ _ _ _ _ _ HGb.out
      have hb8 : Below w.heap.size w ((((w1.alloc (.cells zlit32 33)).alloc (.cells zlit32 33)).setRow w1.heap.size L0.toArray).setRow (w1.heap.size + 1) L1.toArray) := below_setRow (below_setRow HB2.out HB1.out.size _) (Nat.le_succ_of_le HB1.out.size) _
      have hs8 : ((((w1.alloc (.cells zlit32 33)).alloc (.cells zlit32 33)).setRow w1.heap.size L0.toArray).setRow (w1.heap.size + 1) L1.toArray).heap.size = w1.heap.size + 2 := by simp
      generalize ((((w1.alloc (.cells zlit32 33)).alloc (.cells zlit32 33)).setRow w1.heap.size L0.toArray).setRow (w1.heap.size + 1) L1.toArray) = W8 at r0 r1 hb8 hs8 ⊢
      generalize w1.heap.size = g at r0 r1 hs8 ⊢
      have HA0 := Lib.hid r0
      have HA1 := Lib.hid r1
      have HB8 := Lib.hid hb8
      have HS8 := Lib.hid hs8
      clear r0 r1 hb8 hs8 HGa HGb HG2 HS2 HB1 HB2 HI HO0 HO1 HI0 HI1
      go_wp2_with (first
        | ((with_reducible refine (show wpList _ _ _ ((⟨some 20, _, _, _, _, _⟩ : Oper) :: _) _ _ from ?_)); refine wpList_runw (by go_simp) (load_op (run_loadAtAgg (cs := L0) (by kernel_rfl) (by kernel_rfl) HA0.out HN0.out)) ?_)
        | ((with_reducible refine (show wpList _ _ _ ((⟨some 21, _, _, _, _, _⟩ : Oper) :: _) _ _ from ?_)); refine wpList_runw (by go_simp) (load_op (run_loadAtAgg (cs := L1) (by kernel_rfl) (by kernel_rfl) HA1.out HN1.out)) ?_)
        | (go_at_call 10; refine (HB.out _).mono ?_; rintro e w5 ⟨c', d, hcc, hcd, ⟨v, rfl, hov⟩, hb5⟩
           obtain ⟨A6, c6, rfl, hc6, -⟩ := own_slice hov
           have HR6 := Lib.hid (Reads.of_own hov)
           have hdec := HSm.out c' d hcc hcd
           have HDec := Lib.hid hdec
           have hn72 : (sigB c' d).length < 2147483648 := by
             have h1 := hcc.len (Int.lt_trans HbR.out.2 fn_lt)
             have h2 := hcd.len (Int.lt_trans HbS.out.2 fn_lt)
             rw [sigB_length]
             omega
           have HN72 := Lib.hid hn72
           have HB5 : Hid (Below w.heap.size w w5) := HB8.out.trans (hb5.mono HB8.out.size)
           have HC0 := Lib.hid ((hb5.block g (by have := HS8.out; omega)).trans HA0.out)
           have HC1 := Lib.hid ((hb5.block (g + 1) (by have := HS8.out; omega)).trans HA1.out)
           have HS5 : Hid (g + 2 ≤ w5.heap.size) := by show g + 2 ≤ w5.heap.size; have := HS8.out; have := hb5.size; omega
           clear hov hdec hn72 hcc hcd hb5 hc6)
        | (go_at_call 9; refine (c_same _ _ _ _ _ _ _ _ _ HN72.out Hn.out HR6.out ((HR.out.below HB5.out).more HB5.out.size)).mono ?_; rintro e w6 ⟨rfl, hb6⟩; rw [HDec.out]
           have HB6 : Hid (Below w.heap.size w w6) := HB5.out.trans (hb6.mono HB5.out.size)
           have HD0 := Lib.hid ((hb6.block g (by have := HS5.out; omega)).trans HC0.out)
           have HD1 := Lib.hid ((hb6.block (g + 1) (by have := HS5.out; omega)).trans HC1.out)
           have HS6 : Hid (g + 2 ≤ w6.heap.size) := by show g + 2 ≤ w6.heap.size; have := HS5.out; have := hb6.size; omega
           clear hb6)
        | (go_at_call 6; refine (HL.out _ HB6.out).mono ?_; rintro e w7 ⟨rfl, hb7⟩
           have HB7 : Hid (Below w.heap.size w w7) := HB6.out.trans (hb7.mono HB6.out.size)
           have HE0 := Lib.hid ((hb7.block g (by have := HS6.out; omega)).trans HD0.out)
           have HE1 := Lib.hid ((hb7.block (g + 1) (by have := HS6.out; omega)).trans HD1.out)
           have HS7 : Hid (g + 2 ≤ w7.heap.size) := by show g + 2 ≤ w7.heap.size; have := HS6.out; have := hb7.size; omega
           clear hb7)
        | ((with_reducible refine (show wpList _ _ _ ((⟨some 30, _, _, _, _, _⟩ : Oper) :: _) _ _ from ?_)); refine wpList_runw (by go_simp) (load_op (run_loadAtAgg (cs := L0) (by kernel_rfl) (by kernel_rfl) HE0.out HN0.out)) ?_)
        | (go_at_call 11; (with_reducible refine (HA.out _).mono ?_); rintro e w8 ⟨rfl, hb8⟩
           have HB9 : Hid (Below w.heap.size w w8) := HB7.out.trans (hb8.mono HB7.out.size)
           have HF1 := Lib.hid ((hb8.block (g + 1) (by have := HS7.out; omega)).trans HE1.out)
           clear hb8)
        | ((with_reducible refine (show wpList _ _ _ ((⟨some 34, _, _, _, _, _⟩ : Oper) :: _) _ _ from ?_)); refine wpList_runw (by go_simp) (load_op (run_loadAtAgg (cs := L1) (by kernel_rfl) (by kernel_rfl) HF1.out HN1.out)) ?_)
        | (go_at_call 11; (with_reducible refine (HA'.out _).mono ?_); rintro e w9 ⟨rfl, hb9⟩))
      go_ret
      exact ⟨rfl, HB9.out.trans (hb9.mono HB9.out.size)⟩
  · go_enter Tryd.func4, Tryd.ntmps4
    go_wp2_with fail
    all_goals (go_ret; exact ⟨rfl, Below.refl _ _⟩)

end Go.Proofs.YtfeancgmmonebaaDoor.Sx

