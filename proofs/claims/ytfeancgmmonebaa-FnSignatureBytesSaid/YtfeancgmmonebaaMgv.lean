/-
  The statement FnSignatureBytes: what its function gives. Conditions: none; each theorem bears its own.
-/
import Derived.Test.YtfeancgmmonebaaMgu
namespace Go.Proofs.Ytfeancgmmonebaa.Sx
open Go Go.Proofs Go.RowKit

def t_sb : Tail := { n := 136, nt := 58, slots := [(2, .one (.sc (.ptr 0 0))), (3, .one (.sc (.ptr 1 0))), (5, .one (.sc (.ptr 2 0))), (33, .tup [.agg (kcells 72 (List.replicate 32 (some .u8))), .agg (kcells 104 (List.replicate 32 (some .u8))), .sc (.int .i64 (.lit 0))])], mem := [⟨kcells 0 (List.replicate 32 (some .u8)), true⟩, ⟨kcells 32 (List.replicate 32 (some .u8)), true⟩, ⟨kcells 64 (List.replicate 8 (some .u64)), true⟩] }

theorem sigB_dg {R S : Int} {c d : List Int} (hc : Canon R c) (hd : Canon S d) (hR : R < 2 ^ 256) (hS : S < 2 ^ 256) : Dg 8 (sigB c d) := by
  have h1 := hc.len hR
  have h2 := hd.len hS
  intro x hx
  simp only [sigB, List.mem_cons, List.mem_append] at hx
  rcases hx with rfl | rfl | rfl | rfl | hx | rfl | rfl | hx
  · decide
  · omega
  · decide
  · omega
  · exact hc.dg x hx
  · decide
  · omega
  · exact hd.dg x hx

theorem range_other {w : World} {b o g : Nat} {cs : List Value} {c : Array Value} (h : w.rangeAt b o cs) (hne : b ≠ g) : (w.setRow g c).rangeAt b o cs := fun j v hv => by
  have h1 := h j v hv
  simp only [World.cell?, setRow_other w g b c hne] at h1 ⊢
  exact h1

abbrev zlit64 : Array Value := #[.int .u64 0, .int .u64 0, .int .u64 0, .int .u64 0, .int .u64 0, .int .u64 0, .int .u64 0, .int .u64 0]

set_option maxRecDepth 100000 in
set_option maxHeartbeats 1000000 in
theorem law_sigbytes {b0 b1 : List Int} (hl0 : b0.length = 32) (hd0 : Dg 8 b0) (hl1 : b1.length = 32) (hd1 : Dg 8 b1) (w : World) :
    Calls Try.prog 5 #[.agg (b0.map (Value.int .u8)).toArray, .agg (b1.map (Value.int .u8)).toArray] w fun en w' => en = .returned (.bool true) ∧ Below w.heap.size w w' := by
  have hA : ∀ W, Calls Try.prog 14 #[.agg (b0.map (Value.int .u8)).toArray] W fun en w' => en = .returned (.bool (decide (0 < be b0 ∧ be b0 < fn))) ∧ Below W.heap.size W w' := fun W => c_ranged hl0 hd0 W
  have hB : ∀ W, Calls Try.prog 14 #[.agg (b1.map (Value.int .u8)).toArray] W fun en w' => en = .returned (.bool (decide (0 < be b1 ∧ be b1 < fn))) ∧ Below W.heap.size W w' := fun W => c_ranged hl1 hd1 W
  have hUA : ∀ W, Calls Try.prog 15 #[.agg (b0.map (Value.int .u8)).toArray] W fun en w' => en = .returned (.agg ((dig 64 4 (be b0)).map (Value.int .u64)).toArray) ∧ Below W.heap.size W w' := fun W => c_uof hl0 hd0 W
  have hUB : ∀ W, Calls Try.prog 15 #[.agg (b1.map (Value.int .u8)).toArray] W fun en w' => en = .returned (.agg ((dig 64 4 (be b1)).map (Value.int .u64)).toArray) ∧ Below W.heap.size W w' := fun W => c_uof hl1 hd1 W
  have hI : (0 < be b0 ∧ be b0 < fn) → (0 < be b1 ∧ be b1 < fn) → ∀ W, Calls Try.prog 16 #[.agg (b0.map (Value.int .u8)).toArray, .agg (b1.map (Value.int .u8)).toArray] W (SigOut W (be b0) (lowOf (be b1))) := fun h0 h1 W => c_implBytes hl0 hd0 hl1 hd1 h0 h1 W
  obtain ⟨L0, hL0⟩ : ∃ L : List Value, L = b0.map (Value.int .u8) := ⟨_, rfl⟩
  obtain ⟨L1, hL1⟩ : ∃ L : List Value, L = b1.map (Value.int .u8) := ⟨_, rfl⟩
  have len0 : L0.length = 32 := by rw [hL0]; simp [hl0]
  have len1 : L1.length = 32 := by rw [hL1]; simp [hl1]
  rw [← hL0] at hA hUA hI ⊢
  rw [← hL1] at hB hUB hI ⊢
  have HA := Lib.hid hA
  have HB := Lib.hid hB
  have HUA := Lib.hid hUA
  have HUB := Lib.hid hUB
  have HI := Lib.hid hI
  have HL0 := Lib.hid hL0
  have HL1 := Lib.hid hL1
  have HN0 := Lib.hid len0
  have HN1 := Lib.hid len1
  have Hl0 := Lib.hid hl0
  have Hl1 := Lib.hid hl1
  clear hA hB hUA hUB hI hL0 hL1 len0 len1 hl0 hl1
  go_enter Try.func5, Try.ntmps5
  go_upto_region 1 with fail
  have hs : ((w.alloc (.cells L0.toArray 24)).alloc (.cells L1.toArray 24)).heap.size = w.heap.size + 2 := by simp
  have hb : Below w.heap.size w ((w.alloc (.cells L0.toArray 24)).alloc (.cells L1.toArray 24)) := ((Below.refl _ _).alloc (Nat.le_refl _) _).alloc (by simp) _
  have hg0 : ((w.alloc (.cells L0.toArray 24)).alloc (.cells L1.toArray 24)).heap[w.heap.size]? = some (.cells L0.toArray 24 (0, 0)) := (heap_alloc_old _ _ (by simp)).trans (heap_alloc_new w _)
  have hg1 : ((w.alloc (.cells L0.toArray 24)).alloc (.cells L1.toArray 24)).heap[w.heap.size + 1]? = some (.cells L1.toArray 24 (0, 0)) := by
    have h := heap_alloc_new (w.alloc (.cells L0.toArray 24)) (.cells L1.toArray 24)
    rwa [show (w.alloc (.cells L0.toArray 24)).heap.size = w.heap.size + 1 by simp] at h
  generalize (w.alloc (.cells L0.toArray 24)).alloc (.cells L1.toArray 24) = W1 at hs hb hg0 hg1 ⊢
  have HS1 := Lib.hid hs
  have HB1 := Lib.hid hb
  have HG0 := Lib.hid hg0
  have HG1 := Lib.hid hg1
  clear hs hb hg0 hg1
  by_cases hr0 : 0 < be b0 ∧ be b0 < fn
  case neg =>
    have hdec : Hid (decide (0 < be b0 ∧ be b0 < fn) = false) := decide_eq_false hr0
    clear hr0
    go_wp2_with (first
      | ((with_reducible refine (show wpList _ _ _ ((⟨some 10, _, _, _, _, _⟩ : Oper) :: _) _ _ from ?_)); refine wpList_runw (by go_simp) (load_op (run_loadAtAgg (cs := L0) (by kernel_rfl) (by kernel_rfl) HG0.out HN0.out)) ?_)
      | (go_at_call 14; (with_reducible refine (HA.out _).mono ?_); rintro e w2 ⟨rfl, hb2⟩; rw [hdec.out]))
    go_ret
    exact ⟨rfl, HB1.out.trans (hb2.mono (HB1.out.size))⟩
  case pos =>
    have hdec : Hid (decide (0 < be b0 ∧ be b0 < fn) = true) := decide_eq_true hr0
    by_cases hr1 : 0 < be b1 ∧ be b1 < fn
    case neg =>
      have hdec1 : Hid (decide (0 < be b1 ∧ be b1 < fn) = false) := decide_eq_false hr1
      clear hr0 hr1
      go_wp2_with (first
        | ((with_reducible refine (show wpList _ _ _ ((⟨some 10, _, _, _, _, _⟩ : Oper) :: _) _ _ from ?_)); refine wpList_runw (by go_simp) (load_op (run_loadAtAgg (cs := L0) (by kernel_rfl) (by kernel_rfl) HG0.out HN0.out)) ?_)
        | (go_at_call 14; (with_reducible refine (HA.out _).mono ?_); rintro e w2 ⟨rfl, hb2⟩; rw [hdec.out]
           have HG1' := Lib.hid ((hb2.block _ (by have := HS1.out; omega)).trans HG1.out))
        | ((with_reducible refine (show wpList _ _ _ ((⟨some 14, _, _, _, _, _⟩ : Oper) :: _) _ _ from ?_)); refine wpList_runw (by go_simp) (load_op (run_loadAtAgg (cs := L1) (by kernel_rfl) (by kernel_rfl) HG1'.out HN1.out)) ?_)
        | (go_at_call 14; (with_reducible refine (HB.out _).mono ?_); rintro e w3 ⟨rfl, hb3⟩; rw [hdec1.out]))
      go_ret
      exact ⟨rfl, (HB1.out.trans (hb2.mono HB1.out.size)).trans (hb3.mono (Nat.le_trans HB1.out.size hb2.size))⟩
    case pos =>
      have hdec1 : Hid (decide (0 < be b1 ∧ be b1 < fn) = true) := decide_eq_true hr1
      have HI' := Lib.hid (HI.out hr0 hr1)
      have HR0 := Lib.hid hr0
      have HR1 := Lib.hid hr1
      clear hr0 hr1
      go_upto_region 3 with (first
        | ((with_reducible refine (show wpList _ _ _ ((⟨some 10, _, _, _, _, _⟩ : Oper) :: _) _ _ from ?_)); refine wpList_runw (by go_simp) (load_op (run_loadAtAgg (cs := L0) (by kernel_rfl) (by kernel_rfl) HG0.out HN0.out)) ?_)
        | (go_at_call 14; (with_reducible refine (HA.out _).mono ?_); rintro e w2 ⟨rfl, hb2⟩; rw [hdec.out]
           have HG1' := Lib.hid ((hb2.block _ (by have := HS1.out; omega)).trans HG1.out))
        | ((with_reducible refine (show wpList _ _ _ ((⟨some 14, _, _, _, _, _⟩ : Oper) :: _) _ _ from ?_)); refine wpList_runw (by go_simp) (load_op (run_loadAtAgg (cs := L1) (by kernel_rfl) (by kernel_rfl) HG1'.out HN1.out)) ?_)
        | (go_at_call 14; (with_reducible refine (HB.out _).mono ?_); rintro e w3 ⟨rfl, hb3⟩; rw [hdec1.out]))
      have hHB3 : Below w.heap.size w w3 := (HB1.out.trans (hb2.mono HB1.out.size)).trans (hb3.mono (Nat.le_trans HB1.out.size hb2.size))
      have hs3 : w.heap.size + 2 ≤ w3.heap.size := by have := HS1.out; have := hb2.size; have := hb3.size; omega
      have hga : w3.heap[w.heap.size]? = some (.cells L0.toArray 24 (0, 0)) := (hb3.block _ (by have := HS1.out; have := hb2.size; omega)).trans ((hb2.block _ (by have := HS1.out; omega)).trans HG0.out)
      have hgb : w3.heap[w.heap.size + 1]? = some (.cells L1.toArray 24 (0, 0)) := (hb3.block _ (by have := HS1.out; have := hb2.size; omega)).trans HG1'.out
      have HB3 := Lib.hid hHB3
      have HS3 := Lib.hid hs3
      have HGa := Lib.hid hga
      have HGb := Lib.hid hgb
      clear hHB3 hs3 hga hgb hb2 hb3 HG0 HG1 HG1' HB1 HS1 hdec hdec1
      obtain ⟨r0, r1, r2, r3, hdr⟩ : ∃ d0 d1 d2 d3, dig 64 4 (be b0) = [d0, d1, d2, d3] := len4 (dig_length 64 4 _)
      obtain ⟨s0, s1, s2, s3, hds⟩ : ∃ d0 d1 d2 d3, dig 64 4 (be b1) = [d0, d1, d2, d3] := len4 (dig_length 64 4 _)
      have hua : ∀ W, Calls Try.prog 15 #[.agg L0.toArray] W fun en w' => en = .returned (.agg #[.int .u64 r0, .int .u64 r1, .int .u64 r2, .int .u64 r3]) ∧ Below W.heap.size W w' := fun W => by
        have := HUA.out W
        rw [hdr] at this
        exact this
      have hub : ∀ W, Calls Try.prog 15 #[.agg L1.toArray] W fun en w' => en = .returned (.agg #[.int .u64 s0, .int .u64 s1, .int .u64 s2, .int .u64 s3]) ∧ Below W.heap.size W w' := fun W => by
        have := HUB.out W
        rw [hds] at this
        exact this
      have HUA' := Lib.hid hua
      have HUB' := Lib.hid hub
      have HDr := Lib.hid hdr
      have HDs := Lib.hid hds
      clear hua hub hdr hds
      go_cut [5] (fun s5 wx => ∃ g5, s5 = .pointer (some ⟨g5, 0, none⟩) ∧ w3.heap.size ≤ g5 ∧ wx.heap[g5]? = some (.cells #[.int .u64 r0, .int .u64 r1, .int .u64 r2, .int .u64 r3, .int .u64 s0, .int .u64 s1, .int .u64 s2, .int .u64 s3] 34 (0, 0)) ∧ Below w3.heap.size w3 wx)
      case first =>
        have hu : Try.prog.underlying 24 = some (.array 32 5) := by kernel_rfl
        have hi : (Try.prog.info? 24).map (·.size) = some 32 := by kernel_rfl
        have hi0 : (Try.prog.info? 24).map (·.size) = some L0.length := by rw [HN0.out]; exact hi
        have hi1 : (Try.prog.info? 24).map (·.size) = some L1.length := by rw [HN1.out]; exact hi
        have ra : w3.rangeAt w.heap.size 0 L0 := range_of HGa.out
        have rb : w3.rangeAt (w.heap.size + 1) 0 L1 := range_of HGb.out
        have hst : (Try.prog.info? 34).map (·.size) = some 8 := by kernel_rfl
        refine wp_region_held_drew (S := fun w' => w'.rangeAt w.heap.size 0 L0 ∧ w'.rangeAt (w.heap.size + 1) 0 L1) (by kernel_rfl) ⟨ra, rb⟩ (fun hHeld => ?_)
        refine wpAnyH_take (i := 0) rfl (by kernel_rfl) (by kernel_rfl) (by kernel_rfl) (fun _ _ _ h => h) (yieldsIf_load_mid (by rfl) _ _ rfl _ _ rfl L0 _ (fun _ h => h.1) hu rfl hi0) hHeld ?_
        refine wpAnyH_take (i := 2) rfl (by kernel_rfl) (by kernel_rfl) (by kernel_rfl) (fun _ _ _ h => h) (yieldsIf_load_mid (by rfl) _ _ rfl _ _ rfl L1 _ (fun _ h => h.2) hu rfl hi1) hHeld ?_
        simp only [Act.put, List.setIfInBounds_toArray]
        clear hHeld ra rb hu hi hi0 hi1
        have ra3 : w3.drew.rangeAt w.heap.size 0 L0 := range_of HGa.out
        have rb3 : w3.drew.rangeAt (w.heap.size + 1) 0 L1 := range_of HGb.out
        have hB3 : Below w3.heap.size w3 w3.drew := (Below.refl _ _).drew
        generalize w3.drew = y3 at ra3 rb3 hB3 ⊢
        refine wpAnyH_ready (rs := [1, 5]) (by kernel_rfl) (by simp) ?_
        refine AllReadyH.cons rfl (fun K hK => ?_) (AllReadyH.cons rfl (fun K hK => ?_) AllReadyH.nil)
        · rw [if_pos (by rfl)]
          go_simp
          (with_reducible refine (HUA'.out _).mono ?_)
          rintro e w4 ⟨rfl, hb4⟩
          have ra4 := range_keep hb4 ra3
          have rb4 := range_keep hb4 rb3
          have hB4 : Below w3.heap.size w3 w4 := hB3.trans (hb4.mono hB3.size)
          refine hK.out _ _ ⟨ra4, rb4⟩ (fun _ => ?_)
          clear hK K hb4
          refine wpAnyH_ready (rs := [3, 5]) (by kernel_rfl) (by simp) ?_
          refine AllReadyH.cons rfl (fun K hK => ?_) (AllReadyH.cons rfl (fun K hK => ?_) AllReadyH.nil)
          · rw [if_pos (by rfl)]
            go_simp
            (with_reducible refine (HUB'.out _).mono ?_)
            rintro e w5 ⟨rfl, hb5⟩
            have ra5 := range_keep hb5 ra4
            have rb5 := range_keep hb5 rb4
            have hB5 : Below w3.heap.size w3 w5 := hB4.trans (hb5.mono hB4.size)
            refine hK.out _ _ ⟨ra5, rb5⟩ (fun _ => ?_)
            clear hK K hb5
            refine wpAnyH_take (i := 4) (v := .agg #[.int .u64 r0, .int .u64 r1, .int .u64 r2, .int .u64 r3, .int .u64 s0, .int .u64 s1, .int .u64 s2, .int .u64 s3]) rfl (by kernel_rfl) (by kernel_rfl) (by kernel_rfl) (fun _ _ _ h => h) (Or.inl ⟨by rfl, fun _ _ => by go_simp⟩) ⟨ra5, rb5⟩ ?_
            simp only [Act.put, List.setIfInBounds_toArray]
            refine wpAnyH_ready (rs := [5]) (by kernel_rfl) (by simp) ?_
            refine AllReadyH.cons rfl (fun K hK => ?_) AllReadyH.nil
            rw [if_pos (by rfl)]
            go_simp
            have ra6 : (w5.alloc (.cells zlit64 34)).rangeAt w.heap.size 0 L0 := range_keep ((Below.refl _ _).alloc (Nat.le_refl _) _) ra5
            have rb6 : (w5.alloc (.cells zlit64 34)).rangeAt (w.heap.size + 1) 0 L1 := range_keep ((Below.refl _ _).alloc (Nat.le_refl _) _) rb5
            have hB6 : Below w3.heap.size w3 (w5.alloc (.cells zlit64 34)) := hB5.alloc hB5.size _
            have hz6 : (w5.alloc (.cells zlit64 34)).heap[w5.heap.size]? = some (.cells zlit64 34 (0, 0)) := heap_alloc_new _ _
            have hg5 : w3.heap.size ≤ w5.heap.size := hB5.size
            refine hK.out _ _ ⟨ra6, rb6⟩ (fun _ => ?_)
            clear hK K
            generalize w5.alloc (.cells zlit64 34) = y6 at ra6 rb6 hB6 hz6 ⊢
            generalize w5.heap.size = g5 at hz6 hg5 ⊢
            refine wpAnyH_ready (rs := [6]) (by kernel_rfl) (by simp) ?_
            refine AllReadyH.cons rfl (fun K hK => ?_) AllReadyH.nil
            rw [if_pos (by rfl)]
            refine wp_store_row _ _ _ rfl g5 #[.int .u64 r0, .int .u64 r1, .int .u64 r2, .int .u64 r3, .int .u64 s0, .int .u64 s1, .int .u64 s2, .int .u64 s3] rfl rfl _ zlit64 hz6 hst rfl (by kernel_rfl) ?_
            have hz9 : (y6.setRow g5 #[.int .u64 r0, .int .u64 r1, .int .u64 r2, .int .u64 r3, .int .u64 s0, .int .u64 s1, .int .u64 s2, .int .u64 s3]).heap[g5]? = some (.cells #[.int .u64 r0, .int .u64 r1, .int .u64 r2, .int .u64 r3, .int .u64 s0, .int .u64 s1, .int .u64 s2, .int .u64 s3] 34 (0, 0)) := setRow_heap _ _ _ _ _ _ hz6
            refine hK.out _ _ ⟨range_other ra6 (by have := HS3.out; omega), range_other rb6 (by have := HS3.out; omega)⟩ (fun _ => ?_)
            clear hK K
            refine wpAnyH_done (by kernel_rfl) ?_ _
            (try go_simp)
            (try go_wp2_with fail)
            go_meet
            exact ⟨g5, rfl, hg5, hz9, below_setRow hB6 hg5 _⟩
          · rw [if_pos (by rfl)]
            go_simp
            have ra5 : (w4.alloc (.cells zlit64 34)).rangeAt w.heap.size 0 L0 := range_keep ((Below.refl _ _).alloc (Nat.le_refl _) _) ra4
            have rb5 : (w4.alloc (.cells zlit64 34)).rangeAt (w.heap.size + 1) 0 L1 := range_keep ((Below.refl _ _).alloc (Nat.le_refl _) _) rb4
            have hB5 : Below w3.heap.size w3 (w4.alloc (.cells zlit64 34)) := hB4.alloc hB4.size _
            have hz5 : (w4.alloc (.cells zlit64 34)).heap[w4.heap.size]? = some (.cells zlit64 34 (0, 0)) := heap_alloc_new _ _
            have hg5 : w3.heap.size ≤ w4.heap.size := hB4.size
            refine hK.out _ _ ⟨ra5, rb5⟩ (fun _ => ?_)
            clear hK K
            generalize w4.alloc (.cells zlit64 34) = y5 at ra5 rb5 hB5 hz5 ⊢
            generalize w4.heap.size = g5 at hz5 hg5 ⊢
            refine wpAnyH_ready (rs := [3]) (by kernel_rfl) (by simp) ?_
            refine AllReadyH.cons rfl (fun K hK => ?_) AllReadyH.nil
            rw [if_pos (by rfl)]
            go_simp
            (with_reducible refine (HUB'.out _).mono ?_)
            rintro e w6 ⟨rfl, hb6⟩
            have ra6 := range_keep hb6 ra5
            have rb6 := range_keep hb6 rb5
            have hB6 : Below w3.heap.size w3 w6 := hB5.trans (hb6.mono hB5.size)
            have hz6 : w6.heap[g5]? = some (.cells zlit64 34 (0, 0)) := (hb6.block g5 (Array.getElem?_eq_some_iff.1 hz5).1).trans hz5
            refine hK.out _ _ ⟨ra6, rb6⟩ (fun _ => ?_)
            clear hK K hb6
            refine wpAnyH_take (i := 4) (v := .agg #[.int .u64 r0, .int .u64 r1, .int .u64 r2, .int .u64 r3, .int .u64 s0, .int .u64 s1, .int .u64 s2, .int .u64 s3]) rfl (by kernel_rfl) (by kernel_rfl) (by kernel_rfl) (fun _ _ _ h => h) (Or.inl ⟨by rfl, fun _ _ => by go_simp⟩) ⟨ra6, rb6⟩ ?_
            simp only [Act.put, List.setIfInBounds_toArray]
            refine wpAnyH_ready (rs := [6]) (by kernel_rfl) (by simp) ?_
            refine AllReadyH.cons rfl (fun K hK => ?_) AllReadyH.nil
            rw [if_pos (by rfl)]
            refine wp_store_row _ _ _ rfl g5 #[.int .u64 r0, .int .u64 r1, .int .u64 r2, .int .u64 r3, .int .u64 s0, .int .u64 s1, .int .u64 s2, .int .u64 s3] rfl rfl _ zlit64 hz6 hst rfl (by kernel_rfl) ?_
            have hz9 : (w6.setRow g5 #[.int .u64 r0, .int .u64 r1, .int .u64 r2, .int .u64 r3, .int .u64 s0, .int .u64 s1, .int .u64 s2, .int .u64 s3]).heap[g5]? = some (.cells #[.int .u64 r0, .int .u64 r1, .int .u64 r2, .int .u64 r3, .int .u64 s0, .int .u64 s1, .int .u64 s2, .int .u64 s3] 34 (0, 0)) := setRow_heap _ _ _ _ _ _ hz6
            refine hK.out _ _ ⟨range_other ra6 (by have := HS3.out; omega), range_other rb6 (by have := HS3.out; omega)⟩ (fun _ => ?_)
            clear hK K
            refine wpAnyH_done (by kernel_rfl) ?_ _
            (try go_simp)
            (try go_wp2_with fail)
            go_meet
            exact ⟨g5, rfl, hg5, hz9, below_setRow hB6 hg5 _⟩
        · rw [if_pos (by rfl)]
          go_simp
          have ra4 : (y3.alloc (.cells zlit64 34)).rangeAt w.heap.size 0 L0 := range_keep ((Below.refl _ _).alloc (Nat.le_refl _) _) ra3
          have rb4 : (y3.alloc (.cells zlit64 34)).rangeAt (w.heap.size + 1) 0 L1 := range_keep ((Below.refl _ _).alloc (Nat.le_refl _) _) rb3
          have hB4 : Below w3.heap.size w3 (y3.alloc (.cells zlit64 34)) := hB3.alloc hB3.size _
          have hz4 : (y3.alloc (.cells zlit64 34)).heap[y3.heap.size]? = some (.cells zlit64 34 (0, 0)) := heap_alloc_new _ _
          have hg5 : w3.heap.size ≤ y3.heap.size := hB3.size
          refine hK.out _ _ ⟨ra4, rb4⟩ (fun _ => ?_)
          clear hK K
          generalize y3.alloc (.cells zlit64 34) = y4 at ra4 rb4 hB4 hz4 ⊢
          generalize y3.heap.size = g5 at hz4 hg5 ⊢
          refine wpAnyH_ready (rs := [1]) (by kernel_rfl) (by simp) ?_
          refine AllReadyH.cons rfl (fun K hK => ?_) AllReadyH.nil
          rw [if_pos (by rfl)]
          go_simp
          (with_reducible refine (HUA'.out _).mono ?_)
          rintro e w5 ⟨rfl, hb5⟩
          have ra5 := range_keep hb5 ra4
          have rb5 := range_keep hb5 rb4
          have hB5 : Below w3.heap.size w3 w5 := hB4.trans (hb5.mono hB4.size)
          have hz5 : w5.heap[g5]? = some (.cells zlit64 34 (0, 0)) := (hb5.block g5 (Array.getElem?_eq_some_iff.1 hz4).1).trans hz4
          refine hK.out _ _ ⟨ra5, rb5⟩ (fun _ => ?_)
          clear hK K hb5
          refine wpAnyH_ready (rs := [3]) (by kernel_rfl) (by simp) ?_
          refine AllReadyH.cons rfl (fun K hK => ?_) AllReadyH.nil
          rw [if_pos (by rfl)]
          go_simp
          (with_reducible refine (HUB'.out _).mono ?_)
          rintro e w6 ⟨rfl, hb6⟩
          have ra6 := range_keep hb6 ra5
          have rb6 := range_keep hb6 rb5
          have hB6 : Below w3.heap.size w3 w6 := hB5.trans (hb6.mono hB5.size)
          have hz6 : w6.heap[g5]? = some (.cells zlit64 34 (0, 0)) := (hb6.block g5 (Array.getElem?_eq_some_iff.1 hz5).1).trans hz5
          refine hK.out _ _ ⟨ra6, rb6⟩ (fun _ => ?_)
          clear hK K hb6
          refine wpAnyH_take (i := 4) (v := .agg #[.int .u64 r0, .int .u64 r1, .int .u64 r2, .int .u64 r3, .int .u64 s0, .int .u64 s1, .int .u64 s2, .int .u64 s3]) rfl (by kernel_rfl) (by kernel_rfl) (by kernel_rfl) (fun _ _ _ h => h) (Or.inl ⟨by rfl, fun _ _ => by go_simp⟩) ⟨ra6, rb6⟩ ?_
          simp only [Act.put, List.setIfInBounds_toArray]
          refine wpAnyH_ready (rs := [6]) (by kernel_rfl) (by simp) ?_
          refine AllReadyH.cons rfl (fun K hK => ?_) AllReadyH.nil
          rw [if_pos (by rfl)]
          refine wp_store_row _ _ _ rfl g5 #[.int .u64 r0, .int .u64 r1, .int .u64 r2, .int .u64 r3, .int .u64 s0, .int .u64 s1, .int .u64 s2, .int .u64 s3] rfl rfl _ zlit64 hz6 hst rfl (by kernel_rfl) ?_
          have hz9 : (w6.setRow g5 #[.int .u64 r0, .int .u64 r1, .int .u64 r2, .int .u64 r3, .int .u64 s0, .int .u64 s1, .int .u64 s2, .int .u64 s3]).heap[g5]? = some (.cells #[.int .u64 r0, .int .u64 r1, .int .u64 r2, .int .u64 r3, .int .u64 s0, .int .u64 s1, .int .u64 s2, .int .u64 s3] 34 (0, 0)) := setRow_heap _ _ _ _ _ _ hz6
          refine hK.out _ _ ⟨range_other ra6 (by have := HS3.out; omega), range_other rb6 (by have := HS3.out; omega)⟩ (fun _ => ?_)
          clear hK K
          refine wpAnyH_done (by kernel_rfl) ?_ _
          (try go_simp)
          (try go_wp2_with fail)
          go_meet
          exact ⟨g5, rfl, hg5, hz9, below_setRow hB6 hg5 _⟩
      case rest =>
        obtain ⟨g5, rfl, hg5, hz5, hB5⟩ := hcut
        have hBw : Below w.heap.size w wc := HB3.out.trans (hB5.mono HB3.out.size)
        have hga : wc.heap[w.heap.size]? = some (.cells L0.toArray 24 (0, 0)) := (hB5.block _ (by have := HS3.out; omega)).trans HGa.out
        have hgb : wc.heap[w.heap.size + 1]? = some (.cells L1.toArray 24 (0, 0)) := (hB5.block _ (by have := HS3.out; omega)).trans HGb.out
        have hlt5 : g5 < wc.heap.size := (Array.getElem?_eq_some_iff.1 hz5).1
        have hsp : ∀ W, Calls Try.prog 18 #[.agg #[.int .u64 r0, .int .u64 r1, .int .u64 r2, .int .u64 r3, .int .u64 s0, .int .u64 s1, .int .u64 s2, .int .u64 s3]] W (SigOut W (be b0) (lowOf (be b1))) := fun W => by
          have := c_sigBytes (Int.le_of_lt HR0.out.1) (Int.lt_trans HR0.out.2 fn_lt) HR1.out W
          rw [HDr.out, HDs.out] at this
          exact this
        have hld : (Instr.loadAt 34 (.pointer (some ⟨g5, 0, none⟩))).run Try.prog wc = .ok (.agg #[.int .u64 r0, .int .u64 r1, .int .u64 r2, .int .u64 r3, .int .u64 s0, .int .u64 s1, .int .u64 s2, .int .u64 s3]) wc := run_loadAtAgg (cs := (#[.int .u64 r0, .int .u64 r1, .int .u64 r2, .int .u64 r3, .int .u64 s0, .int .u64 s1, .int .u64 s2, .int .u64 s3]).toList) (by kernel_rfl) (by kernel_rfl) hz5 rfl
        have HSp := Lib.hid hsp
        have HBc := Lib.hid hBw
        have HCa := Lib.hid hga
        have HCb := Lib.hid hgb
        have HZ5 := Lib.hid hz5
        have HG5 := Lib.hid hg5
        have HLt5 := Lib.hid hlt5
        have hs3 := HS3.out
        have HSc : Hid (w.heap.size + 2 ≤ wc.heap.size) := by show w.heap.size + 2 ≤ wc.heap.size; have := hB5.size; omega
        clear hsp hBw hga hgb hz5 hB5 hld hg5 hlt5 hs3 HI HUA HUB HUA' HUB' HA HB HGa HGb HB3
        have HRl := Lib.hid (lowOf_range HR1.out)
        go_wp2_with (first
          | ((with_reducible refine (show wpList _ _ _ ((⟨some 23, _, _, _, _, _⟩ : Oper) :: _) _ _ from ?_)); refine wpList_runw (by go_simp) (load_op (run_loadAtAgg (cs := L0) (by kernel_rfl) (by kernel_rfl) HCa.out HN0.out)) ?_)
          | ((with_reducible refine (show wpList _ _ _ ((⟨some 24, _, _, _, _, _⟩ : Oper) :: _) _ _ from ?_)); refine wpList_runw (by go_simp) (load_op (run_loadAtAgg (cs := L1) (by kernel_rfl) (by kernel_rfl) HCb.out HN1.out)) ?_)
          | (go_at_call 16; refine (HI'.out _).mono ?_; rintro e w5 ⟨c, d, hcc, hcd, ⟨v, rfl, hov⟩, hb5⟩
             obtain ⟨A6, c6, rfl, hc6, -⟩ := own_slice hov
             have HR6 := Lib.hid (Reads.of_own hov)
             have HCc := Lib.hid hcc
             have HCd := Lib.hid hcd
             have HB5 := Lib.hid hb5
             have HZ6 := Lib.hid ((hb5.block _ HLt5.out).trans HZ5.out)
             have HC6 := Lib.hid hc6
             clear hov hcc hcd hb5 hc6)
          | ((with_reducible refine (show wpList _ _ _ ((⟨some 27, _, _, _, _, _⟩ : Oper) :: _) _ _ from ?_)); refine wpList_runw (by go_simp) (load_op (run_loadAtAgg (cs := (#[.int .u64 r0, .int .u64 r1, .int .u64 r2, .int .u64 r3, .int .u64 s0, .int .u64 s1, .int .u64 s2, .int .u64 s3]).toList) (by kernel_rfl) (by kernel_rfl) HZ6.out rfl)) ?_)
          | (go_at_call 18; refine (HSp.out _).mono ?_; rintro e w6 ⟨c', d', hcc', hcd', ⟨v', rfl, hov'⟩, hb6⟩
             obtain rfl := canon_unique HCc.out hcc'
             obtain rfl := canon_unique HCd.out hcd'
             obtain ⟨A7, c7, rfl, hc7, -⟩ := own_slice hov'
             have HR7 := Lib.hid (Reads.of_own hov')
             have HB6 := Lib.hid hb6
             have hn72 : (sigB c d).length < 2147483648 := by
               have h1 := HCc.out.len (Int.lt_trans HR0.out.2 fn_lt)
               have h2 := HCd.out.len (Int.lt_trans HRl.out.2 fn_lt)
               rw [sigB_length]
               omega
             have HN72 := Lib.hid hn72
             have HR6' := Lib.hid ((HR6.out.below hb6).more hb6.size)
             clear hov' hcc' hcd' hb6 hc7 hn72)
          | (go_at_call 17; refine (c_same _ _ _ _ _ _ _ _ _ HN72.out HN72.out HR6'.out HR7.out).mono ?_; rintro e w7 ⟨rfl, hb7⟩; rw [decide_eq_true rfl]
             have HB7 := Lib.hid hb7
             clear hb7)
          | (go_at_call 12; refine (impl_readsig _ c6 (sigB c d) A6 _ HN72.out HC6.out ((HR6'.out.below HB7.out).more HB7.out.size) (sigB_dg HCc.out HCd.out (Int.lt_trans HR0.out.2 fn_lt) (Int.lt_trans HRl.out.2 fn_lt))).mono ?_; rintro e w8 ⟨h8, hb8⟩
             obtain ⟨hok, hR, hS⟩ := sigB_ok HCc.out HCd.out HR0.out HRl.out
             obtain rfl : e = .returned (.tuple #[.agg ((byt (be b0)).map (Value.int .u8)).toArray, .agg ((byt (lowOf (be b1))).map (Value.int .u8)).toArray, .int .i64 0]) := by
               rcases h8 with ⟨_, h⟩ | ⟨h, _⟩
               · rw [hR, hS] at h; exact h
               · exact absurd hok h
             refine Halt.of ?_))
        rename_i K1 hK1 K hK
        show K _ _
        refine hK _ _ ?_
        have B8 : Below wc.heap.size wc w8 := ((HB5.out.trans (HB6.out.mono HB5.out.size)).trans (HB7.out.mono (Nat.le_trans HB5.out.size HB6.out.size))).trans (hb8.mono (Nat.le_trans HB5.out.size (Nat.le_trans HB6.out.size HB7.out.size)))
        have hsc := HSc.out
        have q0 : w8.heap[w.heap.size]? = some (.cells (b0.map (Value.int .u8)).toArray 24 (0, 0)) := by rw [← HL0.out]; exact (B8.block _ (by omega)).trans HCa.out
        have q1 : w8.heap[w.heap.size + 1]? = some (.cells (b1.map (Value.int .u8)).toArray 24 (0, 0)) := by rw [← HL1.out]; exact (B8.block _ (by omega)).trans HCb.out
        have q5 := (B8.block _ HLt5.out).trans HZ5.out
        have hs3 := HS3.out
        have hg5 := HG5.out
        have hBw : Below w.heap.size w w8 := HBc.out.trans (B8.mono HBc.out.size)
        have hl := sbBase_length Hl0.out Hl1.out
        have ht := agg_tup3 (z := 0) [(w.heap.size, 0), (w.heap.size + 1, 0), (g5, 0)] (x := byt (be b0)) (y := byt (lowOf (be b1))) (E := sbBase b0 b1) (pre := b0 ++ b1 ++ (dig 64 4 (be b0) ++ dig 64 4 (be b1))) (n := 72) rfl (by simp [Hl0.out, Hl1.out, dig_length]) (byt_length _) (byt_length _)
        have k0 := kcells_at .u8 [(w.heap.size, 0), (w.heap.size + 1, 0), (g5, 0)] b0 [] (b1 ++ (dig 64 4 (be b0) ++ dig 64 4 (be b1)) ++ (byt (be b0) ++ byt (lowOf (be b1)))) (sbBase b0 b1) 0 32 (by simp [sbBase]) rfl Hl0.out
        have k1 := kcells_at .u8 [(w.heap.size, 0), (w.heap.size + 1, 0), (g5, 0)] b1 b0 ((dig 64 4 (be b0) ++ dig 64 4 (be b1)) ++ (byt (be b0) ++ byt (lowOf (be b1)))) (sbBase b0 b1) 32 32 (by simp [sbBase]) Hl0.out Hl1.out
        have k2 := kcells_at .u64 [(w.heap.size, 0), (w.heap.size + 1, 0), (g5, 0)] (dig 64 4 (be b0) ++ dig 64 4 (be b1)) (b0 ++ b1) (byt (be b0) ++ byt (lowOf (be b1))) (sbBase b0 b1) 64 8 (by simp [sbBase]) (by simp [Hl0.out, Hl1.out]) (by simp [dig_length])
        refine tail_list mixed (Γ := G_sb) (fun e he => by
            simp only [List.mem_cons, List.not_mem_nil, or_false] at he
            rcases he with rfl | rfl
            · exact m_uof
            · exact m_low) (t := t_sb) (res := [.bool]) (nds := []) (ps := [q_sb0, q_sb1, q_sb2]) (by kernel_rfl)
          (base := sbBase b0 b1) (bs := [(w.heap.size, 0), (w.heap.size + 1, 0), (g5, 0)]) hl rfl (fun _ h => by cases h) rfl rfl ⟨rfl, rfl, rfl, (by exact congrArg some ht.symm), trivial⟩ ?_ ?_ hK1 ?_
        · intro o so hso
          match o with
          | 0 =>
            obtain rfl := Option.some.inj hso
            exact ObjOk.whole q0 rfl rfl k0
          | 1 =>
            obtain rfl := Option.some.inj hso
            exact ObjOk.whole q1 rfl rfl k1
          | 2 =>
            obtain rfl := Option.some.inj hso
            refine ObjOk.whole (cs := (#[.int .u64 r0, .int .u64 r1, .int .u64 r2, .int .u64 r3, .int .u64 s0, .int .u64 s1, .int .u64 s2, .int .u64 s3]).toList) q5 rfl rfl ?_
            exact k2.trans (by rw [HDr.out, HDs.out]; rfl)
          | o + 3 => cases hso
        · intro o o' so so' hoo h1 h2 h3
          match o, o' with
          | 0, 1 => exact .inl (by show w.heap.size ≠ w.heap.size + 1; omega)
          | 1, 0 => exact .inl (by show w.heap.size + 1 ≠ w.heap.size; omega)
          | 0, 2 => exact .inl (by show w.heap.size ≠ g5; omega)
          | 2, 0 => exact .inl (by show g5 ≠ w.heap.size; omega)
          | 1, 2 => exact .inl (by show w.heap.size + 1 ≠ g5; omega)
          | 2, 1 => exact .inl (by show g5 ≠ w.heap.size + 1; omega)
          | 0, 0 => exact absurd rfl hoo
          | 1, 1 => exact absurd rfl hoo
          | 2, 2 => exact absurd rfl hoo
          | o + 3, _ => cases h1
          | _, o' + 3 => cases h2
        · intro p hp hasm w' hfr
          refine ⟨congrArg Ending.returned (sb_true Hl0.out hd0 Hl1.out hd1 HR1.out hp hasm), hBw.trans (hfr.below (by have := hBw.size; omega) fun k j hk ⟨o, so, hso, hw, hk', _⟩ => ?_)⟩
          match o with
          | 0 => have : w.heap.size = k := hk'; omega
          | 1 => have : w.heap.size + 1 = k := hk'; omega
          | 2 => have : g5 = k := hk'; omega
          | o + 3 => cases hso

end Go.Proofs.Ytfeancgmmonebaa.Sx

