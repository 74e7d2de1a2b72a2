/-
  Reading a signature's bytes (DER): the walk where the lengths fit. Conditions: none; each theorem bears its own.
-/
import Derived.Test.YtfeancgmmonebaaDoorMgo
namespace Go.Proofs.YtfeancgmmonebaaDoor.Sx
open Go Go.Proofs Go.RowKit

/-- What reading gives: a pointer to both numbers, or an error. -/
def DerPost (Q : Prop) (R S : Int) (w : World) (e : Ending) (w' : World) : Prop :=
  ((Q ∧ ∃ b o, e = .returned (.tuple #[.pointer (some ⟨b, o, none⟩), .nilIface]) ∧ w.heap.size ≤ b ∧ ∀ (j : Nat) v, ((dig 32 8 R ++ dig 32 8 S).map (Value.int .u32))[j]? = some v → w'.cell? ⟨b, o + j, none⟩ = some v) ∨
    (¬ Q ∧ ∃ t x, e = .returned (.tuple #[.pointer none, .iface t x]))) ∧ Below w.heap.size w w'

def bit128 (x : Int) : Prop := (x < 128 ∧ bits .and .u8 x 128 = 0) ∨ (128 ≤ x ∧ bits .and .u8 x 128 = 128)
theorem bit128_of {x : Int} (h0 : 0 ≤ x) (h1 : x < 256) : bit128 x := by
  unfold bit128
  rw [and128 h0 h1]
  split <;> omega

set_option maxRecDepth 1000000 in
set_option maxHeartbeats 8000000 in
theorem der_main (n c rl sl : Nat) (ad : Addr) (w : World) (x0 x1 x2 x4 x5 xs y0 y1 R S : Int) (C : DerCells w ad n rl sl x0 x1 x2 x4 x5 xs y0 y1) (hn8 : 8 ≤ n) (hn72 : n ≤ 72) (hc : n ≤ c) (htot : n = 6 + rl + sl) (hr0 : 0 < rl) (hs0 : 0 < sl)
    (b4 : bit128 x4) (b5 : bit128 x5) (c0 : bit128 y0) (c1 : bit128 y1)
    (hR : Rest w w.heap.size (.slice (some (ad.add 4)) rl (c - 4)) R) (hS : Rest w w.heap.size (.slice (some (ad.add (4 + rl + 2))) sl (c - (4 + rl + 2))) S) :
    Calls Tryd.prog 21 #[.slice (some ad) n c] w (DerPost (DerAt n rl sl x0 x1 x2 x4 x5 xs y0 y1 R S) R S w) := by
  have HC := Lib.hid C
  have HB4 := Lib.hid b4
  have HB5 := Lib.hid b5
  have HC0 := Lib.hid c0
  have HC1 := Lib.hid c1
  clear b4 b5 c0 c1
  have HR := Lib.hid hR
  have HS := Lib.hid hS
  clear hR hS
  obtain ⟨k0, k1, k2, k3, k4, k5, m0, m1, m2, m3, b1, b1', b3, bs⟩ := C
  have h4 : 4 + (rl : Int) < n := by omega
  have h5 : 4 + (rl : Int) + 1 < n := by omega
  have h6 : 4 + (rl : Int) + 1 + 1 < n := by omega
  have m0 := m0 (by omega)
  have m1 := m1 (by omega)
  have m2 := m2 (by omega)
  have hq1 : ((4 + (rl : Int) + 1 + 1 + sl != n) = false) := by simp; omega
  have hrz : ((rl : Int) == 0) = false := by simp; omega
  have hsz : ((sl : Int) == 0) = false := by simp; omega
  have HM3 := Lib.hid m3
  have HT := Lib.hid htot
  clear htot m3
  go_enter Tryd.func21, Tryd.ntmps21
  go_upto_region 37 with ((with_reducible refine (c_eserr _ _ _).mono ?_); rintro e w1 ⟨⟨x, rfl⟩, hb1⟩)
  all_goals (try (go_ret2; refine ⟨.inr ⟨fun q => ?_, _, _, rfl⟩, hb1⟩; obtain ⟨a0, a1, a2, a3, a4, a5, a6, a7, a8, a9, a10, a11, a12, a13, a14⟩ := q; have e4 := HB4.out; unfold bit128 at e4; simp only [bne_iff_ne, ne_eq, bne_eq_false_iff_eq, beq_eq_false_iff_ne] at *; omega))
  obtain ⟨q1, hq1'⟩ : ∃ q : Bool, q = decide (1 < rl ∧ x4 = 0 ∧ x5 < 128) := ⟨_, rfl⟩
  have HQ1 := Lib.hid hq1'
  clear hq1'
  go_cut [135] (fun s135 wx => w = wx ∧ s135 = .bool q1)
  case first =>
    go_wp2_with fail
    all_goals (go_meet; refine ⟨rfl, congrArg Value.bool ?_⟩; rw [HQ1.out]; symm)
    · rename_i g1 g2
      have e5 := HB5.out
      unfold bit128 at e5
      rcases e5 with ⟨e5, e5'⟩ | ⟨e5, e5'⟩ <;> rw [e5'] <;> simp at * <;> omega
    · simp at *; omega
    · simp at *; omega
  case rest =>
    obtain ⟨rfl, rfl⟩ := hcut
    cases q1
    case true =>
      go_wp2_with ((with_reducible refine (c_eserr _ _ _).mono ?_); rintro e w1 ⟨⟨x, rfl⟩, hb1⟩)
      go_ret2
      refine ⟨.inr ⟨fun q => ?_, _, _, rfl⟩, hb1⟩
      exact q.r2 (of_decide_eq_true HQ1.out.symm)
    case false =>
      go_upto_region 49 with ((with_reducible refine (c_eserr _ _ _).mono ?_); rintro e w1 ⟨⟨x, rfl⟩, hb1⟩)
      all_goals (try (go_ret2; refine ⟨.inr ⟨fun q => ?_, _, _, rfl⟩, hb1⟩; obtain ⟨a0, a1, a2, a3, a4, a5, a6, a7, a8, a9, a10, a11, a12, a13, a14⟩ := q; have e4 := HC0.out; unfold bit128 at e4; simp only [bne_iff_ne, ne_eq, bne_eq_false_iff_eq, beq_eq_false_iff_ne] at *; omega))
      obtain ⟨q2, hq2'⟩ : ∃ q : Bool, q = decide (1 < sl ∧ y0 = 0 ∧ y1 < 128) := ⟨_, rfl⟩
      have HQ2 := Lib.hid hq2'
      clear hq2'
      go_cut [178] (fun s178 wx => w = wx ∧ s178 = .bool q2)
      case first =>
        by_cases hs1 : 1 < sl
        · have m3 := HM3.out (by have := HT.out; omega)
          have h7 : 4 + (rl : Int) + 1 + 1 + 1 < n := by have := HT.out; omega
          go_wp2_with fail
          all_goals (go_meet; refine ⟨rfl, congrArg Value.bool ?_⟩; rw [HQ2.out]; symm)
          all_goals (have e5 := HC1.out; unfold bit128 at e5; rcases e5 with ⟨e5, e5'⟩ | ⟨e5, e5'⟩ <;> (try rw [e5']) <;> simp at * <;> omega)
        · have hs1' : (sl : Int) ≤ 1 := by omega
          go_wp2_with fail
          all_goals (go_meet; refine ⟨rfl, congrArg Value.bool ?_⟩; rw [HQ2.out]; symm)
          all_goals (simp at *; omega)
      case rest =>
        obtain ⟨rfl, rfl⟩ := hcut
        cases q2
        case true =>
          go_wp2_with ((with_reducible refine (c_eserr _ _ _).mono ?_); rintro e w1 ⟨⟨x, rfl⟩, hb1⟩)
          go_ret2
          refine ⟨.inr ⟨fun q => ?_, _, _, rfl⟩, hb1⟩
          exact q.s2 (of_decide_eq_true HQ2.out.symm)
        case false =>
          have hc4 : c ≠ 4 := by omega
          obtain ⟨A4, hA4⟩ : ∃ A : Option Addr, A = some (ad.add 4) := ⟨_, rfl⟩
          obtain ⟨c4, hc4'⟩ : ∃ k, k = c - 4 := ⟨_, rfl⟩
          have e52 : ∀ W, (Instr.sliceAt 22 (.slice (some ad) n c) (some (.int .i64 4)) (some (.int .i64 (4 + rl))) none).run Tryd.prog W = .ok (.slice A4 rl c4) W := fun W => by
            have := run_cut_slice (P := Tryd.prog) Tryd.underlying22 (by kernel_rfl) (some ad) n c (some 4) (some (4 + (rl : Int))) 4 (4 + rl) rfl rfl (by omega) (by omega) W
            rw [if_neg hc4, Nat.add_sub_cancel_left, ← hc4'] at this
            rw [hA4]
            exact this
          have HR' : Hid (Rest w w.heap.size (.slice A4 rl c4) R) := by rw [hA4, hc4']; exact HR.out
          clear hA4 hc4' HR hc4
          go_upto_block 0 with fail
          go_cut [25] (fun s25 wx => w = wx ∧ Trim w w.heap.size s25 R)
          case first =>
            clear e52
            go_wp2_with fail
            go_loop [25] (fun t => Rest w w.heap.size t R) (fun t => lenOf t)
            case atStart => exact HR'.out
            case round =>
              obtain ⟨A, m, c', l, rfl, hmc, hm72, hr, hd, hbe⟩ := hrel
              have HRr := Lib.hid hr
              have HRd := Lib.hid hd
              have HRe := Lib.hid hbe
              clear hr hd hbe
              by_cases hm0 : m = 0
              · subst hm0
                go_wp2_with fail
                go_meet
                exact ⟨rfl, A, 0, c', l, rfl, hmc, hm72, HRr.out, HRd.out, HRe.out, fun h => by omega⟩
              · obtain ⟨ad', y, r, hA, hl, hy⟩ := Rest.open HRr.out (by omega)
                subst hA
                subst hl
                have hm0' : (0 : Int) < m := by omega
                obtain ⟨A', hA'⟩ : ∃ A' : Option Addr, A' = if c' = 1 then some ad' else some (ad'.add 1) := ⟨_, rfl⟩
                have ec : ∀ W, (Instr.sliceAt 22 (.slice (some ad') m c') (some (.int .i64 1)) none none).run Tryd.prog W = .ok (.slice A' (m - 1) (c' - 1)) W := fun W => by rw [hA']; exact run_cut1 ad' (by omega) hmc W
                have hr2 : Reads w w.heap.size A' (m - 1) (r.map (Value.int .u8)) := by rw [hA']; exact HRr.out.tail1 hmc
                have HR2 := Lib.hid hr2
                clear hr2 hA'
                by_cases hy0 : y = 0
                · subst hy0
                  go_wp2_with fail
                  go_round
                  case rel => exact ⟨A', m - 1, c' - 1, r, rfl, by omega, by omega, HR2.out, HRd.out.tail, (be_cons_zero r).symm.trans HRe.out⟩
                  case measure => simp [lenOf]; omega
                · have hyb : (y == 0) = false := by simp [hy0]
                  go_wp2_with fail
                  go_meet
                  refine ⟨rfl, some ad', m, c', y :: r, rfl, hmc, hm72, HRr.out, HRd.out, HRe.out, fun h => ?_⟩
                  have hlen : (y :: r).length = m := by have := HRr.out.1; simpa using this
                  rw [← HRe.out]
                  exact be_big HRd.out hy0 (by simp at hlen; omega)
          case rest =>
            obtain ⟨rfl, ht⟩ := hcut
            obtain ⟨A1, mR, c1, l1, rfl, hmc1, hm72, hr1, hd1, hbe1, hbig1⟩ := ht
            have HB1 := Lib.hid hbig1
            clear hbig1 e52
            by_cases h32 : 32 < mR
            · have h32' : (32 : Int) < mR := by omega
              clear hr1 hd1 hbe1
              go_wp2_with ((with_reducible refine (c_eserr _ _ _).mono ?_); rintro e w1 ⟨⟨x, rfl⟩, hb1⟩)
              all_goals (go_ret2; refine ⟨.inr ⟨fun q => ?_, _, _, rfl⟩, ((Below.refl _ _).alloc (Nat.le_refl _) _).trans (hb1.mono (by simp))⟩)
              have h1 := HB1.out h32
              have h2 := q.R1
              unfold fn at h2
              omega
            · have h32' : (mR : Int) ≤ 32 := by omega
              have hb0 : Below w.heap.size w w := Below.refl _ _
              have hset := c_setnew (w0 := w) (w := w) 64 hb0 hmc1 (by omega) hr1 hd1
              rw [hbe1] at hset
              have hRR := be_any hd1 (by have := hr1.1; simp at this; omega)
              rw [hbe1] at hRR
              have HRR := Lib.hid hRR
              clear hr1 hd1 hbe1 hb0 hRR
              by_cases hov : fn ≤ R
              · rw [decide_eq_true hov] at hset
                have HSet := Lib.hid hset
                have HOv := Lib.hid hov
                clear hov hset
                go_upto_region 59 with fail
                go_wp2_with (first
                  | (go_at_call 34; refine HSet.out.mono ?_; rintro e w1 ⟨rfl, -, -, hs1, hb1⟩)
                  | ((with_reducible refine (c_eserr _ _ _).mono ?_); rintro e w2 ⟨⟨x, rfl⟩, hb2⟩))
                go_ret2
                exact ⟨.inr ⟨fun q => absurd q.R1 (by have := HOv.out; omega), _, _, rfl⟩, hb1.trans (hb2.mono hb1.size)⟩
              · rw [decide_eq_false hov, Int.emod_eq_of_lt HRR.out.1 (by omega)] at hset
                have HSet := Lib.hid hset
                have HOv := Lib.hid hov
                clear hov hset
                by_cases hz : R = 0
                · have HZ : Hid (decide (R = 0) = true) := decide_eq_true hz
                  have HZ2 := Lib.hid hz
                  clear hz
                  go_upto_region 59 with fail
                  go_wp2_with (first
                    | (go_at_call 34; refine HSet.out.mono ?_; rintro e w1 ⟨rfl, g1, -, hs1, hb1⟩
                       have G1 := Lib.hid g1
                       clear g1)
                    | (go_at_call 35; refine (c_sisz G1.out HRR.out.1 HRR.out.2).mono ?_; rintro e w2 ⟨rfl, hb2⟩; rw [HZ.out])
                    | ((with_reducible refine (c_eserr _ _ _).mono ?_); rintro e w3 ⟨⟨x, rfl⟩, hb3⟩))
                  go_ret2
                  exact ⟨.inr ⟨fun q => absurd q.R0 (by have := HZ2.out; omega), _, _, rfl⟩, (hb1.trans (hb2.mono hb1.size)).trans (hb3.mono (Nat.le_trans hb1.size hb2.size))⟩
                · have HZ : Hid (decide (R = 0) = false) := decide_eq_false hz
                  have HZ2 := Lib.hid hz
                  clear hz
                  go_upto_region 59 with fail
                  go_upto_region 66 with (first
                    | (go_at_call 34; refine HSet.out.mono ?_; rintro e w1 ⟨rfl, g1, -, hs1, hb1⟩
                       have G1 := Lib.hid g1
                       clear g1)
                    | (go_at_call 35; refine (c_sisz G1.out HRR.out.1 HRR.out.2).mono ?_; rintro e w2 ⟨rfl, hb2⟩; rw [HZ.out]))
                  have g2 := (hb2.block w.heap.size hs1).trans G1.out
                  have hB2 : Below w.heap.size w w2 := hb1.trans (hb2.mono hb1.size)
                  have hs2 : w.heap.size < w2.heap.size := Nat.lt_of_lt_of_le hs1 hb2.size
                  have G2 := Lib.hid g2
                  have HB2 := Lib.hid hB2
                  clear g2 hB2 G1 hb1 hb2 hs1 HSet
                  have hlow : c ≠ 4 + rl + 2 := by have := HT.out; omega
                  have htop : 4 + rl + 2 + sl ≤ c := by have := HT.out; omega
                  obtain ⟨A5, hA5⟩ : ∃ A : Option Addr, A = some (ad.add (4 + rl + 2)) := ⟨_, rfl⟩
                  obtain ⟨c5, hc5'⟩ : ∃ k, k = c - (4 + rl + 2) := ⟨_, rfl⟩
                  have e66 : ∀ W, (Instr.sliceAt 22 (.slice (some ad) n c) (some (.int .i64 (4 + rl + 1 + 1))) (some (.int .i64 (4 + rl + 1 + 1 + sl))) none).run Tryd.prog W = .ok (.slice A5 sl c5) W := fun W => by
                    have := run_cut_slice (P := Tryd.prog) Tryd.underlying22 (by kernel_rfl) (some ad) n c (some (4 + (rl : Int) + 1 + 1)) (some (4 + (rl : Int) + 1 + 1 + sl)) (4 + rl + 2) (4 + rl + 2 + sl) (by simp <;> omega) (by simp <;> omega) (by omega) htop W
                    rw [if_neg hlow, Nat.add_sub_cancel_left, ← hc5'] at this
                    rw [hA5]
                    exact this
                  have HS' : Hid (Rest w w.heap.size (.slice A5 sl c5) S) := by rw [hA5, hc5']; exact HS.out
                  clear hA5 hc5' HS hlow htop
                  have HS2 : Hid (Rest w2 w.heap.size (.slice A5 sl c5) S) := by
                    obtain ⟨A, m, c', l, e, h1, h2, h3, h4⟩ := HS'.out
                    exact ⟨A, m, c', l, e, h1, h2, h3.below HB2.out, h4⟩
                  clear HS'
                  go_upto_block 2 with fail
                  go_cut [31] (fun s31 wx => w2 = wx ∧ Trim w2 w.heap.size s31 S)
                  case first =>
                    clear e66
                    go_wp2_with fail
                    go_loop [31] (fun t => Rest w2 w.heap.size t S) (fun t => lenOf t)
                    case atStart => exact HS2.out
                    case round =>
                      obtain ⟨A, m, c', l, rfl, hmc, hm72, hr, hd, hbe⟩ := hrel
                      have HRr := Lib.hid hr
                      have HRd := Lib.hid hd
                      have HRe := Lib.hid hbe
                      clear hr hd hbe
                      by_cases hm0 : m = 0
                      · subst hm0
                        go_wp2_with fail
                        go_meet
                        exact ⟨rfl, A, 0, c', l, rfl, hmc, hm72, HRr.out, HRd.out, HRe.out, fun h => by omega⟩
                      · obtain ⟨ad', y, r, hA, hl, hy⟩ := Rest.open HRr.out (by omega)
                        subst hA
                        subst hl
                        have hm0' : (0 : Int) < m := by omega
                        obtain ⟨A', hA'⟩ : ∃ A' : Option Addr, A' = if c' = 1 then some ad' else some (ad'.add 1) := ⟨_, rfl⟩
                        have ec : ∀ W, (Instr.sliceAt 22 (.slice (some ad') m c') (some (.int .i64 1)) none none).run Tryd.prog W = .ok (.slice A' (m - 1) (c' - 1)) W := fun W => by rw [hA']; exact run_cut1 ad' (by omega) hmc W
                        have hr2 : Reads w2 w.heap.size A' (m - 1) (r.map (Value.int .u8)) := by rw [hA']; exact HRr.out.tail1 hmc
                        have HR2 := Lib.hid hr2
                        clear hr2 hA'
                        by_cases hy0 : y = 0
                        · subst hy0
                          go_wp2_with fail
                          go_round
                          case rel => exact ⟨A', m - 1, c' - 1, r, rfl, by omega, by omega, HR2.out, HRd.out.tail, (be_cons_zero r).symm.trans HRe.out⟩
                          case measure => simp [lenOf]; omega
                        · have hyb : (y == 0) = false := by simp [hy0]
                          go_wp2_with fail
                          go_meet
                          refine ⟨rfl, some ad', m, c', y :: r, rfl, hmc, hm72, HRr.out, HRd.out, HRe.out, fun h => ?_⟩
                          have hlen : (y :: r).length = m := by have := HRr.out.1; simpa using this
                          rw [← HRe.out]
                          exact be_big HRd.out hy0 (by simp at hlen; omega)
                  case rest =>
                    obtain ⟨rfl, ht⟩ := hcut
                    obtain ⟨A2, mS, c2, l2, rfl, hmc2, hm72', hr2, hd2, hbe2, hbig2⟩ := ht
                    have HBS := Lib.hid hbig2
                    clear hbig2 e66
                    by_cases h32s : 32 < mS
                    · have h32s' : (32 : Int) < mS := by omega
                      clear hr2 hd2 hbe2
                      go_wp2_with ((with_reducible refine (c_eserr _ _ _).mono ?_); rintro e w3 ⟨⟨x, rfl⟩, hb3⟩)
                      all_goals (go_ret2; refine ⟨.inr ⟨fun q => ?_, _, _, rfl⟩, (HB2.out.alloc HB2.out.size _).trans (hb3.mono (by have := HB2.out.size; simp; omega))⟩)
                      have h1 := HBS.out h32s
                      have h2 := q.S1
                      unfold fn at h2
                      omega
                    · have h32s' : (mS : Int) ≤ 32 := by omega
                      have hset := c_setnew (w0 := w2) (w := w2) 64 (Below.refl _ _) hmc2 (by omega) (hr2.more (B' := w2.heap.size) (by omega)) hd2
                      rw [hbe2] at hset
                      have hRR := be_any hd2 (by have := hr2.1; simp at this; omega)
                      rw [hbe2] at hRR
                      have HSS := Lib.hid hRR
                      clear hr2 hd2 hbe2 hRR
                      by_cases hov : fn ≤ S
                      · rw [decide_eq_true hov] at hset
                        have HSet := Lib.hid hset
                        have HOv := Lib.hid hov
                        clear hov hset
                        go_upto_region 73 with fail
                        go_wp2_with (first
                          | (go_at_call 34; refine HSet.out.mono ?_; rintro e w3 ⟨rfl, -, -, hs3, hb3⟩)
                          | ((with_reducible refine (c_eserr _ _ _).mono ?_); rintro e w4 ⟨⟨x, rfl⟩, hb4⟩))
                        go_ret2
                        exact ⟨.inr ⟨fun q => absurd q.S1 (by have := HOv.out; omega), _, _, rfl⟩, HB2.out.trans ((hb3.trans (hb4.mono hb3.size)).mono HB2.out.size)⟩
                      · rw [decide_eq_false hov, Int.emod_eq_of_lt HSS.out.1 (by omega)] at hset
                        have HSet := Lib.hid hset
                        have HOs := Lib.hid hov
                        clear hov hset
                        by_cases hz : S = 0
                        · have HZs : Hid (decide (S = 0) = true) := decide_eq_true hz
                          have HZs2 := Lib.hid hz
                          clear hz
                          go_upto_region 73 with fail
                          go_wp2_with (first
                            | (go_at_call 34; refine HSet.out.mono ?_; rintro e w3 ⟨rfl, g3, -, hs3, hb3⟩
                               have G3 := Lib.hid g3
                               clear g3)
                            | (go_at_call 35; refine (c_sisz G3.out HSS.out.1 HSS.out.2).mono ?_; rintro e w4 ⟨rfl, hb4⟩; rw [HZs.out])
                            | ((with_reducible refine (c_eserr _ _ _).mono ?_); rintro e w5 ⟨⟨x, rfl⟩, hb5⟩))
                          go_ret2
                          exact ⟨.inr ⟨fun q => absurd q.S0 (by have := HZs2.out; omega), _, _, rfl⟩, HB2.out.trans (((hb3.trans (hb4.mono hb3.size)).trans (hb5.mono (Nat.le_trans hb3.size hb4.size))).mono HB2.out.size)⟩
                        · have HZs : Hid (decide (S = 0) = false) := decide_eq_false hz
                          have HZs2 := Lib.hid hz
                          clear hz
                          go_upto_region 73 with fail
                          go_wp2_with (first
                            | (go_at_call 34; refine HSet.out.mono ?_; rintro e w3 ⟨rfl, g3, hk3, hs3, hb3⟩
                               have G3 := Lib.hid g3
                               have HK3 := Lib.hid hk3
                               clear g3 hk3)
                            | (go_at_call 35; refine (c_sisz G3.out HSS.out.1 HSS.out.2).mono ?_; rintro e w4 ⟨rfl, hb4⟩; rw [HZs.out]
                               have G4 := Lib.hid ((hb4.block w2.heap.size hs3).trans G3.out)
                               have GR4 := Lib.hid ((hb4.block w.heap.size (Nat.lt_trans hs2 hs3)).trans ((HK3.out w.heap.size hs2).trans G2.out)))
                            | (go_at_call 23; refine (c_newsig GR4.out G4.out (Nat.ne_of_lt hs2)).mono ?_; rintro e w5 ⟨⟨b, o, rfl, hbl, hcells⟩, hb5⟩
                               have HCells := Lib.hid hcells
                               clear hcells))
                          go_ret2
                          have hz1 := HB2.out.size
                          have hz3 := hb3.size
                          have hz4 := hb4.size
                          refine ⟨.inl ⟨?_, b, o, rfl, by omega, HCells.out⟩, HB2.out.trans (((hb3.trans (hb4.mono hb3.size)).trans (hb5.mono (Nat.le_trans hb3.size hb4.size))).mono HB2.out.size)⟩
                          have e4 := HB4.out
                          have e0 := HC0.out
                          have f1 := HT.out
                          have f2 := HZ2.out
                          have f3 := HZs2.out
                          have f4 := HOv.out
                          have f5 := HOs.out
                          have f6 := HRR.out.1
                          have f7 := HSS.out.1
                          have f8 : ¬ (1 < rl ∧ x4 = 0 ∧ x5 < 128) := of_decide_eq_false HQ1.out.symm
                          have f9 : ¬ (1 < sl ∧ y0 = 0 ∧ y1 < 128) := of_decide_eq_false HQ2.out.symm
                          unfold bit128 at e4 e0
                          refine ⟨?_, ?_, ?_, ?_, f1, hr0, ?_, f8, hs0, ?_, f9, by omega, by omega, by omega, by omega⟩ <;> clear f8 f9 <;> simp only [ne_eq, bne_eq_false_iff_eq, beq_eq_false_iff_ne] at * <;> omega

end Go.Proofs.YtfeancgmmonebaaDoor.Sx

/-
  Bytes without the zeros ahead. Conditions: none; each theorem bears its own.
-/
namespace Go.Proofs.YtfeancgmmonebaaDoor.Sx
open Go Go.Proofs Go.RowKit

/-- No zero stands ahead. -/
def NoZero (l : List Int) : Prop := ∀ y r, l = y :: r → y ≠ 0

theorem NoZero.big {l : List Int} (h : NoZero l) (hd : Dg 8 l) (hl : 32 < l.length) : 2 ^ 256 ≤ be l := by
  match l, h, hd, hl with
  | y :: r, h, hd, hl => exact be_big hd (h y r rfl) (by simp at hl; omega)

theorem be_drop_zero {l : List Int} {k : Nat} (h : l[k]? = some 0) : be (l.drop (k + 1)) = be (l.drop k) := by
  obtain ⟨hk, h⟩ := List.getElem?_eq_some_iff.1 h
  rw [List.drop_eq_getElem_cons hk, h, be_cons_zero]

/-- Bytes of the call's own: the given ones without the zeros ahead. -/
def Trimmed (w : World) (bs : List Int) (e : Ending) (w' : World) : Prop :=
  ∃ l, be l = be bs ∧ NoZero l ∧ Dg 8 l ∧ l.length ≤ bs.length ∧ OwnBytes w l.length l e w'

set_option maxRecDepth 100000 in
theorem c_trim (n c : Nat) (bs : List Int) (A : Option Addr) (w : World) (hn : n < 2147483648) (hc : n ≤ c) (hr : Reads w w.heap.size A n (bs.map (Value.int .u8))) (hd : Dg 8 bs) :
    Calls Tryd.prog 28 #[.slice A n c] w (Trimmed w bs) := by
  obtain ⟨i0, hi0, hz0, hz1, hz2⟩ := info_parts u8_info
  have hbl : bs.length = n := by have h : (bs.map (Value.int .u8)).length = n := hr.1; simpa using h
  have HR := Lib.hid hr
  have HL := Lib.hid hbl
  clear hr hbl
  go_enter Tryd.func28, Tryd.ntmps28
  go_upto_block 0 with fail
  go_cut [3] (fun s3 wx => w = wx ∧ ∃ k : Nat, k ≤ n ∧ s3 = .int .i64 k ∧ be (bs.drop k) = be bs ∧ NoZero (bs.drop k))
  case first =>
    go_wp2_with fail
    go_loop [3] (fun i => ∃ k : Nat, k ≤ n ∧ i = .int .i64 k ∧ be (bs.drop k) = be bs) (fun i => n - (intOf i).toNat)
    case atStart => exact ⟨0, Nat.zero_le _, rfl, rfl⟩
    case round =>
      obtain ⟨k, hk, rfl, hbe⟩ := hrel
      have HBe := Lib.hid hbe
      clear hbe
      by_cases hlt : k < n
      · obtain ⟨ad, hA, _, hcell⟩ := HR.out.2 (by omega)
        subst hA
        obtain ⟨y, hy⟩ : ∃ y, bs[k]? = some y := ⟨bs[k]'(by rw [HL.out]; exact hlt), by simp⟩
        have hm := hcell k (.int .u8 y) (by rw [List.getElem?_map, hy]; rfl)
        have hlt' : (k : Int) < n := by omega
        have HY := Lib.hid hy
        clear hcell hy
        by_cases hy0 : y = 0
        · subst hy0
          go_wp2_with fail
          go_round
          case rel => exact ⟨k + 1, by omega, by go_num, (be_drop_zero HY.out).trans HBe.out⟩
          case measure => simp [intOf]; omega
        · have hyb : (y == 0) = false := by simp [hy0]
          go_wp2_with fail
          go_meet
          refine ⟨rfl, k, hk, rfl, HBe.out, fun z r hz => ?_⟩
          have h1 : (bs.drop k)[0]? = some y := by rw [List.getElem?_drop]; exact HY.out
          rw [hz] at h1
          obtain rfl : z = y := by simpa using h1
          exact hy0
      · have hge : (n : Int) ≤ k := by omega
        go_wp2_with fail
        go_meet
        refine ⟨rfl, k, hk, rfl, HBe.out, fun z r hz => ?_⟩
        rw [List.drop_eq_nil_of_le (by rw [HL.out]; omega)] at hz
        cases hz
  case rest =>
    obtain ⟨rfl, k, hk, rfl, hbe, hnz⟩ := hcut
    have HBe := Lib.hid hbe
    have HNz := Lib.hid hnz
    clear hbe hnz
    obtain ⟨A', hA'⟩ : ∃ A' : Option Addr, A' = if c = k then A else A.map (·.add k) := ⟨_, rfl⟩
    have e20 : ∀ W, (Instr.sliceAt 22 (.slice A n c) (some (.int .i64 k)) none none).run Tryd.prog W = .ok (.slice A' (n - k) (c - k)) W := fun W => by
      rw [hA']
      exact run_cut_slice (P := Tryd.prog) Tryd.underlying22 (by kernel_rfl) A n c (some (k : Int)) none k n rfl rfl hk hc W
    have hr2 : Reads w w.heap.size A' (n - k) ((bs.drop k).map (Value.int .u8)) := by
      rw [hA', List.map_drop]
      by_cases hq : c = k
      · rw [if_pos hq]
        exact ⟨by have := HR.out.1; simp at this ⊢; omega, fun h => by omega⟩
      · rw [if_neg hq]
        exact HR.out.drop k
    have HR2 := Lib.hid hr2
    have HN := Lib.hid (show 0 + (n - k) ≤ 140737488355328 by omega)
    clear hr2 hA'
    go_wp2_with (at_builtin; refine wpList_append_any rfl (.tmp 17) (.tmp 20) _ rfl w.heap.size 5 i0 _ Tryd.underlying22 hi0 hz0 hz1 hz2 rfl (.slice (some ⟨w.heap.size, 0, none⟩) 0 0) 0 [] rfl (owns_new w _) w.heap.size A' (n - k) (c - k) ((bs.drop k).map (Value.int .u8)) rfl (HR2.out.alloc (Nat.le_refl _) _) ints_one HN.out (by simp) ?_; intro v1 w1 ho hg hat)
    go_ret
    obtain ⟨A2, c', hv, hc', hA2⟩ := own_slice ho
    have hlen : (bs.drop k).length = n - k := by rw [List.length_drop, HL.out]
    rw [Nat.zero_add] at ho hv
    subst hv
    refine ⟨bs.drop k, HBe.out, HNz.out, fun x hx => hd x (List.mem_of_mem_drop hx), by rw [List.length_drop]; omega, A2, c', by rw [hlen]; rfl, by omega, by rw [hlen]; simpa using Reads.of_own ho, hA2, below_grown ((Below.refl _ _).alloc (Nat.le_refl _) _) hg (Nat.le_refl _) fun k hk => ?_⟩
    cases hk
    exact Nat.le_refl _

end Go.Proofs.YtfeancgmmonebaaDoor.Sx
