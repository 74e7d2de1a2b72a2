/-
  The lax reading of a signature's bytes, where they are one. Conditions: none; each theorem bears its own.
-/
import Derived.Test.YtfeancgmmonebaaDoorMgu
import Derived.LaidEql
import Derived.BigQuiet
import Derived.Test.YtfeancgmmonebaaDoorMgl
import Derived.Test.YtfeancgmmonebaaDoorRows
import Derived.ProofKit
import Derived.OpenShut
import Derived.ChangeOld
import Derived.Below
namespace Go.Proofs.YtfeancgmmonebaaDoor.Sx
open Go Go.Proofs Go.RowKit

/-- What reading gives where the bytes are a signature. -/
def ParsedOk (w : World) (R S : Int) (en : Ending) (w' : World) : Prop :=
  (∃ b o, en = .returned (.tuple #[.pointer (some ⟨b, o, none⟩), .nilIface]) ∧ w.heap.size ≤ b ∧ ∀ (j : Nat) v, ((dig 32 8 R ++ dig 32 8 S).map (Value.int .u32))[j]? = some v → w'.cell? ⟨b, o + j, none⟩ = some v) ∧ Below w.heap.size w w'

set_option maxRecDepth 1000000 in
set_option maxHeartbeats 8000000 in
theorem parse_main (n c rl sl : Nat) (ad : Addr) (w : World) (x0 x1 x2 x4 x5 xs y0 y1 R S : Int) (t2 t3 : TypeId) (v2 v3 : Value) (C : DerCells w ad n rl sl x0 x1 x2 x4 x5 xs y0 y1) (D : DerAt n rl sl x0 x1 x2 x4 x5 xs y0 y1 R S) (hn72 : n ≤ 72) (hc : n ≤ c)
    (hp1 : Calls Tryd.prog 43 #[.slice (some (ad.add 4)) rl (c - 4)] w fun en w' => en = .returned .nilIface ∧ w = w')
    (hp2 : ∀ W, Below w.heap.size w W → Calls Tryd.prog 43 #[.slice (some (ad.add (4 + rl + 2))) sl (c - (4 + rl + 2))] W fun en w' => en = .returned .nilIface ∧ W = w')
    (hg2 : w.cell? ⟨2, 0, none⟩ = some (.iface t2 v2)) (hg3 : w.cell? ⟨3, 0, none⟩ = some (.iface t3 v3))
    (hR : Rest w w.heap.size (.slice (some (ad.add 4)) rl (c - 4)) R) (hS : Rest w w.heap.size (.slice (some (ad.add (4 + rl + 2))) sl (c - (4 + rl + 2))) S) :
    Calls Tryd.prog 29 #[.slice (some ad) n c, .bool true] w (ParsedOk w R S) := by
  obtain ⟨rfl, hx1, rfl, rfl, htot, hr0, _, _, hs0, _, _, hR0, hR1, hS0, hS1⟩ := D
  obtain ⟨k0, k1, k2, k3, k4, k5, m0, m1, m2, m3, -, -, b3, bs⟩ := C
  obtain ⟨k, rfl⟩ : ∃ k, n = k + 2 := ⟨n - 2, by omega⟩
  obtain rfl : x1 = k := by omega
  have hk : k ≤ 70 := by omega
  have hk6 : 6 ≤ k := by omega
  have h4 : 4 + (rl : Int) < k + 2 := by omega
  have h5 : 4 + (rl : Int) + 1 < k + 2 := by omega
  have h6 : 4 + (rl : Int) + 1 + 1 < k + 2 := by omega
  have m0 := m0 (by omega)
  have m1 := m1 (by omega)
  have hrz : (0 : Int) < rl := by omega
  have hsz : (0 : Int) < sl := by omega
  have hrl : (rl : Int) ≤ k + 2 - 4 - 3 := by omega
  have hsl : (sl : Int) ≤ k + 2 - (4 + rl + 1 + 1) := by omega
  have hfin : (4 + (rl : Int) + 1 + 1 + sl != k + 2) = false := by simp; omega
  have HR := Lib.hid hR
  have HS := Lib.hid hS
  have HP1 := Lib.hid hp1
  have HP2 := Lib.hid hp2
  have HG2 := Lib.hid hg2
  have HG3 := Lib.hid hg3
  have HT := Lib.hid htot
  have HR0 := Lib.hid hR0
  have HR1 := Lib.hid hR1
  have HS0 := Lib.hid hS0
  have HS1 := Lib.hid hS1
  clear hR hS hp1 hp2 hx1 htot hR0 hR1 hS0 hS1 m2 m3 hn72
  have n2 : ∀ W, (binOp .eql 43 .nilIface (.iface t2 v2)).run Tryd.prog W = .ok (.bool false) W := fun W => run_eql_iface_nil_left (P := Tryd.prog) W t2 v2 Tryd.underlying43
  have n3 : ∀ W, (binOp .eql 43 .nilIface (.iface t3 v3)).run Tryd.prog W = .ok (.bool false) W := fun W => run_eql_iface_nil_left (P := Tryd.prog) W t3 v3 Tryd.underlying43
  have e66 : ∀ W, (Instr.sliceAt 22 (.slice (some ad) (k + 2) c) none (some (.int .u8 (k + 2))) none).run Tryd.prog W = .ok (.slice (some ad) (k + 2) c) W := fun W => by
    have := run_cut8 ad (n := k + 2) (c := c) (k + 2) hc W
    simpa using this
  obtain ⟨A4, hA4⟩ : ∃ A : Option Addr, A = some (ad.add 4) := ⟨_, rfl⟩
  obtain ⟨c4, hc4'⟩ : ∃ k, k = c - 4 := ⟨_, rfl⟩
  have e99 : ∀ W, (Instr.sliceAt 22 (.slice (some ad) (k + 2) c) (some (.int .i64 4)) (some (.int .i64 (4 + rl))) none).run Tryd.prog W = .ok (.slice A4 rl c4) W := fun W => by
    have := run_cut_slice (P := Tryd.prog) Tryd.underlying22 (by kernel_rfl) (some ad) (k + 2) c (some 4) (some (4 + (rl : Int))) 4 (4 + rl) rfl rfl (by omega) (by omega) W
    rw [if_neg (by omega), Nat.add_sub_cancel_left, ← hc4'] at this
    rw [hA4]
    exact this
  have HP1' : Hid (Calls Tryd.prog 43 #[.slice A4 rl c4] w fun en w' => en = .returned .nilIface ∧ w = w') := by rw [hA4, hc4']; exact HP1.out
  have HR' : Hid (Rest w w.heap.size (.slice A4 rl c4) R) := by rw [hA4, hc4']; exact HR.out
  clear hA4 hc4' HR HP1
  go_enter Tryd.func29, Tryd.ntmps29
  go_upto_block 1 with (go_at_call 43; refine HP1'.out.mono ?_; rintro e w1 ⟨rfl, rfl⟩)
  go_cut [10] (fun sx wx => w = wx ∧ Trim w w.heap.size sx R)
  case first =>
    clear e66 e99 n2 n3
    go_wp2_with fail
    go_loop [10] (fun t => Rest w w.heap.size t R) (fun t => lenOf t)
    case atStart => exact HR'.out
    case round =>
      obtain ⟨A, m, c', l, rfl, hmc, hm72, hr, hd, hbe⟩ := hrel
      have HRr := Lib.hid hr
      have HRd := Lib.hid hd
      have HRe := Lib.hid hbe
      clear hr hd hbe
      by_cases hm0 : m = 0
      · subst hm0
        go_wp2_with fail
        go_meet
        exact ⟨rfl, A, 0, c', l, rfl, hmc, hm72, HRr.out, HRd.out, HRe.out, fun h => by omega⟩
      · obtain ⟨ad', y, r, hA, hl, hy⟩ := Rest.open HRr.out (by omega)
        subst hA
        subst hl
        have hm0' : (0 : Int) < m := by omega
        obtain ⟨A', hA'⟩ : ∃ A' : Option Addr, A' = if c' = 1 then some ad' else some (ad'.add 1) := ⟨_, rfl⟩
        have ec : ∀ W, (Instr.sliceAt 22 (.slice (some ad') m c') (some (.int .i64 1)) none none).run Tryd.prog W = .ok (.slice A' (m - 1) (c' - 1)) W := fun W => by rw [hA']; exact run_cut1 ad' (by omega) hmc W
        have hr2 : Reads w w.heap.size A' (m - 1) (r.map (Value.int .u8)) := by rw [hA']; exact HRr.out.tail1 hmc
        have HR2 := Lib.hid hr2
        clear hr2 hA'
        by_cases hy0 : y = 0
        · subst hy0
          go_wp2_with fail
          go_round
          case rel => exact ⟨A', m - 1, c' - 1, r, rfl, by omega, by omega, HR2.out, HRd.out.tail, (be_cons_zero r).symm.trans HRe.out⟩
          case measure => simp [lenOf]; omega
        · have hyb : (y == 0) = false := by simp [hy0]
          go_wp2_with fail
          go_meet
          refine ⟨rfl, some ad', m, c', y :: r, rfl, hmc, hm72, HRr.out, HRd.out, HRe.out, fun h => ?_⟩
          have hlen : (y :: r).length = m := by have := HRr.out.1; simpa using this
          rw [← HRe.out]
          exact be_big HRd.out hy0 (by simp at hlen; omega)
  case rest =>
    obtain ⟨rfl, ht⟩ := hcut
    obtain ⟨A1, mR, c1, l1, rfl, hmc1, hm72, hr1, hd1, hbe1, hbig1⟩ := ht
    have fl := fn_lt
    have h32 : mR ≤ 32 := by
      rcases Nat.lt_or_ge 32 mR with h | h
      · have h1 := hbig1 h
        have h2 := HR1.out
        omega
      · exact h
    have h32' : (mR : Int) ≤ 32 := by omega
    have hset := c_setnew (w0 := w) (w := w) 64 (Below.refl _ _) hmc1 h32 hr1 hd1
    rw [hbe1, decide_eq_false (by have := HR1.out; omega), Int.emod_eq_of_lt (Int.le_of_lt HR0.out) HR1.out] at hset
    have HZ : Hid (decide (R = 0) = false) := decide_eq_false (by have := HR0.out; omega)
    have HSet := Lib.hid hset
    have HM0 := Lib.hid m0
    have HM1 := Lib.hid m1
    obtain ⟨A5, hA5⟩ : ∃ A : Option Addr, A = some (ad.add (4 + rl + 2)) := ⟨_, rfl⟩
    obtain ⟨c5, hc5'⟩ : ∃ k, k = c - (4 + rl + 2) := ⟨_, rfl⟩
    have e170 : ∀ W, (Instr.sliceAt 22 (.slice (some ad) (k + 2) c) (some (.int .i64 (4 + rl + 1 + 1))) (some (.int .i64 (4 + rl + 1 + 1 + sl))) none).run Tryd.prog W = .ok (.slice A5 sl c5) W := fun W => by
      have hlow : c ≠ 4 + rl + 2 := by have := HT.out; omega
      have htop : 4 + rl + 2 + sl ≤ c := by have := HT.out; omega
      have := run_cut_slice (P := Tryd.prog) Tryd.underlying22 (by kernel_rfl) (some ad) (k + 2) c (some (4 + (rl : Int) + 1 + 1)) (some (4 + (rl : Int) + 1 + 1 + sl)) (4 + rl + 2) (4 + rl + 2 + sl) (by simp <;> omega) (by simp <;> omega) (by omega) htop W
      rw [if_neg hlow, Nat.add_sub_cancel_left, ← hc5'] at this
      rw [hA5]
      exact this
    have HS' : Hid (Rest w w.heap.size (.slice A5 sl c5) S) := by rw [hA5, hc5']; exact HS.out
    have HP2' : Hid (∀ W, Below w.heap.size w W → Calls Tryd.prog 43 #[.slice A5 sl c5] W fun en w' => en = .returned .nilIface ∧ W = w') := by rw [hA5, hc5']; exact HP2.out
    clear hA5 hc5' HS HP2 hr1 hd1 hbe1 hbig1 hset fl h32 hm72 m0 m1 e99 hg2 hg3
    go_upto_block 4 with (first
      | (go_at_call 34; refine HSet.out.mono ?_; rintro e w1 ⟨rfl, g1, -, hs1, hb1⟩
         have G1 := Lib.hid g1
         clear g1)
      | (go_at_call 35; refine (c_sisz G1.out (Int.le_of_lt HR0.out) (Int.lt_trans HR1.out fn_lt)).mono ?_; rintro e w2 ⟨rfl, hb2⟩; rw [HZ.out]
         have hB2 : Below w.heap.size w w2 := hb1.trans (hb2.mono hb1.size)
         have G2 := Lib.hid ((hb2.block w.heap.size hs1).trans G1.out)
         have hs2 : w.heap.size < w2.heap.size := Nat.lt_of_lt_of_le hs1 hb2.size
         have q2 := cell_keep hB2 HG2.out
         have q3 := cell_keep hB2 HG3.out
         have q4 := cell_keep hB2 HM0.out
         have q5 := cell_keep hB2 HM1.out
         have HB2 := Lib.hid hB2
         clear hB2 hb2)
      | (go_at_call 43; refine (HP2'.out _ HB2.out).mono ?_; rintro e w3 ⟨rfl, rfl⟩
         have HS2 : Hid (Rest w2 w.heap.size (.slice A5 sl c5) S) := by
           obtain ⟨A, m, c', l, e, h1, h2, h3, h4⟩ := HS'.out
           exact ⟨A, m, c', l, e, h1, h2, h3.below HB2.out, h4⟩))
    go_cut [18] (fun sx wx => w2 = wx ∧ Trim w2 w.heap.size sx S)
    case first =>
      clear e66 e170 n2 n3 q2 q3 q4 q5
      go_wp2_with fail
      go_loop [18] (fun t => Rest w2 w.heap.size t S) (fun t => lenOf t)
      case atStart => exact HS2.out
      case round =>
        obtain ⟨A, m, c', l, rfl, hmc, hm72, hr, hd, hbe⟩ := hrel
        have HRr := Lib.hid hr
        have HRd := Lib.hid hd
        have HRe := Lib.hid hbe
        clear hr hd hbe
        by_cases hm0 : m = 0
        · subst hm0
          go_wp2_with fail
          go_meet
          exact ⟨rfl, A, 0, c', l, rfl, hmc, hm72, HRr.out, HRd.out, HRe.out, fun h => by omega⟩
        · obtain ⟨ad', y, r, hA, hl, hy⟩ := Rest.open HRr.out (by omega)
          subst hA
          subst hl
          have hm0' : (0 : Int) < m := by omega
          obtain ⟨A', hA'⟩ : ∃ A' : Option Addr, A' = if c' = 1 then some ad' else some (ad'.add 1) := ⟨_, rfl⟩
          have ec : ∀ W, (Instr.sliceAt 22 (.slice (some ad') m c') (some (.int .i64 1)) none none).run Tryd.prog W = .ok (.slice A' (m - 1) (c' - 1)) W := fun W => by rw [hA']; exact run_cut1 ad' (by omega) hmc W
          have hr2 : Reads w2 w.heap.size A' (m - 1) (r.map (Value.int .u8)) := by rw [hA']; exact HRr.out.tail1 hmc
          have HR2 := Lib.hid hr2
          clear hr2 hA'
          by_cases hy0 : y = 0
          · subst hy0
            go_wp2_with fail
            go_round
            case rel => exact ⟨A', m - 1, c' - 1, r, rfl, by omega, by omega, HR2.out, HRd.out.tail, (be_cons_zero r).symm.trans HRe.out⟩
            case measure => simp [lenOf]; omega
          · have hyb : (y == 0) = false := by simp [hy0]
            go_wp2_with fail
            go_meet
            refine ⟨rfl, some ad', m, c', y :: r, rfl, hmc, hm72, HRr.out, HRd.out, HRe.out, fun h => ?_⟩
            have hlen : (y :: r).length = m := by have := HRr.out.1; simpa using this
            rw [← HRe.out]
            exact be_big HRd.out hy0 (by simp at hlen; omega)
    case rest =>
      obtain ⟨rfl, ht⟩ := hcut
      obtain ⟨A2, mS, c2, l2, rfl, hmc2, hm72s, hr2, hd2, hbe2, hbig2⟩ := ht
      have fl := fn_lt
      have h32s : mS ≤ 32 := by
        rcases Nat.lt_or_ge 32 mS with h | h
        · have h1 := hbig2 h
          have h2 := HS1.out
          omega
        · exact h
      have h32s' : (mS : Int) ≤ 32 := by omega
      have hset := c_setnew (w0 := w2) (w := w2) 64 (Below.refl _ _) hmc2 h32s (hr2.more (B' := w2.heap.size) (by omega)) hd2
      rw [hbe2, decide_eq_false (by have := HS1.out; omega), Int.emod_eq_of_lt (Int.le_of_lt HS0.out) HS1.out] at hset
      have HZs : Hid (decide (S = 0) = false) := decide_eq_false (by have := HS0.out; omega)
      have HSet2 := Lib.hid hset
      clear hr2 hd2 hbe2 hbig2 hset fl h32s hm72s
      go_wp2_with (first
        | (go_at_call 34; refine HSet2.out.mono ?_; rintro e w3 ⟨rfl, g3, hk3, hs3, hb3⟩
           have G3 := Lib.hid g3
           have HK3 := Lib.hid hk3
           clear g3 hk3)
        | (go_at_call 35; refine (c_sisz G3.out (Int.le_of_lt HS0.out) (Int.lt_trans HS1.out fn_lt)).mono ?_; rintro e w4 ⟨rfl, hb4⟩; rw [HZs.out]
           have G4 := Lib.hid ((hb4.block w2.heap.size hs3).trans G3.out)
           have GR4 := Lib.hid ((hb4.block w.heap.size (Nat.lt_trans hs2 hs3)).trans ((HK3.out w.heap.size hs2).trans G2.out)))
        | (go_at_call 44; refine (c_bnew GR4.out G4.out (Nat.ne_of_lt hs2)).mono ?_; rintro e w5 ⟨⟨b, o, rfl, hbl, hcells⟩, hb5⟩
           have HCells := Lib.hid hcells
           clear hcells))
      go_ret2
      have hz1 := HB2.out.size
      have hz3 := hb3.size
      have hz4 := hb4.size
      exact ⟨⟨b, o, rfl, by omega, HCells.out⟩, HB2.out.trans (((hb3.trans (hb4.mono hb3.size)).trans (hb5.mono (Nat.le_trans hb3.size hb4.size))).mono HB2.out.size)⟩

end Go.Proofs.YtfeancgmmonebaaDoor.Sx

/-
  Whether a signature's second number is the lesser one, by the lax reading. Conditions: none; each theorem bears its own.
-/
namespace Go.Proofs.YtfeancgmmonebaaDoor.Sx
open Go Go.Proofs Go.RowKit

/-- What the variables of the lax reading hold: errors. -/
def ErrVars (w : World) : Prop :=
  (∃ t v, w.cell? ⟨0, 0, none⟩ = some (.iface t v)) ∧ (∃ t v, w.cell? ⟨2, 0, none⟩ = some (.iface t v)) ∧
    (∃ t v, w.cell? ⟨3, 0, none⟩ = some (.iface t v))

theorem ErrVars.below {w w' : World} (h : ErrVars w) (hb : Below w.heap.size w w') : ErrVars w' := by
  obtain ⟨⟨t0, v0, h0⟩, ⟨t1, v1, h1⟩, ⟨t2, v2, h2⟩⟩ := h
  exact ⟨⟨t0, v0, cell_keep hb h0⟩, ⟨t1, v1, cell_keep hb h1⟩, ⟨t2, v2, cell_keep hb h2⟩⟩

theorem c_parseSig (n c : Nat) (bs : List Int) (A : Option Addr) (w : World) (hc : n ≤ c) (hr : Reads w w.heap.size A n (bs.map (Value.int .u8))) (hd : Dg 8 bs) (hok : SigOk bs) (hv : ErrVars w) :
    Calls Tryd.prog 29 #[.slice A n c, .bool true] w (ParsedOk w (sigR bs) (sigS bs)) := by
  have hl : bs.length = n := by have h : (bs.map (Value.int .u8)).length = n := hr.1; simpa using h
  have h8 := hok.n8
  have h72 := hok.n72
  obtain ⟨ad, rfl, _, _⟩ := hr.2 (by omega)
  have C := derCells (by omega) hr hd
  have hfit := sigOk_fit hl hd hok
  have D := (derAt_iff hl (by omega) (by omega) hfit.1 hfit.2.1 hfit.2.2 hd).2 hok
  obtain ⟨_, ⟨t2, v2, hg2⟩, ⟨t3, v3, hg3⟩⟩ := hv
  have dR : Dg 8 ((bs.drop 4).take (sk1 bs)) := fun x hx => hd x (List.mem_of_mem_drop (List.mem_of_mem_take hx))
  have dS : Dg 8 ((bs.drop (4 + sk1 bs + 2)).take (sk2 bs)) := fun x hx => hd x (List.mem_of_mem_drop (List.mem_of_mem_take hx))
  have rR : Reads w w.heap.size (some (ad.add 4)) (sk1 bs) (((bs.drop 4).take (sk1 bs)).map (Value.int .u8)) := by
    rw [List.map_take, List.map_drop]
    exact (hr.drop 4).take (by omega)
  have rS : Reads w w.heap.size (some (ad.add (4 + sk1 bs + 2))) (sk2 bs) (((bs.drop (4 + sk1 bs + 2)).take (sk2 bs)).map (Value.int .u8)) := by
    rw [List.map_take, List.map_drop]
    exact (hr.drop (4 + sk1 bs + 2)).take (by omega)
  have g0 : ((bs.drop 4).take (sk1 bs)).getD 0 0 = bs.getD 4 0 := by simp [List.getD, hfit.2.1]
  have g1 : 1 < sk1 bs → ((bs.drop 4).take (sk1 bs)).getD 1 0 = bs.getD 5 0 := fun h => by simp [List.getD, h]
  have f0 : ((bs.drop (4 + sk1 bs + 2)).take (sk2 bs)).getD 0 0 = bs.getD (6 + sk1 bs) 0 := by
    have : 4 + sk1 bs + 2 = 6 + sk1 bs := by omega
    simp [List.getD, hfit.2.2, this]
  have f1 : 1 < sk2 bs → ((bs.drop (4 + sk1 bs + 2)).take (sk2 bs)).getD 1 0 = bs.getD (7 + sk1 bs) 0 := fun h => by
    have : 4 + sk1 bs + 2 + 1 = 7 + sk1 bs := by omega
    simp [List.getD, h, this]
  refine parse_main n c (sk1 bs) (sk2 bs) ad w _ _ _ _ _ _ _ _ (sigR bs) (sigS bs) t2 t3 v2 v3 C D (by omega) hc ?_ ?_ hg2 hg3
    ⟨_, _, _, _, rfl, by omega, by omega, rR, dR, (sigR_eq bs).symm⟩ ⟨_, _, _, _, rfl, by omega, by omega, rS, dS, (sigS_eq bs).symm⟩
  · exact c_canon _ _ _ _ _ hfit.2.1 (by omega) rR dR (by rw [g0]; exact D.r1) (by rintro ⟨a1, a2, a3⟩; rw [g0] at a2; rw [g1 a1] at a3; exact D.r2 ⟨a1, a2, a3⟩)
  · intro W hb
    exact c_canon _ _ _ _ _ hfit.2.2 (by omega) ((rS.below hb).more hb.size) dS (by rw [f0]; exact D.s1) (by rintro ⟨a1, a2, a3⟩; rw [f0] at a2; rw [f1 a1] at a3; exact D.s2 ⟨a1, a2, a3⟩)

abbrev zlit32u : Array Value := #[.int .u32 0, .int .u32 0, .int .u32 0, .int .u32 0, .int .u32 0, .int .u32 0, .int .u32 0, .int .u32 0]

set_option maxRecDepth 100000 in
theorem c_verifyLow (n c : Nat) (bs : List Int) (A : Option Addr) (w : World) (hc : n ≤ c) (hr : Reads w w.heap.size A n (bs.map (Value.int .u8))) (hd : Dg 8 bs) (hok : SigOk bs) (hv : ErrVars w) :
    Calls Tryd.prog 15 #[.slice A n c] w fun en w' =>
      ((sigS bs ≤ fn / 2 ∧ en = .returned .nilIface) ∨ (¬ sigS bs ≤ fn / 2 ∧ ∃ t v, en = .returned (.iface t v))) ∧ Below w.heap.size w w' := by
  have HP := Lib.hid (c_parseSig n c bs A w hc hr hd hok hv)
  have HS : Hid (0 < sigS bs ∧ sigS bs < fn) := hok.rS
  obtain ⟨⟨t0, v0, hg0⟩, _, _⟩ := hv
  have HG0 := Lib.hid hg0
  obtain ⟨D, hD⟩ : ∃ D : Array Value, D = ((dig 32 8 (sigS bs)).map (Value.int .u32)).toArray := ⟨_, rfl⟩
  have hDs : D.size = 8 := by rw [hD]; simp [dig_length]
  have hD1 : D.all (·.oneCell') = true := by rw [hD]; simp [Value.oneCell']
  have HD := Lib.hid hD
  have HDs := Lib.hid hDs
  have HD1 := Lib.hid hD1
  clear hr hok hg0 hD hDs hD1 hc
  by_cases hlow : sigS bs ≤ fn / 2
  case pos =>
    have hdec : Hid (decide (fn / 2 < sigS bs) = false) := decide_eq_false (by show ¬ fn / 2 < sigS bs; omega)
    have HLow := Lib.hid hlow
    clear hlow
    go_enter Tryd.func15, Tryd.ntmps15
    go_wp2_with (first
      | (go_at_call 29; refine HP.out.mono ?_; rintro e w1 ⟨⟨b, o, rfl, hb, hcell⟩, hb1⟩
         have hbs : b < w1.heap.size := by
           obtain ⟨x, hx⟩ : ∃ x, ((dig 32 8 (sigR bs) ++ dig 32 8 (sigS bs)).map (Value.int .u32))[0]? = some x := by
             rw [List.getElem?_map]
             obtain ⟨d, hd'⟩ : ∃ d, (dig 32 8 (sigR bs) ++ dig 32 8 (sigS bs))[0]? = some d := ⟨_, List.getElem?_eq_getElem (by simp [dig_length])⟩
             exact ⟨_, by rw [hd']; rfl⟩
           exact World.block_lt_of_cell? _ _ (hcell 0 x hx)
         have HSg := Lib.hid (c_sigS hbs hcell)
         have HB1 := Lib.hid hb1
         clear hcell hbs hb hb1)
      | (go_at_call 30; refine HSg.out.mono ?_; rintro e w2 ⟨he, hb2⟩; rw [← HD.out] at he; subst he
         have HB2 := Lib.hid hb2
         clear hb2)
      | ((with_reducible refine wpList_store_row rfl _ (.tmp 5) (.tmp 15) rfl w2.heap.size D ?_ ?_ _ zlit32u (heap_alloc_new w2 _) ?_ ?_ HD1.out ?_); exact rfl; exact rfl; (rw [HDs.out]; kernel_rfl); (rw [HDs.out]; rfl)
         have hg3 : ((w2.alloc (.cells zlit32u 64)).setRow w2.heap.size D).heap[w2.heap.size]? = some (.cells D 64 (0, 0)) := setRow_heap _ _ _ _ _ _ (heap_alloc_new w2 _)
         rw [HD.out] at hg3
         have HSh := Lib.hid (c_shi hg3 (Int.le_of_lt HS.out.1) (Int.lt_trans HS.out.2 fn_lt))
         clear hg3)
      | (go_at_call 31; rw [HD.out]; refine HSh.out.mono ?_; rintro e w3 ⟨rfl, hb3⟩; rw [hdec.out]))
    go_ret
    refine ⟨.inl ⟨HLow.out, rfl⟩, ?_⟩
    exact (below_setRow ((HB1.out.trans (HB2.out.mono HB1.out.size)).alloc (Nat.le_trans HB1.out.size HB2.out.size) _) (Nat.le_trans HB1.out.size HB2.out.size) _).trans (hb3.mono (by have := HB1.out.size; have := HB2.out.size; simp; omega))
  case neg =>
    have hdec : Hid (decide (fn / 2 < sigS bs) = true) := decide_eq_true (by omega)
    have HLow := Lib.hid hlow
    clear hlow
    go_enter Tryd.func15, Tryd.ntmps15
    go_wp2_with (first
      | (go_at_call 29; refine HP.out.mono ?_; rintro e w1 ⟨⟨b, o, rfl, hb, hcell⟩, hb1⟩
         have hbs : b < w1.heap.size := by
           obtain ⟨x, hx⟩ : ∃ x, ((dig 32 8 (sigR bs) ++ dig 32 8 (sigS bs)).map (Value.int .u32))[0]? = some x := by
             rw [List.getElem?_map]
             obtain ⟨d, hd'⟩ : ∃ d, (dig 32 8 (sigR bs) ++ dig 32 8 (sigS bs))[0]? = some d := ⟨_, List.getElem?_eq_getElem (by simp [dig_length])⟩
             exact ⟨_, by rw [hd']; rfl⟩
           exact World.block_lt_of_cell? _ _ (hcell 0 x hx)
         have HSg := Lib.hid (c_sigS hbs hcell)
         have HB1 := Lib.hid hb1
         clear hcell hbs hb hb1)
      | (go_at_call 30; refine HSg.out.mono ?_; rintro e w2 ⟨he, hb2⟩; rw [← HD.out] at he; subst he
         have HB2 := Lib.hid hb2
         clear hb2)
      | ((with_reducible refine wpList_store_row rfl _ (.tmp 5) (.tmp 15) rfl w2.heap.size D ?_ ?_ _ zlit32u (heap_alloc_new w2 _) ?_ ?_ HD1.out ?_); exact rfl; exact rfl; (rw [HDs.out]; kernel_rfl); (rw [HDs.out]; rfl)
         have hg3 : ((w2.alloc (.cells zlit32u 64)).setRow w2.heap.size D).heap[w2.heap.size]? = some (.cells D 64 (0, 0)) := setRow_heap _ _ _ _ _ _ (heap_alloc_new w2 _)
         rw [HD.out] at hg3
         have HSh := Lib.hid (c_shi hg3 (Int.le_of_lt HS.out.1) (Int.lt_trans HS.out.2 fn_lt))
         clear hg3)
      | (go_at_call 31; rw [HD.out]; refine HSh.out.mono ?_; rintro e w3 ⟨rfl, hb3⟩; rw [hdec.out]
         have hB3 : Below w.heap.size w w3 := (below_setRow ((HB1.out.trans (HB2.out.mono HB1.out.size)).alloc (Nat.le_trans HB1.out.size HB2.out.size) _) (Nat.le_trans HB1.out.size HB2.out.size) _).trans (hb3.mono (by have := HB1.out.size; have := HB2.out.size; simp; omega))
         have q0 := cell_keep hB3 HG0.out))
    go_ret
    exact ⟨.inr ⟨HLow.out, _, _, rfl⟩, hB3⟩

end Go.Proofs.YtfeancgmmonebaaDoor.Sx

/-
  impl.LowS; the statement FnLowS: what its function gives. Conditions: none; each theorem bears its own.
-/
namespace Go.Proofs.YtfeancgmmonebaaDoor.Sx
open Go Go.Proofs Go.RowKit

set_option maxRecDepth 100000 in
theorem c_lowS (n c : Nat) (bs : List Int) (A : Option Addr) (w : World) (hn : n ≤ 140737488355328) (hr : Reads w w.heap.size A n (bs.map (Value.int .u8))) (hd : Dg 8 bs) (hok : SigOk bs) (hv : ErrVars w) :
    Calls Tryd.prog 6 #[.slice A n c] w fun en w' => en = .returned (.int .i64 (if sigS bs ≤ fn / 2 then 0 else 1)) ∧ Below w.heap.size w w' := by
  have HC := Lib.hid (c_copied n c bs A w hn hr)
  have HV : ∀ A1 c1 w1, n ≤ c1 → Reads w1 w1.heap.size A1 n (bs.map (Value.int .u8)) → Below w.heap.size w w1 → Calls Tryd.prog 15 #[.slice A1 n c1] w1 fun en w' =>
      ((sigS bs ≤ fn / 2 ∧ en = .returned .nilIface) ∨ (¬ sigS bs ≤ fn / 2 ∧ ∃ t v, en = .returned (.iface t v))) ∧ Below w1.heap.size w1 w' := fun A1 c1 w1 h1 h2 h3 => c_verifyLow n c1 bs A1 w1 h1 h2 hd hok (hv.below h3)
  have HVe := Lib.hid HV
  clear hr hok hv HV hn
  by_cases hlow : sigS bs ≤ fn / 2
  · have HL := Lib.hid hlow
    rw [if_pos hlow]
    clear hlow
    go_enter Tryd.func6, Tryd.ntmps6
    go_wp2_with (first
      | (go_at_call 16; refine HC.out.mono ?_; rintro e w1 ⟨A1, c1, rfl, hc1, hr1, hA1, hb1⟩)
      | (go_at_call 15; refine (HVe.out _ _ _ hc1 hr1 hb1).mono ?_; rintro e w2 ⟨h2, hb2⟩
         obtain rfl : e = .returned .nilIface := by
           rcases h2 with h2 | h2
           · exact h2.2
           · exact absurd HL.out (by have := h2.1; omega)
         clear h2)
      | (go_at_call 14; refine (c_one_nil _).mono ?_; rintro e w3 ⟨rfl, rfl⟩))
    go_ret
    exact ⟨rfl, hb1.trans (hb2.mono hb1.size)⟩
  · have HL := Lib.hid hlow
    rw [if_neg hlow]
    clear hlow
    go_enter Tryd.func6, Tryd.ntmps6
    go_wp2_with (first
      | (go_at_call 16; refine HC.out.mono ?_; rintro e w1 ⟨A1, c1, rfl, hc1, hr1, hA1, hb1⟩)
      | (go_at_call 15; refine (HVe.out _ _ _ hc1 hr1 hb1).mono ?_; rintro e w2 ⟨h2, hb2⟩
         obtain ⟨t, v, rfl⟩ : ∃ t v, e = .returned (.iface t v) := by
           rcases h2 with h2 | h2
           · exact absurd h2.1 (by have := HL.out; omega)
           · exact h2.2
         clear h2)
      | (go_at_call 14; refine (c_one_err _ _ _).mono ?_; rintro e w3 ⟨rfl, rfl⟩))
    go_ret
    exact ⟨rfl, hb1.trans (hb2.mono hb1.size)⟩

set_option maxRecDepth 100000 in
set_option maxHeartbeats 1000000 in
theorem law_lows (n c : Nat) (bs : List Int) (A : Option Addr) (w : World) (hm : n ≤ 9223372036854775807) (hc : n ≤ c) (hr : Reads w w.heap.size A n (bs.map (Value.int .u8))) (hd : Dg 8 bs) (hv : ErrVars w) :
    Calls Tryd.prog 3 #[.slice A n c] w fun en w' => en = .returned (.bool true) ∧ Below w.heap.size w w' := by
  have HR := Lib.hid hr
  clear hr
  by_cases h10 : (n : Int) ≤ 10000
  · have hn : n < 2147483648 := by omega
    have hS := c_readSig n c bs A w hn hc HR.out hd
    by_cases hok : SigOk bs
    case neg =>
      have hS1 := hS.mono (R' := fun e w' => e = .returned (.tuple #[.agg zero8, .bool false]) ∧ Below w.heap.size w w') fun e w' h => ⟨h.1.elim (fun q => absurd q.1 hok) (fun q => q.2), h.2⟩
      have HS := Lib.hid hS1
      clear hS hS1 hok hv hm
      go_enter Tryd.func3, Tryd.ntmps3
      go_wp2_with (go_at_call 5; refine HS.out.mono ?_; rintro e w1 ⟨rfl, hb1⟩)
      go_quiet (fail)
      go_wp2_with fail
      go_ret
      have hb := hb1.alloc hb1.size (.cells #[.int .u64 0, .int .u64 0, .int .u64 0, .int .u64 0, .int .u64 0, .int .u64 0, .int .u64 0, .int .u64 0] 27)
      exact ⟨rfl, ⟨hb.os, hb.tape, hb.output, hb.size, hb.block⟩⟩
    case pos =>
      have hsr := hok.rS
      have hI : ∀ W, Below w.heap.size w W → Calls Tryd.prog 6 #[.slice A n c] W fun en w' => en = .returned (.int .i64 (if sigS bs ≤ fn / 2 then 0 else 1)) ∧ Below W.heap.size W w' := fun W hb =>
        c_lowS n c bs A W (by omega) ((HR.out.below hb).more hb.size) hd hok (by
          obtain ⟨⟨t0, v0, h0⟩, ⟨t1, v1, h1⟩, ⟨t2, v2, h2⟩⟩ := hv
          exact ⟨⟨t0, v0, cell_keep hb h0⟩, ⟨t1, v1, cell_keep hb h1⟩, ⟨t2, v2, cell_keep hb h2⟩⟩)
      obtain ⟨r0, r1, r2, r3, hdr⟩ : ∃ d0 d1 d2 d3, dig 64 4 (sigR bs) = [d0, d1, d2, d3] := len4 (dig_length 64 4 _)
      obtain ⟨s0, s1, s2, s3, hds⟩ : ∃ d0 d1 d2 d3, dig 64 4 (sigS bs) = [d0, d1, d2, d3] := len4 (dig_length 64 4 _)
      have hS1 := hS.mono (R' := fun e w' => e = .returned (.tuple #[.agg #[.int .u64 r0, .int .u64 r1, .int .u64 r2, .int .u64 r3, .int .u64 s0, .int .u64 s1, .int .u64 s2, .int .u64 s3], .bool true]) ∧ Below w.heap.size w w') fun e w' h => ⟨h.1.elim (fun q => by rw [q.2, hdr, hds]; rfl) (fun q => absurd hok q.1), h.2⟩
      have hL : ∀ W, Calls Tryd.prog 7 #[.agg #[.int .u64 s0, .int .u64 s1, .int .u64 s2, .int .u64 s3]] W fun en w' => en = .returned (.bool (decide (sigS bs ≤ fn / 2))) ∧ Below W.heap.size W w' := fun W => by
        have := c_low (V := sigS bs) (Int.le_of_lt hsr.1) (Int.lt_trans hsr.2 fn_lt) W
        rw [hds] at this
        exact this
      have HS := Lib.hid hS1
      have HI := Lib.hid hI
      have HL := Lib.hid hL
      clear hS hS1 hI hL hok hdr hds hsr hv hm
      obtain ⟨q, hq⟩ : ∃ q : Bool, q = decide (sigS bs ≤ fn / 2) := ⟨_, rfl⟩
      obtain ⟨x, hx⟩ : ∃ x : Int, x = if sigS bs ≤ fn / 2 then 0 else 1 := ⟨_, rfl⟩
      have hqx : ((x == 0) == q) = true := by
        rw [hx, hq]
        by_cases h : sigS bs ≤ fn / 2 <;> simp [h]
      rw [← hq] at HL
      rw [← hx] at HI
      clear hq hx
      go_enter Tryd.func3, Tryd.ntmps3
      go_upto_region 6 with (go_at_call 5; refine HS.out.mono ?_; rintro e w1 ⟨rfl, hb1⟩)
      have hk := Cells8.of (heap_alloc_new w1 (.cells #[.int .u64 r0, .int .u64 r1, .int .u64 r2, .int .u64 r3, .int .u64 s0, .int .u64 s1, .int .u64 s2, .int .u64 s3] 27))
      have hb : Below w.heap.size w (w1.alloc (.cells #[.int .u64 r0, .int .u64 r1, .int .u64 r2, .int .u64 r3, .int .u64 s0, .int .u64 s1, .int .u64 s2, .int .u64 s3] 27)) := hb1.alloc hb1.size _
      generalize w1.alloc (.cells #[.int .u64 r0, .int .u64 r1, .int .u64 r2, .int .u64 r3, .int .u64 s0, .int .u64 s1, .int .u64 s2, .int .u64 s3] 27) = W1 at hk hb ⊢
      generalize w1.heap.size = g at hk ⊢
      have HK1 := Lib.hid hk
      have HB1 := Lib.hid hb
      clear hb hb1
      unfold Cells8 at hk
      go_region_held2 (fun w' => w'.cell? ⟨g, 0, none⟩ = some (.int .u64 r0) ∧ w'.cell? ⟨g, 1, none⟩ = some (.int .u64 r1) ∧ w'.cell? ⟨g, 2, none⟩ = some (.int .u64 r2) ∧ w'.cell? ⟨g, 3, none⟩ = some (.int .u64 r3) ∧
        w'.cell? ⟨g, 4, none⟩ = some (.int .u64 s0) ∧ w'.cell? ⟨g, 5, none⟩ = some (.int .u64 s1) ∧ w'.cell? ⟨g, 6, none⟩ = some (.int .u64 s2) ∧ w'.cell? ⟨g, 7, none⟩ = some (.int .u64 s3)) (assumption)
        (first
          | (go_at_call 6; (with_reducible refine (HI.out _ (HB1.out.drew)).mono ?_); rintro e w2 ⟨rfl, hb2⟩
             have HK2 : Hid (Cells8 w2 g r0 r1 r2 r3 s0 s1 s2 s3) := Cells8.keep (w := W1.drew) hb2 HK1.out
             have HB2 := Lib.hid hb2
             clear hb2
             have hkk := HK2.out
             unfold Cells8 at hkk)
          | (go_at_call 7; (with_reducible refine (HL.out _).mono ?_); rintro e w3 ⟨rfl, hb3⟩
             have HK3 : Hid (Cells8 w3 g r0 r1 r2 r3 s0 s1 s2 s3) := Cells8.keep hb3 HK2.out
             have HB3 := Lib.hid hb3
             clear hb3
             have hkk := HK3.out
             unfold Cells8 at hkk))
      go_wp2_with fail
      go_ret
      exact ⟨rfl, (HB1.out.drew.trans (HB2.out.mono HB1.out.size)).trans (HB3.out.mono (Nat.le_trans HB1.out.size HB2.out.size))⟩
  · go_enter Tryd.func3, Tryd.ntmps3
    go_wp2_with fail
    all_goals (go_ret; exact ⟨rfl, Below.refl _ _⟩)

end Go.Proofs.YtfeancgmmonebaaDoor.Sx

/-
  From a contract to a row: a function of arrays of bytes that returns true and writes nothing that was there. Conditions: none; each theorem bears its own.
-/
namespace Go.Proofs.YtfeancgmmonebaaDoor.Sx
open Go Go.Proofs Go.ChangeShapes Go.WideShapes Go.ChangeAt Go.RowKit

/-- A call by a contract that gives true. -/
theorem calls_true {P : Program} {e : Entry} (hm : Meets P e) (hgo : goFunc P e.f = true) {base : List Int} (hl : base.length = (ini e.args).n) (hmem : (ini e.args).mem = []) (hpre : e.Pre base) (hF : e.F base = [1])
    (hres : retOf (fin e).res = .one (.sc (.bool (.var (ini e.args).n)))) (hn : (fin e).n = (ini e.args).n + 1) (w : World) :
    Calls P e.f ((ini e.args).args.map (SV.den ⟨base, []⟩)).toArray w fun en w' => en = .returned (.bool true) ∧ Below w.heap.size w w' := by
  have h := hm base [] w hl (by rw [hmem]; rfl) (fun _ => hpre) (fun o so ho => by rw [hmem] at ho; simp at ho) (fun p p' a a' _ h1 => by rw [hmem] at h1; simp at h1)
  have hrun := goFunc_run hgo ((ini e.args).args.map (SV.den ⟨base, []⟩)).toArray w
  rcases h with ⟨_, h⟩ | ⟨v, h, _⟩
  · refine h.mono fun en w' ⟨nb, _, _, _, hen, _, hfr⟩ => ⟨?_, hfr.below (Nat.le_refl _) fun k j _ ⟨o, so, ho, _⟩ => by rw [hmem] at ho; simp at ho⟩
    rw [hen, hres]
    have : (e.env base [] nb).e.getD (ini e.args).n 0 = 1 := by
      simp only [Entry.env]
      rw [hF, hn, ← hl, List.getD, List.getElem?_append_right (Nat.le_refl _), Nat.sub_self, Nat.add_sub_cancel_left]
      rfl
    simp only [SV.den, S1.den, SC.den, SI.val, this]
    rfl
  · rw [hrun] at h
    cases h

theorem bytes_of : ∀ (cs : List Value), (∀ (i : Nat), i < cs.length → ∃ z : Int, cs[i]? = some (.int .u8 z) ∧ 0 ≤ z ∧ z < 2 ^ 8) → ∃ bs : List Int, bs.length = cs.length ∧ cs = bs.map (Value.int .u8) ∧ Dg 8 bs
  | [], _ => ⟨[], rfl, rfl, fun x hx => (by cases hx)⟩
  | c :: cs, one => by
    obtain ⟨z, h1, h2, h3⟩ := one 0 (by simp)
    simp at h1
    subst h1
    obtain ⟨bs, g1, g2, g3⟩ := bytes_of cs fun i hi => by simpa using one (i + 1) (by simpa using hi)
    exact ⟨z :: bs, by simp [g1], by simp [← g2], fun y hy => by
      rcases List.mem_cons.1 hy with rfl | hy
      · exact ⟨h2, h3⟩
      · exact g3 y hy⟩

/-- An array of bytes, opened. -/
theorem open_bytes {H : Type} {enc : TypeId × Value → H} {P : Program} {w : World} {base : Nat} {spare : Nat → Bool} {held : Bool} {fuel : Nat} {t u : TypeId} {cs : List Value} {x : DataW H × List MemPlace} {n : Nat}
    (ht : P.underlying t = some (.array n u)) (hu : P.underlying u = some (.int .u8)) (hc : P.cellsOf u = 1) (hct : P.cellsOf t = n) (h : DataW.trod enc P w base spare held fuel t cs = some x) :
    ∃ bs : List Int, bs.length = n ∧ cs = bs.map (Value.int .u8) ∧ Dg 8 bs := by
  obtain ⟨xs, m, _, _, hlen, hl, hel⟩ := DataW.trod_array ht h
  rw [hct] at hlen
  have one : ∀ (i : Nat), i < n → ∃ z : Int, cs[i]? = some (.int .u8 z) ∧ 0 ≤ z ∧ z < 2 ^ 8 := by
    intro i hi
    have h1 := hel i hi
    rw [hc, Nat.mul_one, List.getElem?_eq_getElem (by omega)] at h1
    obtain ⟨z, h2, _, h3⟩ := DataW.trod_int hu h1
    have h4 := bounds_u8 h3
    refine ⟨z, ?_, h4.1, by omega⟩
    have h5 : ((cs.drop i).take 1)[0]? = some (.int .u8 z) := by rw [h2]; rfl
    simpa using h5
  obtain ⟨bs, g1, g2, g3⟩ := bytes_of cs fun i hi => one i (by omega)
  exact ⟨bs, by omega, g2, g3⟩

end Go.Proofs.YtfeancgmmonebaaDoor.Sx
