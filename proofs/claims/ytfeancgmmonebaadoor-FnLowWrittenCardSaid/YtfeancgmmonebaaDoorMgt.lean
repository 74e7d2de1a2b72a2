/-
  Serialize: a signature's bytes. Conditions: none; each theorem bears its own.
-/
import Derived.Test.YtfeancgmmonebaaDoorMgs
import Derived.Test.YtfeancgmmonebaaDoorMgp
namespace Go.Proofs.YtfeancgmmonebaaDoor.Sx
open Go Go.Proofs Go.RowKit

theorem lit_one {x : Int} : ∀ u ∈ #[Value.int .u8 x].toList, u.oneCell' = true := fun u hu => by
  have : u = .int .u8 x := by simpa using hu
  subst this
  rfl

theorem ser_end {w w8 x8 : World} {R S : Int} {l1 l2 : List Int} {v : Value} {n : Nat} {T y z : Int} (hc : Canon R l1) (hd : Canon S l2) (hb : Below w.heap.size w x8) (h8 : w.heap.size ≤ w8.heap.size)
    (ho : x8.ownsRow w8.heap.size 5 1 v n ([] ++ #[Value.int .u8 48].toList ++ #[Value.int .u8 T].toList ++ #[Value.int .u8 2].toList ++ #[Value.int .u8 y].toList ++ l1.map (Value.int .u8) ++ #[Value.int .u8 2].toList ++ #[Value.int .u8 z].toList ++ l2.map (Value.int .u8)))
    (hn : n = l1.length + l2.length + 6) (hT : T = ((l1.length + l2.length + 4 : Nat) : Int)) (hy : y = l1.length) (hz : z = l2.length) : SigOut w R S (.returned v) x8 := by
  subst hn hT hy hz
  refine ⟨l1, l2, hc, hd, ⟨v, rfl, owns_mono ?_ h8⟩, hb⟩
  rw [sigB_length]
  have : (sigB l1 l2).map (Value.int .u8) = [] ++ #[Value.int .u8 48].toList ++ #[Value.int .u8 ((l1.length + l2.length + 4 : Nat) : Int)].toList ++ #[Value.int .u8 2].toList ++ #[Value.int .u8 l1.length].toList ++ l1.map (Value.int .u8) ++ #[Value.int .u8 2].toList ++ #[Value.int .u8 l2.length].toList ++ l2.map (Value.int .u8) := by
    unfold sigB
    simp
  rw [this]
  exact ho

/-- Bytes with a zero ahead that may go. -/
def Shed (w : World) (B : Nat) (v : Value) (V : Int) : Prop :=
  ∃ (A : Option Addr) (m c : Nat) (l : List Int), v = .slice A m c ∧ m ≤ c ∧ 1 ≤ m ∧ m ≤ 33 ∧ Reads w B A m (l.map (Value.int .u8)) ∧ Dg 8 l ∧ be l = V ∧ l.getD 0 0 < 128

/-- Bytes that are as few as can be. -/
def ShedEnd (w : World) (B : Nat) (v : Value) (V : Int) : Prop :=
  ∃ (A : Option Addr) (m c : Nat) (l : List Int), v = .slice A m c ∧ m = l.length ∧ m ≤ c ∧ 1 ≤ m ∧ m ≤ 33 ∧ Reads w B A m (l.map (Value.int .u8)) ∧ Canon V l

abbrev zlit8 : Array Value := #[.int .u32 0, .int .u32 0, .int .u32 0, .int .u32 0, .int .u32 0, .int .u32 0, .int .u32 0, .int .u32 0]
abbrev zlit33 : Array Value := #[.int .u8 0, .int .u8 0, .int .u8 0, .int .u8 0, .int .u8 0, .int .u8 0, .int .u8 0, .int .u8 0, .int .u8 0, .int .u8 0, .int .u8 0, .int .u8 0, .int .u8 0, .int .u8 0, .int .u8 0, .int .u8 0, .int .u8 0, .int .u8 0, .int .u8 0, .int .u8 0, .int .u8 0, .int .u8 0, .int .u8 0, .int .u8 0, .int .u8 0, .int .u8 0, .int .u8 0, .int .u8 0, .int .u8 0, .int .u8 0, .int .u8 0, .int .u8 0, .int .u8 0]

set_option maxRecDepth 100000 in
set_option maxHeartbeats 2000000 in
theorem c_serialize {b o : Nat} {R S : Int} {w : World} (hR : 0 < R ∧ R < fn) (hS : 0 < S ∧ S < fn) (hbw : b < w.heap.size) (hc : ∀ (j : Nat) v, ((dig 32 8 R ++ dig 32 8 S).map (Value.int .u32))[j]? = some v → w.cell? ⟨b, o + j, none⟩ = some v) :
    Calls Tryd.prog 25 #[.pointer (some ⟨b, o, none⟩)] w (SigOut w R (lowOf S)) := by
  obtain ⟨i0, hi0, hz0, hz1, hz2⟩ := info_parts u8_info
  have hcR : ∀ (j : Nat) v, ((dig 32 8 R).map (Value.int .u32))[j]? = some v → w.cell? ⟨b, o + j, none⟩ = some v := fun j v hj => hc j v (by
    have hlt : j < (dig 32 8 R).length := by
      have := (List.getElem?_eq_some_iff.1 hj).1
      simpa using this
    rw [List.map_append, List.getElem?_append_left (by simpa using hlt)]
    exact hj)
  have hcS : ∀ (j : Nat) v, ((dig 32 8 S).map (Value.int .u32))[j]? = some v → w.cell? ⟨b, o + 8 + j, none⟩ = some v := fun j v hj => by
    have := hc (8 + j) v (by
      rw [List.map_append, List.getElem?_append_right (by simp [dig_length])]
      simpa [dig_length] using hj)
    rwa [← Nat.add_assoc] at this
  have hne : w.heap.size ≠ b := by omega
  have hset := c_sset1 (g := w.heap.size) (b := b) (o := o + 8) (T := 64) (old := List.replicate 8 0) (y := dig 32 8 S) (w := w.alloc (.cells zlit8 64)) (by simp) (dig_length 32 8 S) (heap_alloc_new w _)
    (by simp; omega) (fun j v hj => by rw [World.cell?_alloc_lt w _ _ hbw]; exact hcS j v hj) hne
  have HcR := Lib.hid hcR
  have HSet := Lib.hid hset
  have HbR := Lib.hid hR
  have HbS := Lib.hid hS
  clear hc hcR hcS hset hR hS hne
  have fl := fn_lt
  by_cases hlow : S ≤ fn / 2
  all_goals (
    have hlow' := hlow
    clear hlow)
  case pos =>
    have hdec : Hid (decide (fn / 2 < S) = false) := decide_eq_false (by show ¬ fn / 2 < S; omega)
    have hlo : lowOf S = S := by unfold lowOf; rw [if_pos hlow']
    have HLo := Lib.hid hlo
    clear hlow' hlo fl
    go_enter Tryd.func25, Tryd.ntmps25
    go_upto_region 4 with (first
      | (go_at_call 39; refine HSet.out.mono ?_; rintro e w1 ⟨rfl, hg1, ho1⟩
         have HG1 := Lib.hid hg1
         clear hg1)
      | (go_at_call 31; refine (c_shi HG1.out (Int.le_of_lt HbS.out.1) (Int.lt_trans HbS.out.2 fn_lt)).mono ?_; rintro e w4 ⟨rfl, hb4⟩; rw [hdec.out]))
    have hz1 := ho1.size
    have hg4 : w4.heap[w.heap.size]? = some (.cells ((dig 32 8 (lowOf S)).map (Value.int .u32)).toArray 64 (0, 0)) := by
      rw [HLo.out]
      exact (hb4.block _ (by simp at hz1; omega)).trans HG1.out
    have hB4 : Below w.heap.size w w4 := (ho1.below ((Below.refl _ _).alloc (Nat.le_refl _) _) (Nat.le_refl _) (Nat.le_refl _)).trans (hb4.mono (by simp at hz1; omega))
    have hs4 : w.heap.size < w4.heap.size := by have := hb4.size; simp at hz1; omega
    clear HG1 ho1 hb4 hz1 hdec
    have HG4 := Lib.hid hg4
    have HB4 := Lib.hid hB4
    clear hg4 hB4
    go_upto_region 5 with fail
    have hs5 : ((w4.alloc (.cells zlit33 80)).alloc (.cells zlit33 80)).heap.size = w4.heap.size + 2 := by simp
    have hb5 : Below w4.heap.size w4 ((w4.alloc (.cells zlit33 80)).alloc (.cells zlit33 80)) := ((Below.refl _ _).alloc (Nat.le_refl _) _).alloc (by simp) _
    have hga : ((w4.alloc (.cells zlit33 80)).alloc (.cells zlit33 80)).heap[w4.heap.size]? = some (.cells zlit33 80 (0, 0)) := (heap_alloc_old _ _ (by simp)).trans (heap_alloc_new w4 _)
    have hgb : ((w4.alloc (.cells zlit33 80)).alloc (.cells zlit33 80)).heap[w4.heap.size + 1]? = some (.cells zlit33 80 (0, 0)) := by
      have h := heap_alloc_new (w4.alloc (.cells zlit33 80)) (.cells zlit33 80)
      rwa [show (w4.alloc (.cells zlit33 80)).heap.size = w4.heap.size + 1 by simp] at h
    generalize (w4.alloc (.cells zlit33 80)).alloc (.cells zlit33 80) = W5 at hs5 hb5 hga hgb ⊢
    obtain ⟨g, hg⟩ : ∃ g, g = w4.heap.size := ⟨_, rfl⟩
    rw [← hg] at hs5 hb5 hga hgb hs4 ⊢
    have hB5 : Below w.heap.size w W5 := HB4.out.trans (hb5.mono (by omega))
    have hG5 : W5.heap[w.heap.size]? = some (.cells ((dig 32 8 (lowOf S)).map (Value.int .u32)).toArray 64 (0, 0)) := (hb5.block _ (by omega)).trans HG4.out
    have hq22 : ∀ W, (Instr.sliceAt 80 (.pointer (some ⟨g, 0, none⟩)) (some (.int .i64 1)) (some (.int .i64 33)) none).run Tryd.prog W = .ok (.slice (some ⟨g, 1, none⟩) 32 32) W := fun W => by
      have := run_cut_arr (P := Tryd.prog) Tryd.underlying80 (by kernel_rfl) ⟨g, 0, none⟩ (some 1) (some 33) 1 33 rfl rfl (by omega) (by omega) W
      rw [if_neg (by omega)] at this
      simpa [Addr.add] using this
    have hq25 : ∀ W, (Instr.sliceAt 80 (.pointer (some ⟨g + 1, 0, none⟩)) (some (.int .i64 1)) (some (.int .i64 33)) none).run Tryd.prog W = .ok (.slice (some ⟨g + 1, 1, none⟩) 32 32) W := fun W => by
      have := run_cut_arr (P := Tryd.prog) Tryd.underlying80 (by kernel_rfl) ⟨g + 1, 0, none⟩ (some 1) (some 33) 1 33 rfl rfl (by omega) (by omega) W
      rw [if_neg (by omega)] at this
      simpa [Addr.add] using this
    have hput := c_sputb (b := b) (o := o) (h := g) (T := 80) (w := W5.drew) (Int.le_of_lt HbR.out.1) (Int.lt_trans HbR.out.2 fn_lt) (by have := hB5.size; show b < W5.heap.size; omega)
      (fun j v hj => (hB5.cell (by exact hbw)).trans (HcR.out j v hj)) hga (by omega)
    have HPut := Lib.hid hput
    have HS5 := Lib.hid hs5
    have HB5 := Lib.hid hB5
    have HG5 := Lib.hid hG5
    have HGb := Lib.hid hgb
    have HS4 := Lib.hid hs4
    clear hput hs5 hB5 hG5 hga hgb hb5 hs4 hg HG4 HB4
    go_region_with (go_at_call 41; refine HPut.out.mono ?_; rintro e w6 ⟨rfl, hg6, ho6⟩)
    have hs6 := ho6.size
    have hs5 := HS5.out
    have hs4 := HS4.out
    have hB6 : Below w.heap.size w w6 := ho6.below HB5.out.drew (Nat.le_refl _) (by omega)
    have hG6 : w6.heap[w.heap.size]? = some (.cells ((dig 32 8 (lowOf S)).map (Value.int .u32)).toArray 64 (0, 0)) := (ho6.block _ (by show w.heap.size < W5.heap.size; omega) (by omega)).trans HG5.out
    have hGb6 : w6.heap[g + 1]? = some (.cells zlit33 80 (0, 0)) := (ho6.block _ (by show g + 1 < W5.heap.size; omega) (by omega)).trans HGb.out
    have hlr := lowOf_range HbS.out
    have hs6' : W5.heap.size ≤ w6.heap.size := hs6
    have hput := c_sputb (b := w.heap.size) (o := 0) (h := g + 1) (T := 80) (w := w6) (Int.le_of_lt hlr.1) (Int.lt_trans hlr.2 fn_lt) (by omega)
      (fun j v hj => by rw [Nat.zero_add]; simp only [World.cell?, hG6]; simpa using hj) hGb6 (by omega)
    have HPut6 := Lib.hid hput
    have HB6 := Lib.hid hB6
    have HG6 := Lib.hid hg6
    have HS6 := Lib.hid hs6'
    clear hput hB6 hG6 hGb6 hg6 ho6 hs6 hs6' hs5 hs4 hlr HG5 HGb HPut
    go_upto_region 7 with (go_at_call 41; refine HPut6.out.mono ?_; rintro e w7 ⟨rfl, hg7, ho7⟩)
    have hs7 := ho7.size
    have hs6 := HS6.out
    have hs5 := HS5.out
    have hs4 := HS4.out
    have hB7 : Below w.heap.size w w7 := ho7.below HB6.out (Nat.le_refl _) (by omega)
    have hG7 : w7.heap[g]? = some (.cells ((0 :: byt R).map (Value.int .u8)).toArray 80 (0, 0)) := (ho7.block _ (by omega) (by omega)).trans HG6.out
    have hr : Reads w7.drew w7.heap.size (some ⟨g, 0, none⟩) 33 ((0 :: byt R).map (Value.int .u8)) := by
      refine ⟨by simp [byt_length], fun _ => ⟨_, rfl, by show g < _; omega, fun j v hj => ?_⟩⟩
      rw [addr_add, Nat.zero_add]
      show w7.cell? _ = _
      simp only [World.cell?, hG7]
      simpa using hj
    have hs : Reads w7.drew w7.heap.size (some ⟨g + 1, 0, none⟩) 33 ((0 :: byt (lowOf S)).map (Value.int .u8)) := by
      refine ⟨by simp [byt_length], fun _ => ⟨_, rfl, by show g + 1 < _; omega, fun j v hj => ?_⟩⟩
      rw [addr_add, Nat.zero_add]
      show w7.cell? _ = _
      simp only [World.cell?, hg7]
      simpa using hj
    have hq27 : ∀ W, (Instr.sliceAt 80 (.pointer (some ⟨g, 0, none⟩)) none none none).run Tryd.prog W = .ok (.slice (some ⟨g, 0, none⟩) 33 33) W := fun W => by
      have := run_cut_arr (P := Tryd.prog) Tryd.underlying80 (by kernel_rfl) ⟨g, 0, none⟩ none none 0 33 rfl rfl (by omega) (by omega) W
      rw [if_neg (by omega)] at this
      simpa [Addr.add] using this
    have hq28 : ∀ W, (Instr.sliceAt 80 (.pointer (some ⟨g + 1, 0, none⟩)) none none none).run Tryd.prog W = .ok (.slice (some ⟨g + 1, 0, none⟩) 33 33) W := fun W => by
      have := run_cut_arr (P := Tryd.prog) Tryd.underlying80 (by kernel_rfl) ⟨g + 1, 0, none⟩ none none 0 33 rfl rfl (by omega) (by omega) W
      rw [if_neg (by omega)] at this
      simpa [Addr.add] using this
    have hB8 : Below w.heap.size w w7.drew := hB7.drew
    have hs8 : w7.drew.heap.size = w7.heap.size := rfl
    have hw8 : w.heap.size ≤ w7.heap.size := by omega
    have HR := Lib.hid hr
    have HS := Lib.hid hs
    have HB8 := Lib.hid hB8
    have HW8 := Lib.hid hw8
    clear hr hs hB8 hw8 hB7 hG7 hg7 ho7 hs7 hs6 hs5 hs4 hs8 HG6 HB6 HPut6 HB5 HS5 HS4 HS6 hq22 hq25
    go_region
    clear hq27 hq28
    have hs8 : w7.drew.heap.size = w7.heap.size := rfl
    rw [← hs8] at HR HS HW8
    generalize w7.drew = w8 at HR HS HB8 HW8 ⊢
    go_upto_block 0 with fail
    go_cut [6] (fun s6 wx => w8 = wx ∧ ShedEnd w8 w8.heap.size s6 R)
    case first =>
      go_wp2_with fail
      go_loop [6] (fun t => Shed w8 w8.heap.size t R) (fun t => lenOf t)
      case atStart => exact ⟨_, 33, 33, _, rfl, Nat.le_refl _, by omega, Nat.le_refl _, HR.out, fun x hx => by
          rcases List.mem_cons.1 hx with rfl | hx
          · decide
          · exact byt_dg R x hx, by rw [be_cons_zero, byt_be (Int.le_of_lt HbR.out.1) (Int.lt_trans HbR.out.2 fn_lt)], by show (0 : Int) < 128; decide⟩
      case round =>
        obtain ⟨A, m, c', l, rfl, hmc, hm1, hm33, hr, hd, hbe, hlo⟩ := hrel
        have HRr := Lib.hid hr
        have HRd := Lib.hid hd
        have HRe := Lib.hid hbe
        obtain ⟨ad, y, r, hA, hl, hy⟩ := Rest.open hr (by omega)
        subst hA
        subst hl
        have hlen : r.length + 1 = m := by have := hr.1; simpa using this
        have hlo' : y < 128 := hlo
        have HLo' := Lib.hid hlo'
        have HLen := Lib.hid hlen
        clear hr hd hbe hlo hlo' hlen
        by_cases hm2 : 1 < m
        · have hm2' : (1 : Int) < m := by omega
          by_cases hy0 : y = 0
          · subst hy0
            obtain ⟨z, hz⟩ : ∃ z, z = r.getD 0 0 := ⟨_, rfl⟩
            have hzc : w8.cell? ⟨ad.block, ad.off + 1, none⟩ = some (.int .u8 z) := by
              have := HRr.out.cell (j := 1) hm2
              rw [hz]
              simpa [Addr.add] using this
            have hbz : bit128 z := by rw [hz]; exact bit128_of (HRd.out.tail.getD 0).1 (HRd.out.tail.getD 0).2
            have HZ := Lib.hid hz
            clear hz
            rcases hbz with ⟨hz1, hz2⟩ | ⟨hz1, hz2⟩
            · have hzz : (bits .and .u8 z 128 == 0) = true := by rw [hz2]; rfl
              have HZ1 := Lib.hid hz1
              obtain ⟨A', hA'⟩ : ∃ A' : Option Addr, A' = if c' = 1 then some ad else some (ad.add 1) := ⟨_, rfl⟩
              have ec : ∀ W, (Instr.sliceAt 22 (.slice (some ad) m c') (some (.int .i64 1)) none none).run Tryd.prog W = .ok (.slice A' (m - 1) (c' - 1)) W := fun W => by rw [hA']; exact run_cut1 ad (by omega) hmc W
              have hr2 : Reads w8 w8.heap.size A' (m - 1) (r.map (Value.int .u8)) := by rw [hA']; exact HRr.out.tail1 hmc
              have HR2 := Lib.hid hr2
              clear hr2 hA' hz1 hz2
              go_wp2_with fail
              go_round
              case rel => exact ⟨A', m - 1, c' - 1, r, rfl, by omega, by omega, by omega, HR2.out, HRd.out.tail, (be_cons_zero r).symm.trans HRe.out, by rw [← HZ.out]; exact HZ1.out⟩
              case measure => simp [lenOf]; omega
            · have hzz : (bits .and .u8 z 128 == 0) = false := by rw [hz2]; rfl
              have HZ1 := Lib.hid hz1
              clear hz1 hz2
              go_wp2_with fail
              go_meet
              refine ⟨rfl, some ad, m, c', 0 :: r, rfl, by have := HLen.out; simp; omega, hmc, hm1, hm33, HRr.out, HRd.out, HRe.out, by simp, by show (0 : Int) < 128; decide, ?_⟩
              rintro ⟨_, _, h3⟩
              have h4 : (0 :: r).getD 1 0 = z := by rw [HZ.out]; rfl
              rw [h4] at h3
              have := HZ1.out
              omega
          · have hyb : (y == 0) = false := by simp [hy0]
            have HY0 := Lib.hid hy0
            clear hy0
            go_wp2_with fail
            go_meet
            refine ⟨rfl, some ad, m, c', y :: r, rfl, by have := HLen.out; simp; omega, hmc, hm1, hm33, HRr.out, HRd.out, HRe.out, by simp, HLo'.out, ?_⟩
            rintro ⟨_, h2, _⟩
            exact HY0.out h2
        · have hm2' : (m : Int) ≤ 1 := by omega
          have HM2 := Lib.hid hm2
          clear hm2
          go_wp2_with fail
          go_meet
          refine ⟨rfl, some ad, m, c', y :: r, rfl, by have := HLen.out; simp; omega, hmc, hm1, hm33, HRr.out, HRd.out, HRe.out, by simp, HLo'.out, ?_⟩
          rintro ⟨h1, _, _⟩
          have := HLen.out
          have := HM2.out
          simp at h1
          omega
    case rest =>
      obtain ⟨rfl, A1, m1, c1, l1, rfl, hl1, hmc1, hm11, hm133, hr1, hcan1⟩ := hcut
      have HR1 := Lib.hid hr1
      have HC1 := Lib.hid hcan1
      have HL1 := Lib.hid hl1
      have HlR := Lib.hid (lowOf_range HbS.out)
      clear hr1 hcan1 hl1 HR
      go_upto_block 2 with fail
      go_cut [7] (fun s7 wx => w8 = wx ∧ ShedEnd w8 w8.heap.size s7 (lowOf S))
      case first =>
        go_wp2_with fail
        go_loop [7] (fun t => Shed w8 w8.heap.size t (lowOf S)) (fun t => lenOf t)
        case atStart => exact ⟨_, 33, 33, _, rfl, Nat.le_refl _, by omega, Nat.le_refl _, HS.out, fun x hx => by
            rcases List.mem_cons.1 hx with rfl | hx
            · decide
            · exact byt_dg _ x hx, by rw [be_cons_zero, byt_be (Int.le_of_lt HlR.out.1) (Int.lt_trans HlR.out.2 fn_lt)], by show (0 : Int) < 128; decide⟩
        case round =>
          obtain ⟨A, m, c', l, rfl, hmc, hm1, hm33, hr, hd, hbe, hlo⟩ := hrel
          have HRr := Lib.hid hr
          have HRd := Lib.hid hd
          have HRe := Lib.hid hbe
          obtain ⟨ad, y, r, hA, hl, hy⟩ := Rest.open hr (by omega)
          subst hA
          subst hl
          have hlen : r.length + 1 = m := by have := hr.1; simpa using this
          have hlo' : y < 128 := hlo
          have HLo' := Lib.hid hlo'
          have HLen := Lib.hid hlen
          clear hr hd hbe hlo hlo' hlen
          by_cases hm2 : 1 < m
          · have hm2' : (1 : Int) < m := by omega
            by_cases hy0 : y = 0
            · subst hy0
              obtain ⟨z, hz⟩ : ∃ z, z = r.getD 0 0 := ⟨_, rfl⟩
              have hzc : w8.cell? ⟨ad.block, ad.off + 1, none⟩ = some (.int .u8 z) := by
                have := HRr.out.cell (j := 1) hm2
                rw [hz]
                simpa [Addr.add] using this
              have hbz : bit128 z := by rw [hz]; exact bit128_of (HRd.out.tail.getD 0).1 (HRd.out.tail.getD 0).2
              have HZ := Lib.hid hz
              clear hz
              rcases hbz with ⟨hz1, hz2⟩ | ⟨hz1, hz2⟩
              · have hzz : (bits .and .u8 z 128 == 0) = true := by rw [hz2]; rfl
                have HZ1 := Lib.hid hz1
                obtain ⟨A', hA'⟩ : ∃ A' : Option Addr, A' = if c' = 1 then some ad else some (ad.add 1) := ⟨_, rfl⟩
                have ec : ∀ W, (Instr.sliceAt 22 (.slice (some ad) m c') (some (.int .i64 1)) none none).run Tryd.prog W = .ok (.slice A' (m - 1) (c' - 1)) W := fun W => by rw [hA']; exact run_cut1 ad (by omega) hmc W
                have hr2 : Reads w8 w8.heap.size A' (m - 1) (r.map (Value.int .u8)) := by rw [hA']; exact HRr.out.tail1 hmc
                have HR2 := Lib.hid hr2
                clear hr2 hA' hz1 hz2
                go_wp2_with fail
                go_round
                case rel => exact ⟨A', m - 1, c' - 1, r, rfl, by omega, by omega, by omega, HR2.out, HRd.out.tail, (be_cons_zero r).symm.trans HRe.out, by rw [← HZ.out]; exact HZ1.out⟩
                case measure => simp [lenOf]; omega
              · have hzz : (bits .and .u8 z 128 == 0) = false := by rw [hz2]; rfl
                have HZ1 := Lib.hid hz1
                clear hz1 hz2
                go_wp2_with fail
                go_meet
                refine ⟨rfl, some ad, m, c', 0 :: r, rfl, by have := HLen.out; simp; omega, hmc, hm1, hm33, HRr.out, HRd.out, HRe.out, by simp, by show (0 : Int) < 128; decide, ?_⟩
                rintro ⟨_, _, h3⟩
                have h4 : (0 :: r).getD 1 0 = z := by rw [HZ.out]; rfl
                rw [h4] at h3
                have := HZ1.out
                omega
            · have hyb : (y == 0) = false := by simp [hy0]
              have HY0 := Lib.hid hy0
              clear hy0
              go_wp2_with fail
              go_meet
              refine ⟨rfl, some ad, m, c', y :: r, rfl, by have := HLen.out; simp; omega, hmc, hm1, hm33, HRr.out, HRd.out, HRe.out, by simp, HLo'.out, ?_⟩
              rintro ⟨_, h2, _⟩
              exact HY0.out h2
          · have hm2' : (m : Int) ≤ 1 := by omega
            have HM2 := Lib.hid hm2
            clear hm2
            go_wp2_with fail
            go_meet
            refine ⟨rfl, some ad, m, c', y :: r, rfl, by have := HLen.out; simp; omega, hmc, hm1, hm33, HRr.out, HRd.out, HRe.out, by simp, HLo'.out, ?_⟩
            rintro ⟨h1, _, _⟩
            have := HLen.out
            have := HM2.out
            simp at h1
            omega
      case rest =>
        obtain ⟨rfl, A2, m2, c2, l2, rfl, hl2, hmc2, hm21, hm233, hr2, hcan2⟩ := hcut
        have HR2 := Lib.hid hr2
        have HC2 := Lib.hid hcan2
        have HL2 := Lib.hid hl2
        clear hr2 hcan2 hl2
        go_wp2_with (first
          | (refine wpList_make_own _ rfl _ _ _ rfl w8.heap.size 5 i0 _ 1 Tryd.underlying22 hi0 hz0 hz1 _ _ _ (6 + m1 + m2) rfl rfl (by push_cast; omega) (by rw [hz2]; omega) (by unfold maxLen; omega) (Nat.le_refl _) ?_; intro x0 ho hg
             have HB0 : Hid (Below w8.heap.size w8 x0) := below_grown (Below.refl _ _) hg (Nat.le_refl _) fun q hq => by cases hq
             obtain ⟨v0, hv0⟩ : ∃ v : Value, v = .slice (some ⟨w8.heap.size, 0, none⟩) 0 (6 + m1 + m2) := ⟨_, rfl⟩
             rw [← hv0] at ho ⊢
             have HO0 := Lib.hid ho
             clear ho hg hv0)
          | (at_builtin; refine wpList_append_any rfl (.tmp 73) (.tmp 74) _ rfl w8.heap.size 5 i0 _ Tryd.underlying22 hi0 hz0 hz1 hz2 rfl v0 _ _ rfl (owns_below HO0.out ((Below.refl _ _).alloc (Nat.le_refl _) _)) _ (some ⟨x0.heap.size, 0, none⟩) 1 1 _ rfl (Reads.of_own (owns_lit x0 #[.int .u8 _] 1 _ (by omega) rfl)) lit_one (by omega) (Nat.le_trans HB0.out.size (by simp)) ?_; intro v1 x1 ho hg hat
             have HO1 := Lib.hid ho
             have HB1 : Hid (Below w8.heap.size w8 x1) := below_grown (HB0.out.alloc HB0.out.size _) hg (Nat.le_refl _) fun q hq => (HO0.out.lt q hq).1
             clear ho hg hat)
          | (at_builtin; refine wpList_append_any rfl (.tmp 76) (.tmp 80) _ rfl w8.heap.size 5 i0 _ Tryd.underlying22 hi0 hz0 hz1 hz2 rfl v1 _ _ rfl (owns_below HO1.out ((Below.refl _ _).alloc (Nat.le_refl _) _)) _ (some ⟨x1.heap.size, 0, none⟩) 1 1 _ rfl (Reads.of_own (owns_lit x1 #[.int .u8 _] 1 _ (by omega) rfl)) lit_one (by omega) (Nat.le_trans HB1.out.size (by simp)) ?_; intro v2 x2 ho hg hat
             have HO2 := Lib.hid ho
             have HB2 : Hid (Below w8.heap.size w8 x2) := below_grown (HB1.out.alloc HB1.out.size _) hg (Nat.le_refl _) fun q hq => (HO1.out.lt q hq).1
             clear ho hg hat)
          | (at_builtin; refine wpList_append_any rfl (.tmp 82) (.tmp 83) _ rfl w8.heap.size 5 i0 _ Tryd.underlying22 hi0 hz0 hz1 hz2 rfl v2 _ _ rfl (owns_below HO2.out ((Below.refl _ _).alloc (Nat.le_refl _) _)) _ (some ⟨x2.heap.size, 0, none⟩) 1 1 _ rfl (Reads.of_own (owns_lit x2 #[.int .u8 _] 1 _ (by omega) rfl)) lit_one (by omega) (Nat.le_trans HB2.out.size (by simp)) ?_; intro v3 x3 ho hg hat
             have HO3 := Lib.hid ho
             have HB3 : Hid (Below w8.heap.size w8 x3) := below_grown (HB2.out.alloc HB2.out.size _) hg (Nat.le_refl _) fun q hq => (HO2.out.lt q hq).1
             clear ho hg hat)
          | (at_builtin; refine wpList_append_any rfl (.tmp 85) (.tmp 89) _ rfl w8.heap.size 5 i0 _ Tryd.underlying22 hi0 hz0 hz1 hz2 rfl v3 _ _ rfl (owns_below HO3.out ((Below.refl _ _).alloc (Nat.le_refl _) _)) _ (some ⟨x3.heap.size, 0, none⟩) 1 1 _ rfl (Reads.of_own (owns_lit x3 #[.int .u8 _] 1 _ (by omega) rfl)) lit_one (by omega) (Nat.le_trans HB3.out.size (by simp)) ?_; intro v4 x4 ho hg hat
             have HO4 := Lib.hid ho
             have HB4 : Hid (Below w8.heap.size w8 x4) := below_grown (HB3.out.alloc HB3.out.size _) hg (Nat.le_refl _) fun q hq => (HO3.out.lt q hq).1
             clear ho hg hat)
          | (at_builtin; refine wpList_append_any rfl (.tmp 91) (.tmp 92) _ rfl w8.heap.size 5 i0 _ Tryd.underlying22 hi0 hz0 hz1 hz2 rfl v4 _ _ rfl HO4.out _ A1 m1 c1 _ rfl (HR1.out.below HB4.out) ints_one (by omega) HB4.out.size ?_; intro v5 x5 ho hg hat
             have HO5 := Lib.hid ho
             have HB5 : Hid (Below w8.heap.size w8 x5) := below_grown HB4.out hg (Nat.le_refl _) fun q hq => (HO4.out.lt q hq).1
             clear ho hg hat)
          | (at_builtin; refine wpList_append_any rfl (.tmp 94) (.tmp 95) _ rfl w8.heap.size 5 i0 _ Tryd.underlying22 hi0 hz0 hz1 hz2 rfl v5 _ _ rfl (owns_below HO5.out ((Below.refl _ _).alloc (Nat.le_refl _) _)) _ (some ⟨x5.heap.size, 0, none⟩) 1 1 _ rfl (Reads.of_own (owns_lit x5 #[.int .u8 _] 1 _ (by omega) rfl)) lit_one (by omega) (Nat.le_trans HB5.out.size (by simp)) ?_; intro v6 x6 ho hg hat
             have HO6 := Lib.hid ho
             have HB6 : Hid (Below w8.heap.size w8 x6) := below_grown (HB5.out.alloc HB5.out.size _) hg (Nat.le_refl _) fun q hq => (HO5.out.lt q hq).1
             clear ho hg hat)
          | (at_builtin; refine wpList_append_any rfl (.tmp 97) (.tmp 101) _ rfl w8.heap.size 5 i0 _ Tryd.underlying22 hi0 hz0 hz1 hz2 rfl v6 _ _ rfl (owns_below HO6.out ((Below.refl _ _).alloc (Nat.le_refl _) _)) _ (some ⟨x6.heap.size, 0, none⟩) 1 1 _ rfl (Reads.of_own (owns_lit x6 #[.int .u8 _] 1 _ (by omega) rfl)) lit_one (by omega) (Nat.le_trans HB6.out.size (by simp)) ?_; intro v7 x7 ho hg hat
             have HO7 := Lib.hid ho
             have HB7 : Hid (Below w8.heap.size w8 x7) := below_grown (HB6.out.alloc HB6.out.size _) hg (Nat.le_refl _) fun q hq => (HO6.out.lt q hq).1
             clear ho hg hat)
          | (at_builtin; refine wpList_append_any rfl (.tmp 103) (.tmp 104) _ rfl w8.heap.size 5 i0 _ Tryd.underlying22 hi0 hz0 hz1 hz2 rfl v7 _ _ rfl HO7.out _ A2 m2 c2 _ rfl (HR2.out.below HB7.out) ints_one (by omega) HB7.out.size ?_; intro v8 x8 ho hg hat
             have HO8 := Lib.hid ho
             have HB8' : Hid (Below w8.heap.size w8 x8) := below_grown HB7.out hg (Nat.le_refl _) fun q hq => (HO7.out.lt q hq).1
             clear ho hg hat))
        go_ret
        refine ser_end (w8 := w8) HC1.out HC2.out (HB8.out.trans (HB8'.out.mono HW8.out)) HW8.out HO8.out ?_ ?_ ?_ ?_
        · rw [← HL1.out, ← HL2.out]; omega
        · rw [← HL1.out, ← HL2.out]; push_cast; omega
        · rw [← HL1.out]
        · rw [← HL2.out]
  case neg =>
    have hdec : Hid (decide (fn / 2 < S) = true) := decide_eq_true (by omega)
    have hlo : lowOf S = fn - S := by unfold lowOf; rw [if_neg hlow']
    have HLo := Lib.hid hlo
    clear hlow' hlo fl
    go_enter Tryd.func25, Tryd.ntmps25
    go_upto_region 4 with (first
      | (go_at_call 39; refine HSet.out.mono ?_; rintro e w1 ⟨rfl, hg1, ho1⟩
         have HG1 := Lib.hid hg1
         clear hg1)
      | (go_at_call 31; refine (c_shi HG1.out (Int.le_of_lt HbS.out.1) (Int.lt_trans HbS.out.2 fn_lt)).mono ?_; rintro e w2 ⟨rfl, hb2⟩; rw [hdec.out]
         have HG2 := Lib.hid ((hb2.block _ (by have := ho1.size; simp at this; omega)).trans HG1.out))
      | (go_at_call 40; refine (c_sneg HG2.out HbS.out.1 HbS.out.2).mono ?_; rintro e w4 ⟨rfl, hg4, ho4⟩))
    have hz1 := ho1.size
    rw [← HLo.out] at hg4
    have hB2 : Below w.heap.size w w2 := (ho1.below ((Below.refl _ _).alloc (Nat.le_refl _) _) (Nat.le_refl _) (Nat.le_refl _)).trans (hb2.mono (by simp at hz1; omega))
    have hB4 : Below w.heap.size w w4 := ho4.below hB2 (Nat.le_refl _) (Nat.le_refl _)
    have hs4 : w.heap.size < w4.heap.size := by have := hb2.size; have := ho4.size; simp at hz1; omega
    clear HG1 HG2 ho1 hb2 hz1 hdec hB2 ho4
    have HG4 := Lib.hid hg4
    have HB4 := Lib.hid hB4
    clear hg4 hB4
    go_upto_region 5 with fail
    have hs5 : ((w4.alloc (.cells zlit33 80)).alloc (.cells zlit33 80)).heap.size = w4.heap.size + 2 := by simp
    have hb5 : Below w4.heap.size w4 ((w4.alloc (.cells zlit33 80)).alloc (.cells zlit33 80)) := ((Below.refl _ _).alloc (Nat.le_refl _) _).alloc (by simp) _
    have hga : ((w4.alloc (.cells zlit33 80)).alloc (.cells zlit33 80)).heap[w4.heap.size]? = some (.cells zlit33 80 (0, 0)) := (heap_alloc_old _ _ (by simp)).trans (heap_alloc_new w4 _)
    have hgb : ((w4.alloc (.cells zlit33 80)).alloc (.cells zlit33 80)).heap[w4.heap.size + 1]? = some (.cells zlit33 80 (0, 0)) := by
      have h := heap_alloc_new (w4.alloc (.cells zlit33 80)) (.cells zlit33 80)
      rwa [show (w4.alloc (.cells zlit33 80)).heap.size = w4.heap.size + 1 by simp] at h
    generalize (w4.alloc (.cells zlit33 80)).alloc (.cells zlit33 80) = W5 at hs5 hb5 hga hgb ⊢
    obtain ⟨g, hg⟩ : ∃ g, g = w4.heap.size := ⟨_, rfl⟩
    rw [← hg] at hs5 hb5 hga hgb hs4 ⊢
    have hB5 : Below w.heap.size w W5 := HB4.out.trans (hb5.mono (by omega))
    have hG5 : W5.heap[w.heap.size]? = some (.cells ((dig 32 8 (lowOf S)).map (Value.int .u32)).toArray 64 (0, 0)) := (hb5.block _ (by omega)).trans HG4.out
    have hq22 : ∀ W, (Instr.sliceAt 80 (.pointer (some ⟨g, 0, none⟩)) (some (.int .i64 1)) (some (.int .i64 33)) none).run Tryd.prog W = .ok (.slice (some ⟨g, 1, none⟩) 32 32) W := fun W => by
      have := run_cut_arr (P := Tryd.prog) Tryd.underlying80 (by kernel_rfl) ⟨g, 0, none⟩ (some 1) (some 33) 1 33 rfl rfl (by omega) (by omega) W
      rw [if_neg (by omega)] at this
      simpa [Addr.add] using this
    have hq25 : ∀ W, (Instr.sliceAt 80 (.pointer (some ⟨g + 1, 0, none⟩)) (some (.int .i64 1)) (some (.int .i64 33)) none).run Tryd.prog W = .ok (.slice (some ⟨g + 1, 1, none⟩) 32 32) W := fun W => by
      have := run_cut_arr (P := Tryd.prog) Tryd.underlying80 (by kernel_rfl) ⟨g + 1, 0, none⟩ (some 1) (some 33) 1 33 rfl rfl (by omega) (by omega) W
      rw [if_neg (by omega)] at this
      simpa [Addr.add] using this
    have hput := c_sputb (b := b) (o := o) (h := g) (T := 80) (w := W5.drew) (Int.le_of_lt HbR.out.1) (Int.lt_trans HbR.out.2 fn_lt) (by have := hB5.size; show b < W5.heap.size; omega)
      (fun j v hj => (hB5.cell (by exact hbw)).trans (HcR.out j v hj)) hga (by omega)
    have HPut := Lib.hid hput
    have HS5 := Lib.hid hs5
    have HB5 := Lib.hid hB5
    have HG5 := Lib.hid hG5
    have HGb := Lib.hid hgb
    have HS4 := Lib.hid hs4
    clear hput hs5 hB5 hG5 hga hgb hb5 hs4 hg HG4 HB4
    go_region_with (go_at_call 41; refine HPut.out.mono ?_; rintro e w6 ⟨rfl, hg6, ho6⟩)
    have hs6 := ho6.size
    have hs5 := HS5.out
    have hs4 := HS4.out
    have hB6 : Below w.heap.size w w6 := ho6.below HB5.out.drew (Nat.le_refl _) (by omega)
    have hG6 : w6.heap[w.heap.size]? = some (.cells ((dig 32 8 (lowOf S)).map (Value.int .u32)).toArray 64 (0, 0)) := (ho6.block _ (by show w.heap.size < W5.heap.size; omega) (by omega)).trans HG5.out
    have hGb6 : w6.heap[g + 1]? = some (.cells zlit33 80 (0, 0)) := (ho6.block _ (by show g + 1 < W5.heap.size; omega) (by omega)).trans HGb.out
    have hlr := lowOf_range HbS.out
    have hs6' : W5.heap.size ≤ w6.heap.size := hs6
    have hput := c_sputb (b := w.heap.size) (o := 0) (h := g + 1) (T := 80) (w := w6) (Int.le_of_lt hlr.1) (Int.lt_trans hlr.2 fn_lt) (by omega)
      (fun j v hj => by rw [Nat.zero_add]; simp only [World.cell?, hG6]; simpa using hj) hGb6 (by omega)
    have HPut6 := Lib.hid hput
    have HB6 := Lib.hid hB6
    have HG6 := Lib.hid hg6
    have HS6 := Lib.hid hs6'
    clear hput hB6 hG6 hGb6 hg6 ho6 hs6 hs6' hs5 hs4 hlr HG5 HGb HPut
    go_upto_region 7 with (go_at_call 41; refine HPut6.out.mono ?_; rintro e w7 ⟨rfl, hg7, ho7⟩)
    have hs7 := ho7.size
    have hs6 := HS6.out
    have hs5 := HS5.out
    have hs4 := HS4.out
    have hB7 : Below w.heap.size w w7 := ho7.below HB6.out (Nat.le_refl _) (by omega)
    have hG7 : w7.heap[g]? = some (.cells ((0 :: byt R).map (Value.int .u8)).toArray 80 (0, 0)) := (ho7.block _ (by omega) (by omega)).trans HG6.out
    have hr : Reads w7.drew w7.heap.size (some ⟨g, 0, none⟩) 33 ((0 :: byt R).map (Value.int .u8)) := by
      refine ⟨by simp [byt_length], fun _ => ⟨_, rfl, by show g < _; omega, fun j v hj => ?_⟩⟩
      rw [addr_add, Nat.zero_add]
      show w7.cell? _ = _
      simp only [World.cell?, hG7]
      simpa using hj
    have hs : Reads w7.drew w7.heap.size (some ⟨g + 1, 0, none⟩) 33 ((0 :: byt (lowOf S)).map (Value.int .u8)) := by
      refine ⟨by simp [byt_length], fun _ => ⟨_, rfl, by show g + 1 < _; omega, fun j v hj => ?_⟩⟩
      rw [addr_add, Nat.zero_add]
      show w7.cell? _ = _
      simp only [World.cell?, hg7]
      simpa using hj
    have hq27 : ∀ W, (Instr.sliceAt 80 (.pointer (some ⟨g, 0, none⟩)) none none none).run Tryd.prog W = .ok (.slice (some ⟨g, 0, none⟩) 33 33) W := fun W => by
      have := run_cut_arr (P := Tryd.prog) Tryd.underlying80 (by kernel_rfl) ⟨g, 0, none⟩ none none 0 33 rfl rfl (by omega) (by omega) W
      rw [if_neg (by omega)] at this
      simpa [Addr.add] using this
    have hq28 : ∀ W, (Instr.sliceAt 80 (.pointer (some ⟨g + 1, 0, none⟩)) none none none).run Tryd.prog W = .ok (.slice (some ⟨g + 1, 0, none⟩) 33 33) W := fun W => by
      have := run_cut_arr (P := Tryd.prog) Tryd.underlying80 (by kernel_rfl) ⟨g + 1, 0, none⟩ none none 0 33 rfl rfl (by omega) (by omega) W
      rw [if_neg (by omega)] at this
      simpa [Addr.add] using this
    have hB8 : Below w.heap.size w w7.drew := hB7.drew
    have hs8 : w7.drew.heap.size = w7.heap.size := rfl
    have hw8 : w.heap.size ≤ w7.heap.size := by omega
    have HR := Lib.hid hr
    have HS := Lib.hid hs
    have HB8 := Lib.hid hB8
    have HW8 := Lib.hid hw8
    clear hr hs hB8 hw8 hB7 hG7 hg7 ho7 hs7 hs6 hs5 hs4 hs8 HG6 HB6 HPut6 HB5 HS5 HS4 HS6 hq22 hq25
    go_region
    clear hq27 hq28
    have hs8 : w7.drew.heap.size = w7.heap.size := rfl
    rw [← hs8] at HR HS HW8
    generalize w7.drew = w8 at HR HS HB8 HW8 ⊢
    go_upto_block 0 with fail
    go_cut [6] (fun s6 wx => w8 = wx ∧ ShedEnd w8 w8.heap.size s6 R)
    case first =>
      go_wp2_with fail
      go_loop [6] (fun t => Shed w8 w8.heap.size t R) (fun t => lenOf t)
      case atStart => exact ⟨_, 33, 33, _, rfl, Nat.le_refl _, by omega, Nat.le_refl _, HR.out, fun x hx => by
          rcases List.mem_cons.1 hx with rfl | hx
          · decide
          · exact byt_dg R x hx, by rw [be_cons_zero, byt_be (Int.le_of_lt HbR.out.1) (Int.lt_trans HbR.out.2 fn_lt)], by show (0 : Int) < 128; decide⟩
      case round =>
        obtain ⟨A, m, c', l, rfl, hmc, hm1, hm33, hr, hd, hbe, hlo⟩ := hrel
        have HRr := Lib.hid hr
        have HRd := Lib.hid hd
        have HRe := Lib.hid hbe
        obtain ⟨ad, y, r, hA, hl, hy⟩ := Rest.open hr (by omega)
        subst hA
        subst hl
        have hlen : r.length + 1 = m := by have := hr.1; simpa using this
        have hlo' : y < 128 := hlo
        have HLo' := Lib.hid hlo'
        have HLen := Lib.hid hlen
        clear hr hd hbe hlo hlo' hlen
        by_cases hm2 : 1 < m
        · have hm2' : (1 : Int) < m := by omega
          by_cases hy0 : y = 0
          · subst hy0
            obtain ⟨z, hz⟩ : ∃ z, z = r.getD 0 0 := ⟨_, rfl⟩
            have hzc : w8.cell? ⟨ad.block, ad.off + 1, none⟩ = some (.int .u8 z) := by
              have := HRr.out.cell (j := 1) hm2
              rw [hz]
              simpa [Addr.add] using this
            have hbz : bit128 z := by rw [hz]; exact bit128_of (HRd.out.tail.getD 0).1 (HRd.out.tail.getD 0).2
            have HZ := Lib.hid hz
            clear hz
            rcases hbz with ⟨hz1, hz2⟩ | ⟨hz1, hz2⟩
            · have hzz : (bits .and .u8 z 128 == 0) = true := by rw [hz2]; rfl
              have HZ1 := Lib.hid hz1
              obtain ⟨A', hA'⟩ : ∃ A' : Option Addr, A' = if c' = 1 then some ad else some (ad.add 1) := ⟨_, rfl⟩
              have ec : ∀ W, (Instr.sliceAt 22 (.slice (some ad) m c') (some (.int .i64 1)) none none).run Tryd.prog W = .ok (.slice A' (m - 1) (c' - 1)) W := fun W => by rw [hA']; exact run_cut1 ad (by omega) hmc W
              have hr2 : Reads w8 w8.heap.size A' (m - 1) (r.map (Value.int .u8)) := by rw [hA']; exact HRr.out.tail1 hmc
              have HR2 := Lib.hid hr2
              clear hr2 hA' hz1 hz2
              go_wp2_with fail
              go_round
              case rel => exact ⟨A', m - 1, c' - 1, r, rfl, by omega, by omega, by omega, HR2.out, HRd.out.tail, (be_cons_zero r).symm.trans HRe.out, by rw [← HZ.out]; exact HZ1.out⟩
              case measure => simp [lenOf]; omega
            · have hzz : (bits .and .u8 z 128 == 0) = false := by rw [hz2]; rfl
              have HZ1 := Lib.hid hz1
              clear hz1 hz2
              go_wp2_with fail
              go_meet
              refine ⟨rfl, some ad, m, c', 0 :: r, rfl, by have := HLen.out; simp; omega, hmc, hm1, hm33, HRr.out, HRd.out, HRe.out, by simp, by show (0 : Int) < 128; decide, ?_⟩
              rintro ⟨_, _, h3⟩
              have h4 : (0 :: r).getD 1 0 = z := by rw [HZ.out]; rfl
              rw [h4] at h3
              have := HZ1.out
              omega
          · have hyb : (y == 0) = false := by simp [hy0]
            have HY0 := Lib.hid hy0
            clear hy0
            go_wp2_with fail
            go_meet
            refine ⟨rfl, some ad, m, c', y :: r, rfl, by have := HLen.out; simp; omega, hmc, hm1, hm33, HRr.out, HRd.out, HRe.out, by simp, HLo'.out, ?_⟩
            rintro ⟨_, h2, _⟩
            exact HY0.out h2
        · have hm2' : (m : Int) ≤ 1 := by omega
          have HM2 := Lib.hid hm2
          clear hm2
          go_wp2_with fail
          go_meet
          refine ⟨rfl, some ad, m, c', y :: r, rfl, by have := HLen.out; simp; omega, hmc, hm1, hm33, HRr.out, HRd.out, HRe.out, by simp, HLo'.out, ?_⟩
          rintro ⟨h1, _, _⟩
          have := HLen.out
          have := HM2.out
          simp at h1
          omega
    case rest =>
      obtain ⟨rfl, A1, m1, c1, l1, rfl, hl1, hmc1, hm11, hm133, hr1, hcan1⟩ := hcut
      have HR1 := Lib.hid hr1
      have HC1 := Lib.hid hcan1
      have HL1 := Lib.hid hl1
      have HlR := Lib.hid (lowOf_range HbS.out)
      clear hr1 hcan1 hl1 HR
      go_upto_block 2 with fail
      go_cut [7] (fun s7 wx => w8 = wx ∧ ShedEnd w8 w8.heap.size s7 (lowOf S))
      case first =>
        go_wp2_with fail
        go_loop [7] (fun t => Shed w8 w8.heap.size t (lowOf S)) (fun t => lenOf t)
        case atStart => exact ⟨_, 33, 33, _, rfl, Nat.le_refl _, by omega, Nat.le_refl _, HS.out, fun x hx => by
            rcases List.mem_cons.1 hx with rfl | hx
            · decide
            · exact byt_dg _ x hx, by rw [be_cons_zero, byt_be (Int.le_of_lt HlR.out.1) (Int.lt_trans HlR.out.2 fn_lt)], by show (0 : Int) < 128; decide⟩
        case round =>
          obtain ⟨A, m, c', l, rfl, hmc, hm1, hm33, hr, hd, hbe, hlo⟩ := hrel
          have HRr := Lib.hid hr
          have HRd := Lib.hid hd
          have HRe := Lib.hid hbe
          obtain ⟨ad, y, r, hA, hl, hy⟩ := Rest.open hr (by omega)
          subst hA
          subst hl
          have hlen : r.length + 1 = m := by have := hr.1; simpa using this
          have hlo' : y < 128 := hlo
          have HLo' := Lib.hid hlo'
          have HLen := Lib.hid hlen
          clear hr hd hbe hlo hlo' hlen
          by_cases hm2 : 1 < m
          · have hm2' : (1 : Int) < m := by omega
            by_cases hy0 : y = 0
            · subst hy0
              obtain ⟨z, hz⟩ : ∃ z, z = r.getD 0 0 := ⟨_, rfl⟩
              have hzc : w8.cell? ⟨ad.block, ad.off + 1, none⟩ = some (.int .u8 z) := by
                have := HRr.out.cell (j := 1) hm2
                rw [hz]
                simpa [Addr.add] using this
              have hbz : bit128 z := by rw [hz]; exact bit128_of (HRd.out.tail.getD 0).1 (HRd.out.tail.getD 0).2
              have HZ := Lib.hid hz
              clear hz
              rcases hbz with ⟨hz1, hz2⟩ | ⟨hz1, hz2⟩
              · have hzz : (bits .and .u8 z 128 == 0) = true := by rw [hz2]; rfl
                have HZ1 := Lib.hid hz1
                obtain ⟨A', hA'⟩ : ∃ A' : Option Addr, A' = if c' = 1 then some ad else some (ad.add 1) := ⟨_, rfl⟩
                have ec : ∀ W, (Instr.sliceAt 22 (.slice (some ad) m c') (some (.int .i64 1)) none none).run Tryd.prog W = .ok (.slice A' (m - 1) (c' - 1)) W := fun W => by rw [hA']; exact run_cut1 ad (by omega) hmc W
                have hr2 : Reads w8 w8.heap.size A' (m - 1) (r.map (Value.int .u8)) := by rw [hA']; exact HRr.out.tail1 hmc
                have HR2 := Lib.hid hr2
                clear hr2 hA' hz1 hz2
                go_wp2_with fail
                go_round
                case rel => exact ⟨A', m - 1, c' - 1, r, rfl, by omega, by omega, by omega, HR2.out, HRd.out.tail, (be_cons_zero r).symm.trans HRe.out, by rw [← HZ.out]; exact HZ1.out⟩
                case measure => simp [lenOf]; omega
              · have hzz : (bits .and .u8 z 128 == 0) = false := by rw [hz2]; rfl
                have HZ1 := Lib.hid hz1
                clear hz1 hz2
                go_wp2_with fail
                go_meet
                refine ⟨rfl, some ad, m, c', 0 :: r, rfl, by have := HLen.out; simp; omega, hmc, hm1, hm33, HRr.out, HRd.out, HRe.out, by simp, by show (0 : Int) < 128; decide, ?_⟩
                rintro ⟨_, _, h3⟩
                have h4 : (0 :: r).getD 1 0 = z := by rw [HZ.out]; rfl
                rw [h4] at h3
                have := HZ1.out
                omega
            · have hyb : (y == 0) = false := by simp [hy0]
              have HY0 := Lib.hid hy0
              clear hy0
              go_wp2_with fail
              go_meet
              refine ⟨rfl, some ad, m, c', y :: r, rfl, by have := HLen.out; simp; omega, hmc, hm1, hm33, HRr.out, HRd.out, HRe.out, by simp, HLo'.out, ?_⟩
              rintro ⟨_, h2, _⟩
              exact HY0.out h2
          · have hm2' : (m : Int) ≤ 1 := by omega
            have HM2 := Lib.hid hm2
            clear hm2
            go_wp2_with fail
            go_meet
            refine ⟨rfl, some ad, m, c', y :: r, rfl, by have := HLen.out; simp; omega, hmc, hm1, hm33, HRr.out, HRd.out, HRe.out, by simp, HLo'.out, ?_⟩
            rintro ⟨h1, _, _⟩
            have := HLen.out
            have := HM2.out
            simp at h1
            omega
      case rest =>
        obtain ⟨rfl, A2, m2, c2, l2, rfl, hl2, hmc2, hm21, hm233, hr2, hcan2⟩ := hcut
        have HR2 := Lib.hid hr2
        have HC2 := Lib.hid hcan2
        have HL2 := Lib.hid hl2
        clear hr2 hcan2 hl2
        go_wp2_with (first
          | (refine wpList_make_own _ rfl _ _ _ rfl w8.heap.size 5 i0 _ 1 Tryd.underlying22 hi0 hz0 hz1 _ _ _ (6 + m1 + m2) rfl rfl (by push_cast; omega) (by rw [hz2]; omega) (by unfold maxLen; omega) (Nat.le_refl _) ?_; intro x0 ho hg
             have HB0 : Hid (Below w8.heap.size w8 x0) := below_grown (Below.refl _ _) hg (Nat.le_refl _) fun q hq => by cases hq
             obtain ⟨v0, hv0⟩ : ∃ v : Value, v = .slice (some ⟨w8.heap.size, 0, none⟩) 0 (6 + m1 + m2) := ⟨_, rfl⟩
             rw [← hv0] at ho ⊢
             have HO0 := Lib.hid ho
             clear ho hg hv0)
          | (at_builtin; refine wpList_append_any rfl (.tmp 73) (.tmp 74) _ rfl w8.heap.size 5 i0 _ Tryd.underlying22 hi0 hz0 hz1 hz2 rfl v0 _ _ rfl (owns_below HO0.out ((Below.refl _ _).alloc (Nat.le_refl _) _)) _ (some ⟨x0.heap.size, 0, none⟩) 1 1 _ rfl (Reads.of_own (owns_lit x0 #[.int .u8 _] 1 _ (by omega) rfl)) lit_one (by omega) (Nat.le_trans HB0.out.size (by simp)) ?_; intro v1 x1 ho hg hat
             have HO1 := Lib.hid ho
             have HB1 : Hid (Below w8.heap.size w8 x1) := below_grown (HB0.out.alloc HB0.out.size _) hg (Nat.le_refl _) fun q hq => (HO0.out.lt q hq).1
             clear ho hg hat)
          | (at_builtin; refine wpList_append_any rfl (.tmp 76) (.tmp 80) _ rfl w8.heap.size 5 i0 _ Tryd.underlying22 hi0 hz0 hz1 hz2 rfl v1 _ _ rfl (owns_below HO1.out ((Below.refl _ _).alloc (Nat.le_refl _) _)) _ (some ⟨x1.heap.size, 0, none⟩) 1 1 _ rfl (Reads.of_own (owns_lit x1 #[.int .u8 _] 1 _ (by omega) rfl)) lit_one (by omega) (Nat.le_trans HB1.out.size (by simp)) ?_; intro v2 x2 ho hg hat
             have HO2 := Lib.hid ho
             have HB2 : Hid (Below w8.heap.size w8 x2) := below_grown (HB1.out.alloc HB1.out.size _) hg (Nat.le_refl _) fun q hq => (HO1.out.lt q hq).1
             clear ho hg hat)
          | (at_builtin; refine wpList_append_any rfl (.tmp 82) (.tmp 83) _ rfl w8.heap.size 5 i0 _ Tryd.underlying22 hi0 hz0 hz1 hz2 rfl v2 _ _ rfl (owns_below HO2.out ((Below.refl _ _).alloc (Nat.le_refl _) _)) _ (some ⟨x2.heap.size, 0, none⟩) 1 1 _ rfl (Reads.of_own (owns_lit x2 #[.int .u8 _] 1 _ (by omega) rfl)) lit_one (by omega) (Nat.le_trans HB2.out.size (by simp)) ?_; intro v3 x3 ho hg hat
             have HO3 := Lib.hid ho
             have HB3 : Hid (Below w8.heap.size w8 x3) := below_grown (HB2.out.alloc HB2.out.size _) hg (Nat.le_refl _) fun q hq => (HO2.out.lt q hq).1
             clear ho hg hat)
          | (at_builtin; refine wpList_append_any rfl (.tmp 85) (.tmp 89) _ rfl w8.heap.size 5 i0 _ Tryd.underlying22 hi0 hz0 hz1 hz2 rfl v3 _ _ rfl (owns_below HO3.out ((Below.refl _ _).alloc (Nat.le_refl _) _)) _ (some ⟨x3.heap.size, 0, none⟩) 1 1 _ rfl (Reads.of_own (owns_lit x3 #[.int .u8 _] 1 _ (by omega) rfl)) lit_one (by omega) (Nat.le_trans HB3.out.size (by simp)) ?_; intro v4 x4 ho hg hat
             have HO4 := Lib.hid ho
             have HB4 : Hid (Below w8.heap.size w8 x4) := below_grown (HB3.out.alloc HB3.out.size _) hg (Nat.le_refl _) fun q hq => (HO3.out.lt q hq).1
             clear ho hg hat)
          | (at_builtin; refine wpList_append_any rfl (.tmp 91) (.tmp 92) _ rfl w8.heap.size 5 i0 _ Tryd.underlying22 hi0 hz0 hz1 hz2 rfl v4 _ _ rfl HO4.out _ A1 m1 c1 _ rfl (HR1.out.below HB4.out) ints_one (by omega) HB4.out.size ?_; intro v5 x5 ho hg hat
             have HO5 := Lib.hid ho
             have HB5 : Hid (Below w8.heap.size w8 x5) := below_grown HB4.out hg (Nat.le_refl _) fun q hq => (HO4.out.lt q hq).1
             clear ho hg hat)
          | (at_builtin; refine wpList_append_any rfl (.tmp 94) (.tmp 95) _ rfl w8.heap.size 5 i0 _ Tryd.underlying22 hi0 hz0 hz1 hz2 rfl v5 _ _ rfl (owns_below HO5.out ((Below.refl _ _).alloc (Nat.le_refl _) _)) _ (some ⟨x5.heap.size, 0, none⟩) 1 1 _ rfl (Reads.of_own (owns_lit x5 #[.int .u8 _] 1 _ (by omega) rfl)) lit_one (by omega) (Nat.le_trans HB5.out.size (by simp)) ?_; intro v6 x6 ho hg hat
             have HO6 := Lib.hid ho
             have HB6 : Hid (Below w8.heap.size w8 x6) := below_grown (HB5.out.alloc HB5.out.size _) hg (Nat.le_refl _) fun q hq => (HO5.out.lt q hq).1
             clear ho hg hat)
          | (at_builtin; refine wpList_append_any rfl (.tmp 97) (.tmp 101) _ rfl w8.heap.size 5 i0 _ Tryd.underlying22 hi0 hz0 hz1 hz2 rfl v6 _ _ rfl (owns_below HO6.out ((Below.refl _ _).alloc (Nat.le_refl _) _)) _ (some ⟨x6.heap.size, 0, none⟩) 1 1 _ rfl (Reads.of_own (owns_lit x6 #[.int .u8 _] 1 _ (by omega) rfl)) lit_one (by omega) (Nat.le_trans HB6.out.size (by simp)) ?_; intro v7 x7 ho hg hat
             have HO7 := Lib.hid ho
             have HB7 : Hid (Below w8.heap.size w8 x7) := below_grown (HB6.out.alloc HB6.out.size _) hg (Nat.le_refl _) fun q hq => (HO6.out.lt q hq).1
             clear ho hg hat)
          | (at_builtin; refine wpList_append_any rfl (.tmp 103) (.tmp 104) _ rfl w8.heap.size 5 i0 _ Tryd.underlying22 hi0 hz0 hz1 hz2 rfl v7 _ _ rfl HO7.out _ A2 m2 c2 _ rfl (HR2.out.below HB7.out) ints_one (by omega) HB7.out.size ?_; intro v8 x8 ho hg hat
             have HO8 := Lib.hid ho
             have HB8' : Hid (Below w8.heap.size w8 x8) := below_grown HB7.out hg (Nat.le_refl _) fun q hq => (HO7.out.lt q hq).1
             clear ho hg hat))
        go_ret
        refine ser_end (w8 := w8) HC1.out HC2.out (HB8.out.trans (HB8'.out.mono HW8.out)) HW8.out HO8.out ?_ ?_ ?_ ?_
        · rw [← HL1.out, ← HL2.out]; omega
        · rw [← HL1.out, ← HL2.out]; push_cast; omega
        · rw [← HL1.out]
        · rw [← HL2.out]

end Go.Proofs.YtfeancgmmonebaaDoor.Sx

