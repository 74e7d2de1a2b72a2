/-
  The reference's own reading of a number in DER. Conditions: none; each theorem bears its own.
-/
import Derived.Test.YtfeancgmmonebaaDoorMgp
import Derived.Great.BuildSlice
namespace Go.Proofs.YtfeancgmmonebaaDoor.Sx
open Go Go.Proofs Go.RowKit

/-- At the front of the bytes a number stands, as strictly as can be. -/
structure DerN (l : List Int) : Prop where
  len : 3 ≤ l.length
  x0 : l.getD 0 0 = 2
  x1 : l.getD 1 0 ≠ 0
  fit : l.getD 1 0 ≤ l.length - 2
  y0 : l.getD 2 0 < 128
  pad : ¬ (1 < l.getD 1 0 ∧ l.getD 2 0 = 0 ∧ l.getD 3 0 < 128)
  big : be ((l.drop 2).take (l.getD 1 0).toNat) < 2 ^ 256

/-- What reading gives. -/
def DerRes (w : World) (n : Nat) (l : List Int) (e : Ending) (w' : World) : Prop :=
  ((DerN l ∧ ∃ k A c, k = (l.getD 1 0).toNat ∧ e = .returned (.tuple #[.agg ((dig 64 4 (be ((l.drop 2).take k))).map (Value.int .u64)).toArray, .slice A (n - (2 + k)) c, .bool true]) ∧ n - (2 + k) ≤ c ∧ Reads w w.heap.size A (n - (2 + k)) ((l.drop (2 + k)).map (Value.int .u8))) ∨
    (¬ DerN l ∧ e = .returned (.tuple #[.agg zero4, .slice none 0 0, .bool false]))) ∧ Below w.heap.size w w'

theorem Reads.cell {w : World} {B n : Nat} {ad : Addr} {l : List Int} (h : Reads w B (some ad) n (l.map (Value.int .u8))) {j : Nat} (hj : j < n) : w.cell? (ad.add j) = some (.int .u8 (l.getD j 0)) := by
  obtain ⟨a, e, _, hc⟩ := h.2 (by omega)
  obtain rfl := Option.some.inj e
  have hl : l.length = n := by have := h.1; simpa using this
  refine hc j _ ?_
  rw [List.getElem?_map, List.getD, List.getElem?_eq_getElem (by omega)]
  rfl

theorem Dg.getD {w : Nat} {l : List Int} (h : Dg w l) (j : Nat) : 0 ≤ l.getD j 0 ∧ l.getD j 0 < 2 ^ w := by
  rcases Nat.lt_or_ge j l.length with hj | hj
  · rw [List.getD, List.getElem?_eq_getElem hj]
    exact h _ (List.getElem_mem hj)
  · rw [List.getD, List.getElem?_eq_none hj]
    exact ⟨Int.le_refl _, Int.pow_pos (by omega)⟩

theorem results_cell2 {fn : Func} {p u v : Tmp} {ty : TypeId} (h : fn.results = #[.cell p ty, .tmp u, .tmp v]) (tmps : Array Value) (P : Program) (w : World) {a : Addr} {x : Value} (hp : tmps.getD p undef = .pointer (some a)) (hl : (loadVar ty a).run P w = .ok x w) :
    (results fn tmps).run P w = .ok (.tuple #[x, tmps.getD u undef, tmps.getD v undef]) w := by
  have hp' : tmps[p]?.getD undef = .pointer (some a) := by simpa using hp
  simp only [results, h]
  simp [Result.andThen, hp', asAddr, hl]

theorem run_loadAgg {P : Program} {t : TypeId} {n : Nat} {w : World} {g : Nat} {T : TypeId} {cs : List Value} (ha : isAggB P t = some true) (hz : szOf P t = some n) (hg : w.heap[g]? = some (.cells cs.toArray T (0, 0))) (hl : cs.length = n) :
    (loadVar t ⟨g, 0, none⟩).run P w = .ok (.agg cs.toArray) w := by
  have := run_loadCells_list (P := P) w ⟨g, 0, none⟩ cs fun j v hj => by
    rw [addr_add, Nat.zero_add]
    simp only [World.cell?, hg]
    simpa using hj
  rw [hl] at this
  simp [loadVar, run_isAggB (P := P) (t := t) (b := true) ha, run_szOf (P := P) (t := t) (n := n) hz, this]

theorem below_setRow {B g : Nat} {a w : World} (hb : Below B a w) (hg : B ≤ g) (cs : Array Value) : Below B a (w.setRow g cs) :=
  ⟨hb.os, hb.tape, hb.output, by simpa using hb.size, fun k hk => (setRow_other w g k cs (by omega)).trans (hb.block k hk)⟩

set_option maxRecDepth 100000 in
theorem readDer_short (n c : Nat) (l : List Int) (A : Option Addr) (w : World) (hn : n < 3) (hl : l.length = n) :
    Calls Tryd.prog 12 #[.slice A n c] w (DerRes w n l) := by
  have HL := Lib.hid hl
  clear hl
  go_enter Tryd.func12, Tryd.ntmps12
  go_wp2_with fail
  (try simp only [Exit.inBlock, Exit.then])
  refine bodyPost_ret (results_cell2 rfl _ _ _ rfl (run_loadAgg (cs := zero4.toList) (by kernel_rfl) (by kernel_rfl) (heap_alloc_new w _) rfl)) rfl ?_
  exact ⟨.inr ⟨fun q => by have := q.len; have := HL.out; omega, rfl⟩, (Below.refl _ _).alloc (Nat.le_refl _) _⟩

set_option maxRecDepth 100000 in
set_option maxHeartbeats 2000000 in
theorem readDer_long (n c k : Nat) (l : List Int) (ad : Addr) (w : World) (hn3 : 3 ≤ n) (hn : n < 2147483648) (hc : n ≤ c) (hr : Reads w w.heap.size (some ad) n (l.map (Value.int .u8))) (hd : Dg 8 l) (hk : l.getD 1 0 = k) :
    Calls Tryd.prog 12 #[.slice (some ad) n c] w (DerRes w n l) := by
  have HL : Hid (l.length = n) := by
    show l.length = n
    have h : (l.map (Value.int .u8)).length = n := hr.1
    simpa using h
  obtain ⟨x0, hx0⟩ : ∃ x, x = l.getD 0 0 := ⟨_, rfl⟩
  obtain ⟨y0, hy0⟩ : ∃ x, x = l.getD 2 0 := ⟨_, rfl⟩
  obtain ⟨y1, hy1⟩ : ∃ x, x = l.getD 3 0 := ⟨_, rfl⟩
  have k0 : w.cell? ad = some (.int .u8 x0) := by rw [hx0]; have := hr.cell (j := 0) (by omega); rwa [show ad.add 0 = ad by unfold Addr.add; simp] at this
  have k1 : w.cell? ⟨ad.block, ad.off + 1, none⟩ = some (.int .u8 k) := by rw [← hk]; have := hr.cell (j := 1) (by omega); simpa [Addr.add] using this
  have k2 : w.cell? ⟨ad.block, ad.off + 2, none⟩ = some (.int .u8 y0) := by rw [hy0]; have := hr.cell (j := 2) (by omega); simpa [Addr.add] using this
  have K3 : Hid (3 < n → w.cell? ⟨ad.block, ad.off + 2 + 1, none⟩ = some (.int .u8 y1)) := fun h => by rw [hy1]; have := hr.cell (j := 3) h; simpa [Addr.add] using this
  have hkb : k < 256 := by have := (hd.getD 1).2; rw [hk] at this; omega
  have HX0 := Lib.hid hx0
  have HY0 := Lib.hid hy0
  have HY1 := Lib.hid hy1
  have HK := Lib.hid hk
  have HR := Lib.hid hr
  clear hx0 hy0 hy1 hk hr
  obtain ⟨q1, hq1⟩ : ∃ q : Bool, q = decide (x0 ≠ 2 ∨ k = 0 ∨ n < k + 2) := ⟨_, rfl⟩
  have HQ1 := Lib.hid hq1
  clear hq1
  go_enter Tryd.func12, Tryd.ntmps12
  go_upto_region 1 with fail
  have hs0 : (w.alloc (.cells #[.int .u64 0, .int .u64 0, .int .u64 0, .int .u64 0] 25)).heap.size = w.heap.size + 1 := by simp
  have hb0 : Below w.heap.size w (w.alloc (.cells #[.int .u64 0, .int .u64 0, .int .u64 0, .int .u64 0] 25)) := (Below.refl _ _).alloc (Nat.le_refl _) _
  have hg0 : (w.alloc (.cells #[.int .u64 0, .int .u64 0, .int .u64 0, .int .u64 0] 25)).heap[w.heap.size]? = some (.cells zero4 25 (0, 0)) := heap_alloc_new w _
  generalize w.alloc (.cells #[.int .u64 0, .int .u64 0, .int .u64 0, .int .u64 0] 25) = W0 at hs0 hb0 hg0 ⊢
  have hr0 := HR.out.below hb0
  obtain ⟨_, ead, had, _⟩ := HR.out.2 (by omega)
  obtain rfl := Option.some.inj ead
  have k0 : W0.cell? ad = some (.int .u8 x0) := (hb0.cell had).trans k0
  have k1 : W0.cell? ⟨ad.block, ad.off + 1, none⟩ = some (.int .u8 k) := (hb0.cell (by exact had)).trans k1
  have HS0 := Lib.hid hs0
  have HB0 := Lib.hid hb0
  have HG0 := Lib.hid hg0
  have HAd := Lib.hid had
  clear hs0 hb0 hg0 hr0 had ead
  go_cut [31] (fun s31 wx => W0 = wx ∧ s31 = .bool q1)
  case first =>
    go_wp2_with fail
    all_goals (go_meet; refine ⟨rfl, congrArg Value.bool ?_⟩; rw [HQ1.out]; symm)
    all_goals (rw [Bool.eq_iff_iff]; simp; omega)
  case rest =>
    obtain ⟨rfl, rfl⟩ := hcut
    cases q1
    case true =>
      go_wp2_with ((with_reducible refine wpList_store_row rfl _ (.tmp 2) (.tmp 32) rfl w.heap.size zero4 ?_ ?_ _ zero4 HG0.out ?_ ?_ ?_ ?_); exact rfl; exact rfl; kernel_rfl; exact rfl; kernel_rfl; skip)
      (try simp only [Exit.inBlock, Exit.then])
      refine bodyPost_ret (results_cell2 rfl _ _ _ rfl (run_loadAgg (cs := zero4.toList) (by kernel_rfl) (by kernel_rfl) (setRow_heap _ _ _ _ _ _ HG0.out) rfl)) rfl ?_
      refine ⟨.inr ⟨fun q => ?_, rfl⟩, below_setRow HB0.out (Nat.le_refl _) _⟩
      have h1 := of_decide_eq_true HQ1.out.symm
      have h2 := q.x0
      have h3 := q.x1
      have h4 := q.fit
      rw [← HX0.out] at h2
      rw [HK.out] at h3 h4
      rw [HL.out] at h4
      omega
    case false =>
      have hp1 : ¬ (x0 ≠ 2 ∨ k = 0 ∨ n < k + 2) := of_decide_eq_false HQ1.out.symm
      have hk0 : 0 < k := by omega
      have hkn : k + 2 ≤ n := by omega
      have HP1 := Lib.hid hp1
      clear hp1 HQ1
      obtain ⟨a5, ha5⟩ : ∃ a5 : Addr, a5 = ad.add 2 := ⟨_, rfl⟩
      obtain ⟨c5, hc5⟩ : ∃ c5, c5 = c - 2 := ⟨_, rfl⟩
      have hc5' : k ≤ c5 := by omega
      obtain ⟨A3, hA3⟩ : ∃ A3 : Option Addr, A3 = if c = 2 + k then some ad else some (ad.add (2 + k)) := ⟨_, rfl⟩
      have e39 : ∀ W, (Instr.sliceAt 22 (.slice (some ad) n c) (some (.int .i64 2)) (some (.int .i64 (2 + k))) none).run Tryd.prog W = .ok (.slice (some a5) k c5) W := fun W => by
        have := run_cut_slice (P := Tryd.prog) Tryd.underlying22 (by kernel_rfl) (some ad) n c (some 2) (some (2 + (k : Int))) 2 (2 + k) rfl rfl (by omega) (by omega) W
        rw [if_neg (by omega), Nat.add_sub_cancel_left, ← hc5] at this
        rw [ha5]
        exact this
      have e46 : ∀ W, (Instr.sliceAt 22 (.slice (some ad) n c) (some (.int .i64 (2 + k))) none none).run Tryd.prog W = .ok (.slice A3 (n - (2 + k)) (c - (2 + k))) W := fun W => by
        rw [hA3]
        exact run_cut_slice (P := Tryd.prog) Tryd.underlying22 (by kernel_rfl) (some ad) n c (some (2 + (k : Int))) none (2 + k) n rfl rfl (by omega) hc W
      have hr3 : Reads w w.heap.size A3 (n - (2 + k)) ((l.drop (2 + k)).map (Value.int .u8)) := by
        rw [hA3, List.map_drop]
        by_cases hq : c = 2 + k
        · rw [if_pos hq]
          exact ⟨by have := HL.out; simp; omega, fun h => by omega⟩
        · rw [if_neg hq]
          exact HR.out.drop (2 + k)
      have hr5 : Reads W0 w.heap.size (some a5) k (((l.drop 2).take k).map (Value.int .u8)) := by
        have := ((HR.out.drop 2).take (k := k) (by omega)).below HB0.out
        rw [ha5, List.map_take, List.map_drop]
        exact this
      have hblen : ((l.drop 2).take k).length = k := by have := HL.out; simp; omega
      have hbd : Dg 8 ((l.drop 2).take k) := fun x hx => hd x (List.mem_of_mem_drop (List.mem_of_mem_take hx))
      have hy0' : ((l.drop 2).take k).getD 0 0 = y0 := by rw [HY0.out]; simp [List.getD, hk0]
      have hy1' : 1 < k → ((l.drop 2).take k).getD 1 0 = y1 := fun h => by rw [HY1.out]; simp [List.getD, h]
      have m0 : W0.cell? a5 = some (.int .u8 y0) := by
        have := hr5.cell (j := 0) hk0
        rw [hy0'] at this
        rwa [show a5.add 0 = a5 by unfold Addr.add; simp] at this
      have M1 : Hid (1 < k → W0.cell? ⟨a5.block, a5.off + 1, none⟩ = some (.int .u8 y1)) := fun h => by
        have := hr5.cell (j := 1) h
        rw [hy1' h] at this
        simpa [Addr.add] using this
      obtain ⟨body, hbody⟩ : ∃ body, body = (l.drop 2).take k := ⟨_, rfl⟩
      rw [← hbody] at hr5 hblen hbd
      have HR3 := Lib.hid hr3
      have HR5 := Lib.hid hr5
      have HBl := Lib.hid hblen
      have HBody := Lib.hid hbody
      clear hr3 hr5 hblen hbody hy0' hy1' ha5 hc5 hA3
      obtain ⟨q2, hq2⟩ : ∃ q : Bool, q = decide (128 ≤ y0 ∨ (1 < k ∧ y0 = 0 ∧ y1 < 128)) := ⟨_, rfl⟩
      have HQ2 := Lib.hid hq2
      clear hq2 k2
      go_upto_region 5 with fail
      go_cut [67] (fun s67 wx => W0 = wx ∧ s67 = .bool q2)
      case first =>
        clear e39 e46
        by_cases h1k : 1 < k
        · have m1 := M1.out h1k
          have h1k' : (1 : Int) < k := by omega
          go_wp2_with fail
          all_goals (go_meet; refine ⟨rfl, congrArg Value.bool ?_⟩; rw [HQ2.out]; symm)
          all_goals (rw [Bool.eq_iff_iff]; simp; omega)
        · have h1k' : (k : Int) ≤ 1 := by omega
          go_wp2_with fail
          all_goals (go_meet; refine ⟨rfl, congrArg Value.bool ?_⟩; rw [HQ2.out]; symm)
          all_goals (rw [Bool.eq_iff_iff]; simp; omega)
      case rest =>
        obtain ⟨rfl, rfl⟩ := hcut
        clear e39 e46
        cases q2
        case true =>
          go_wp2_with ((with_reducible refine wpList_store_row rfl _ (.tmp 2) (.tmp 68) rfl w.heap.size zero4 ?_ ?_ _ zero4 HG0.out ?_ ?_ ?_ ?_); exact rfl; exact rfl; kernel_rfl; exact rfl; kernel_rfl; skip)
          (try simp only [Exit.inBlock, Exit.then])
          refine bodyPost_ret (results_cell2 rfl _ _ _ rfl (run_loadAgg (cs := zero4.toList) (by kernel_rfl) (by kernel_rfl) (setRow_heap _ _ _ _ _ _ HG0.out) rfl)) rfl ?_
          refine ⟨.inr ⟨fun q => ?_, rfl⟩, below_setRow HB0.out (Nat.le_refl _) _⟩
          have h1 := of_decide_eq_true HQ2.out.symm
          have h2 := q.y0
          have h3 := q.pad
          rw [← HY0.out] at h2 h3
          rw [HK.out, ← HY1.out] at h3
          omega
        case false =>
          have hp2 : ¬ (128 ≤ y0 ∨ (1 < k ∧ y0 = 0 ∧ y1 < 128)) := of_decide_eq_false HQ2.out.symm
          have HP2 := Lib.hid hp2
          clear hp2 HQ2 m0
          have hbig : be body < 2 ^ 256 → DerN l := fun h => by
            have h1 := HP1.out
            have h2 := HP2.out
            have h3 := HL.out
            have h4 := HK.out
            rw [HBody.out] at h
            refine ⟨by omega, by rw [← HX0.out]; omega, by rw [h4]; omega, by rw [h4]; omega, by rw [← HY0.out]; omega, by rw [h4, ← HY0.out, ← HY1.out]; omega, by rw [h4]; exact h⟩
          have HBig := Lib.hid hbig
          have htr := c_trim k c5 body (some a5) W0 (by omega) hc5' (HR5.out.more (by have := HS0.out; omega)) hbd
          have HTr := Lib.hid htr
          clear hbig htr
          go_upto_region 8 with (go_at_call 28; refine HTr.out.mono ?_; rintro e w1 ⟨l', hbe', hnz', hd', hle', A6, c6, rfl, hc6, hr6, -, hb6⟩)
          obtain ⟨m, hm⟩ : ∃ m, m = l'.length := ⟨_, rfl⟩
          rw [← hm] at hc6 hr6 ⊢
          have hs1 := hb6.size
          have hb1 : Below w.heap.size w w1 := HB0.out.trans (hb6.mono (by have := HS0.out; omega))
          have g1 : w1.heap[w.heap.size]? = some (.cells zero4 25 (0, 0)) := (hb6.block _ (by have := HS0.out; omega)).trans HG0.out
          have HM := Lib.hid hm
          have HBe := Lib.hid hbe'
          have HNz := Lib.hid hnz'
          have HR6 := Lib.hid hr6
          have HB1 := Lib.hid hb1
          have HG1 := Lib.hid g1
          have HS1 : Hid (w.heap.size < w1.heap.size) := by show _ < _; have := HS0.out; omega
          clear hm hbe' hnz' hr6 hb1 g1 hb6 hs1
          by_cases h32 : 32 < m
          · have h32' : (32 : Int) < m := by omega
            go_wp2_with ((with_reducible refine wpList_store_row rfl _ (.tmp 2) (.tmp 74) rfl w.heap.size zero4 ?_ ?_ _ zero4 HG1.out ?_ ?_ ?_ ?_); exact rfl; exact rfl; kernel_rfl; exact rfl; kernel_rfl; skip)
            (try simp only [Exit.inBlock, Exit.then])
            refine bodyPost_ret (results_cell2 rfl _ _ _ rfl (run_loadAgg (cs := zero4.toList) (by kernel_rfl) (by kernel_rfl) (setRow_heap _ _ _ _ _ _ HG1.out) rfl)) rfl ?_
            refine ⟨.inr ⟨fun q => ?_, rfl⟩, below_setRow HB1.out (Nat.le_refl _) _⟩
            have h1 := q.big
            rw [HK.out, Int.toNat_natCast, ← HBody.out, ← HBe.out] at h1
            have h2 := HNz.out.big hd' (by rw [← HM.out]; exact h32)
            omega
          · have h32' : (m : Int) ≤ 32 := by omega
            have hok : be body < 2 ^ 256 := by rw [← HBe.out]; exact (be_any hd' (by rw [← HM.out]; omega)).2
            have HOk := Lib.hid (HBig.out hok)
            clear hok HBig
            obtain ⟨ad7, had7⟩ : ∃ ad7 : Addr, ad7 = if 32 = 32 - m then (⟨w1.heap.size, 0, none⟩ : Addr) else (⟨w1.heap.size, 0, none⟩ : Addr).add (32 - m) := ⟨_, rfl⟩
            have q3 : ∀ W, (Instr.sliceAt 33 (.pointer (some ⟨w1.heap.size, 0, none⟩)) (some (.int .i64 (32 - m))) none none).run Tryd.prog W = .ok (.slice (some ad7) m m) W := fun W => by
              have := run_cut_arr Tryd.underlying33 (by kernel_rfl) ⟨w1.heap.size, 0, none⟩ (some (32 - (m : Int))) none (32 - m) 32 (by show (32 - (m : Int)) = _; omega) rfl (by omega) (by omega) W
              rw [← had7, show 32 - (32 - m) = m by omega] at this
              exact this
            have HA := Lib.hid had7
            obtain ⟨xs, hxs⟩ : ∃ xs, xs = l'.map (Value.int .u8) := ⟨_, rfl⟩
            have hxl : xs.length = m := by rw [hxs]; simp [HM.out]
            have hx1 : Hid (∀ v ∈ xs, v.oneCell' = true) := by
              show ∀ v ∈ xs, v.oneCell' = true
              rw [hxs]
              exact ints_one
            have hpos : Hid (∀ x, 0 < xs.length → some ad7 = some ⟨w1.heap.size, 32 - m, none⟩ ∧ ∃ ad', A6 = some ad' ∧ ∀ j v, xs[j]? = some v → (w1.alloc x).cell? (ad'.add j) = some v) := fun x h0 => by
              have hr3 : Reads (w1.alloc x) w1.heap.size A6 m xs := by rw [hxs]; exact HR6.out.alloc (Nat.le_refl _) x
              obtain ⟨ad', e, _, hc'⟩ := hr3.2 (by omega)
              refine ⟨?_, ad', e, hc'⟩
              rw [HA.out, if_neg (by omega), addr_add, Nat.zero_add]
            have hfit : Hid (32 - m + xs.length ≤ (List.replicate 32 (Value.int .u8 0)).length) := by show _ ≤ _; simp only [List.length_replicate]; omega
            have hn1 : Hid (xs.length = Nat.min m m) := hxl.trans (Nat.min_self m).symm
            have HX := Lib.hid hxs
            have HXl := Lib.hid hxl
            clear hxs hxl had7
            have hpl : (List.replicate (32 - m) (0 : Int) ++ l').length = 32 := by
              have h1 := HM.out
              simp only [List.length_append, List.length_replicate, ← h1]
              omega
            have HPl := Lib.hid hpl
            have hdp : Dg 8 (List.replicate (32 - m) (0 : Int) ++ l') := pad_dg hd'
            have HDp := Lib.hid hdp
            obtain ⟨d0, d1, d2, d3, hdig⟩ : ∃ d0 d1 d2 d3, dig 64 4 (be body) = [d0, d1, d2, d3] := len4 (dig_length 64 4 _)
            have huof : ∀ W, Calls Tryd.prog 26 #[.agg ((List.replicate (32 - m) (0 : Int) ++ l').map (Value.int .u8)).toArray] W fun en w' => en = .returned (.agg #[.int .u64 d0, .int .u64 d1, .int .u64 d2, .int .u64 d3]) ∧ Below W.heap.size W w' := fun W => by
              have := c_uof hpl hdp W
              rw [be_pad, HBe.out, hdig] at this
              exact this
            have HUof := Lib.hid huof
            have HDig := Lib.hid hdig
            clear hpl hdp huof hdig
            obtain ⟨D, hD⟩ : ∃ D, D = ((List.replicate (32 - m) (0 : Int) ++ l').map (Value.int .u8)).toArray := ⟨_, rfl⟩
            rw [← hD] at HUof
            go_wp2_with (first
              | (refine wpList_copy_splice rfl (.tmp 78) (.tmp 79) _ _ rfl _ Tryd.underlying22 (by kernel_rfl) _ _ _ _ _ _ rfl rfl w1.heap.size (32 - m) (List.replicate 32 (Value.int .u8 0)) _ (by exact heap_alloc_new w1 _) xs hn1 (hpos.out _) hfit hx1 w1.heap.size w1 ((Below.refl _ _).alloc (Nat.le_refl _) _) (Nat.le_refl _) ?_; intro w3 g3 hb3)
              | ((with_reducible refine (show wpList _ _ _ ((⟨some 81, _, _, _, _, _⟩ : Oper) :: _) _ _ from ?_)); refine Halt.of ?_))
            have g3' : w3.heap[w1.heap.size]? = some (.cells ((List.replicate (32 - m) (0 : Int) ++ l').map (Value.int .u8)).toArray 33 (0, 0)) := by
              have h : w3.heap[w1.heap.size]? = some (.cells (splice (List.replicate 32 (Value.int .u8 0)) (32 - m) xs).toArray 33 (0, 0)) := g3
              rw [splice_pad (by omega) HXl.out] at h
              rw [h, HX.out]
              simp
            have hld : (Instr.loadAt 33 (.pointer (some ⟨w1.heap.size, 0, none⟩))).run Tryd.prog w3 = .ok (.agg D) w3 := by
              rw [hD]
              refine run_load32 (by rw [List.length_map]; exact HPl.out) fun j v hj => ?_
              rw [addr_add, Nat.zero_add]
              simp only [World.cell?, g3']
              simpa using hj
            have HLd := Lib.hid hld
            have HB3 := Lib.hid (HB1.out.trans (hb3.mono (Nat.le_of_lt HS1.out)))
            have HG3 := Lib.hid ((hb3.block _ HS1.out).trans HG1.out)
            have HS3 : Hid (w.heap.size < w3.heap.size) := Nat.lt_of_lt_of_le HS1.out hb3.size
            clear g3 g3' hld hb3 hD
            show wpList _ _ _ _ _ _
            refine wpList_runw (by go_simp) (load_op HLd.out) ?_
            go_wp2_with (first
              | (go_at_call 26; refine (HUof.out _).mono ?_; rintro e w4 ⟨rfl, hb4⟩
                 have HG4 := Lib.hid ((hb4.block _ HS3.out).trans HG3.out))
              | ((with_reducible refine wpList_store_row rfl _ (.tmp 2) (.tmp 82) rfl w.heap.size #[.int .u64 d0, .int .u64 d1, .int .u64 d2, .int .u64 d3] ?_ ?_ _ zero4 HG4.out ?_ ?_ ?_ ?_); exact rfl; exact rfl; kernel_rfl; exact rfl; kernel_rfl; skip))
            (try simp only [Exit.inBlock, Exit.then])
            refine bodyPost_ret (results_cell2 rfl _ _ _ rfl (run_loadAgg (cs := [.int .u64 d0, .int .u64 d1, .int .u64 d2, .int .u64 d3]) (by kernel_rfl) (by kernel_rfl) (setRow_heap _ _ _ _ _ _ HG4.out) rfl)) rfl ?_
            refine ⟨.inl ⟨HOk.out, k, A3, c - (2 + k), by rw [HK.out]; rfl, ?_, by omega, HR3.out⟩, below_setRow (HB3.out.trans (hb4.mono (Nat.le_of_lt HS3.out))) (Nat.le_refl _) _⟩
            rw [← HBody.out, HDig.out]
            rfl

end Go.Proofs.YtfeancgmmonebaaDoor.Sx

