/-
  The reference's SignatureBytes. Conditions: none; each theorem bears its own.
-/
import Derived.Test.YtfeancgmmonebaaMgr
import Derived.Test.YtfeancgmmonebaaMgl
import Derived.Deep.RegionHeld2
namespace Go.Proofs.Ytfeancgmmonebaa.Sx
open Go Go.Proofs Go.RowKit

theorem c_low {V : Int} (v0 : 0 ≤ V) (v1 : V < 2 ^ 256) (w : World) :
    Calls Try.prog 19 #[.agg ((dig 64 4 V).map (Value.int .u64)).toArray] w fun en w' => en = .returned (.bool (decide (V ≤ fn / 2))) ∧ Below w.heap.size w w' :=
  m_low.pure (by kernel_rfl) (base := dig 64 4 V) (dig_length 64 4 _) rfl (fun h => by cases h) (low_spec v0 v1) (args := [.agg ((dig 64 4 V).map (Value.int .u64)).toArray])
    (by
      show [(SV.one (.agg (kcells 0 (List.replicate 4 (some .u64))))).den ⟨dig 64 4 V, []⟩] = _
      rw [agg_at .u64 [] (l := dig 64 4 V) (pre := []) (post := []) (n := 0) (by simp) rfl (dig_length 64 4 _)])
    (fun nb => by
      show Value.bool (List.getD (dig 64 4 V ++ fit 1 [b01 (decide (V ≤ fn / 2))]) 4 0 != 0) = _
      rw [List.getD, List.getElem?_append_right (by rw [dig_length]; exact Nat.le_refl _), dig_length]
      show Value.bool (b01 (decide (V ≤ fn / 2)) != 0) = _
      rw [b01_bool]) w

theorem c_lof {A B : Int} (a0 : 0 ≤ A) (a1 : A < 2 ^ 256) (b0 : 0 ≤ B) (b1 : B < 2 ^ 256) (w : World) :
    Calls Try.prog 32 #[.agg ((dig 64 4 A).map (Value.int .u64)).toArray, .agg ((dig 64 4 B).map (Value.int .u64)).toArray] w fun en w' => en = .returned (.agg ((dig 64 4 (A - B)).map (Value.int .u64)).toArray) ∧ Below w.heap.size w w' :=
  m_lof.pure (by kernel_rfl) (base := dig 64 4 A ++ dig 64 4 B) (by simp [dig_length]; rfl) rfl (fun h => by cases h) (lof_spec a0 a1 b0 b1) (args := [.agg ((dig 64 4 A).map (Value.int .u64)).toArray, .agg ((dig 64 4 B).map (Value.int .u64)).toArray])
    (by
      show [(SV.one (.agg (kcells 0 (List.replicate 4 (some .u64))))).den ⟨dig 64 4 A ++ dig 64 4 B, []⟩, (SV.one (.agg (kcells 4 (List.replicate 4 (some .u64))))).den ⟨dig 64 4 A ++ dig 64 4 B, []⟩] = _
      rw [agg_at .u64 [] (l := dig 64 4 A) (pre := []) (post := dig 64 4 B) (n := 0) (by simp) rfl (dig_length 64 4 _), agg_at .u64 [] (l := dig 64 4 B) (pre := dig 64 4 A) (post := []) (n := 4) (by simp) (dig_length 64 4 _) (dig_length 64 4 _)])
    (fun nb => by
      show (SV.one (.agg (kcells 8 (List.replicate 4 (some .u64))))).den ⟨(dig 64 4 A ++ dig 64 4 B) ++ fit 4 (dig 64 4 (A - B)), nb⟩ = _
      rw [fit_eq (dig_length 64 4 _)]
      exact agg_at .u64 nb (l := dig 64 4 (A - B)) (pre := dig 64 4 A ++ dig 64 4 B) (post := []) (n := 8) (by simp) (by simp [dig_length]) (dig_length 64 4 _)) w

/-- The lesser one of a number and its opposite. -/
def lowOf (S : Int) : Int := if S ≤ fn / 2 then S else fn - S
theorem lowOf_range {S : Int} (h : 0 < S ∧ S < fn) : 0 < lowOf S ∧ lowOf S < fn := by
  unfold lowOf
  have : fn / 2 < fn := by decide
  split <;> omega

theorem cell_keep {w w' : World} (hb : Below w.heap.size w w') {a : Addr} {v : Value} (h : w.cell? a = some v) : w'.cell? a = some v :=
  (hb.cell (World.block_lt_of_cell? _ _ h)).trans h

theorem step_append_any {P : Program} {ops : Array Oper} {w : World} {o : Oper} {a : Act} {K : Act → World → Prop} {Q : Exit → Act → World → Prop} {E : Prop} (hgd : o.guard = none) (s x : Operand) (t : TypeId)
    (ho : o.op = .call { callee := .builtin .append, args := #[s, x], argTypes := #[t, t] })
    (base : Nat) (e : TypeId) (i : TypeInfo) (z : Value) (ht : P.underlying t = some (.slice e)) (hi : P.info? e = some i) (hz : i.zero = some z)
    (hsize : i.size = 1) (hby : i.bytes = 1) (hzs : z.cells.size = 1)
    (v : Value) (n : Nat) (xs : List Value) (hs : a.eval s = v) (hown : w.ownsRow base e 1 v n xs)
    (B : Nat) (A : Option Addr) (m c : Nat) (news : List Value) (hx : a.eval x = .slice A m c) (hr : Reads w B A m news) (h1 : ∀ u ∈ news, u.oneCell' = true)
    (hbytes : n + m ≤ 140737488355328) (hbase : base ≤ w.heap.size)
    (h : ∀ v' w', w'.ownsRow base e 1 v' (n + m) (xs ++ news) → w.grownBy w' v.ownBlock → (v'.ownBlock = v.ownBlock ∨ v'.ownBlock = some w.heap.size) → K (a.put o.dst v') w') :
    if Region.wanted o (yielded ops a.tmps) = true then Oper.wp P o a w K Q else E := by
  have hw : Region.wanted o (yielded ops a.tmps) = true := by simp [Region.wanted, hgd]
  rw [if_pos hw]
  exact wp_append_any s x t ho base e i z ht hi hz hsize hby hzs v n xs hs hown B A m c news hx hr h1 hbytes hbase h

/-- Eight words lie in a block. -/
def Cells8 (w : World) (g : Nat) (a0 a1 a2 a3 s0 s1 s2 s3 : Int) : Prop :=
  w.cell? ⟨g, 0, none⟩ = some (.int .u64 a0) ∧ w.cell? ⟨g, 1, none⟩ = some (.int .u64 a1) ∧ w.cell? ⟨g, 2, none⟩ = some (.int .u64 a2) ∧ w.cell? ⟨g, 3, none⟩ = some (.int .u64 a3) ∧
  w.cell? ⟨g, 4, none⟩ = some (.int .u64 s0) ∧ w.cell? ⟨g, 5, none⟩ = some (.int .u64 s1) ∧ w.cell? ⟨g, 6, none⟩ = some (.int .u64 s2) ∧ w.cell? ⟨g, 7, none⟩ = some (.int .u64 s3)

theorem Cells8.keep {w w' : World} {g : Nat} {a0 a1 a2 a3 s0 s1 s2 s3 : Int} (hb : Below w.heap.size w w') (h : Cells8 w g a0 a1 a2 a3 s0 s1 s2 s3) : Cells8 w' g a0 a1 a2 a3 s0 s1 s2 s3 := by
  obtain ⟨h0, h1, h2, h3, h4, h5, h6, h7⟩ := h
  exact ⟨cell_keep hb h0, cell_keep hb h1, cell_keep hb h2, cell_keep hb h3, cell_keep hb h4, cell_keep hb h5, cell_keep hb h6, cell_keep hb h7⟩

theorem Cells8.of {w : World} {g : Nat} {T : TypeId} {a0 a1 a2 a3 s0 s1 s2 s3 : Int} (h : w.heap[g]? = some (.cells #[.int .u64 a0, .int .u64 a1, .int .u64 a2, .int .u64 a3, .int .u64 s0, .int .u64 s1, .int .u64 s2, .int .u64 s3] T (0, 0))) : Cells8 w g a0 a1 a2 a3 s0 s1 s2 s3 := by
  refine ⟨?_, ?_, ?_, ?_, ?_, ?_, ?_, ?_⟩ <;> simp [World.cell?, h]

theorem frozen_of {w : World} {g k : Nat} {T : TypeId} {cs : Array Value} (h : w.heap[g]? = some (.cells cs T (0, 0))) : w.frozen? ⟨g, k, none⟩ = false := by simp [World.frozen?, h]

theorem set4 {w : World} {g : Nat} {T : TypeId} {a0 a1 a2 a3 s0 s1 s2 s3 u0 u1 u2 u3 : Int} (h : w.heap[g]? = some (.cells #[.int .u64 a0, .int .u64 a1, .int .u64 a2, .int .u64 a3, .int .u64 s0, .int .u64 s1, .int .u64 s2, .int .u64 s3] T (0, 0))) :
    ((((w.setCell ⟨g, 4, none⟩ (.int .u64 u0)).setCell ⟨g, 5, none⟩ (.int .u64 u1)).setCell ⟨g, 6, none⟩ (.int .u64 u2)).setCell ⟨g, 7, none⟩ (.int .u64 u3)).heap[g]? = some (.cells #[.int .u64 a0, .int .u64 a1, .int .u64 a2, .int .u64 a3, .int .u64 u0, .int .u64 u1, .int .u64 u2, .int .u64 u3] T (0, 0)) := by
  simp [World.setCell, Array.getElem?_modify, h]

def SigOut (w : World) (R S : Int) (e : Ending) (w' : World) : Prop := ∃ c d, Canon R c ∧ Canon S d ∧ Owned w (sigB c d) e w'

theorem sigBytes_end {w w4 w5 : World} {R S : Int} {c d : List Int} {v : Value} {n : Nat} {x : Int} (hc : Canon R c) (hd : Canon S d) (hb : Below w.heap.size w w5) (h4 : w.heap.size ≤ w4.heap.size)
    (ho : w5.ownsRow w4.heap.size 5 1 v n (#[Value.int .u8 48, Value.int .u8 x].toList ++ ((2 :: (c.length : Int) :: c).map (Value.int .u8) ++ (2 :: (d.length : Int) :: d).map (Value.int .u8)))) (hn : n = c.length + d.length + 6) (hx : x = ((c.length + d.length + 4 : Nat) : Int)) :
    SigOut w R S (.returned v) w5 := by
  subst hx hn
  refine ⟨c, d, hc, hd, ⟨v, rfl, owns_mono ?_ h4⟩, hb⟩
  rw [sigB_length]
  have : (sigB c d).map (Value.int .u8) = #[Value.int .u8 48, Value.int .u8 ((c.length + d.length + 4 : Nat) : Int)].toList ++ ((2 :: (c.length : Int) :: c).map (Value.int .u8) ++ (2 :: (d.length : Int) :: d).map (Value.int .u8)) := by
    unfold sigB
    simp
  rw [this]
  exact ho

set_option maxRecDepth 100000 in
set_option maxHeartbeats 1000000 in
theorem c_sigBytes {R S : Int} (r0 : 0 ≤ R) (r1 : R < 2 ^ 256) (hs : 0 < S ∧ S < fn) (w : World) :
    Calls Try.prog 18 #[.agg ((dig 64 4 R ++ dig 64 4 S).map (Value.int .u64)).toArray] w (SigOut w R (lowOf S)) := by
  obtain ⟨i0, hi0, hz0, hz1, hz2⟩ := info_parts u8_info
  obtain ⟨a0, a1, a2, a3, hdr⟩ : ∃ d0 d1 d2 d3, dig 64 4 R = [d0, d1, d2, d3] := len4 (dig_length 64 4 _)
  obtain ⟨s0, s1, s2, s3, hds⟩ : ∃ d0 d1 d2 d3, dig 64 4 S = [d0, d1, d2, d3] := len4 (dig_length 64 4 _)
  have hlw : ∀ W, Calls Try.prog 19 #[.agg #[.int .u64 s0, .int .u64 s1, .int .u64 s2, .int .u64 s3]] W fun en w' => en = .returned (.bool (decide (S ≤ fn / 2))) ∧ Below W.heap.size W w' := fun W => by
    have := c_low (V := S) (by omega) (by have := fn_lt; omega) W
    rw [hds] at this
    exact this
  have hdR : ∀ W, Calls Try.prog 33 #[.agg #[.int .u64 a0, .int .u64 a1, .int .u64 a2, .int .u64 a3]] W fun e w' => ∃ c, Canon R c ∧ Owned W (2 :: (c.length : Int) :: c) e w' := fun W => by
    have := c_derNumber r0 r1 W
    rw [hdr] at this
    exact this
  rw [show ((dig 64 4 R ++ dig 64 4 S).map (Value.int .u64)).toArray = #[.int .u64 a0, .int .u64 a1, .int .u64 a2, .int .u64 a3, .int .u64 s0, .int .u64 s1, .int .u64 s2, .int .u64 s3] by rw [hdr, hds]; rfl]
  obtain ⟨z0, z1, z2, z3, hdz⟩ : ∃ d0 d1 d2 d3, dig 64 4 fn = [d0, d1, d2, d3] := len4 (dig_length 64 4 _)
  obtain ⟨u0, u1, u2, u3, hdu⟩ : ∃ d0 d1 d2 d3, dig 64 4 (lowOf S) = [d0, d1, d2, d3] := len4 (dig_length 64 4 _)
  have hor : ∀ W, Calls Try.prog 20 #[] W fun en w' => en = .returned (.agg #[.int .u64 z0, .int .u64 z1, .int .u64 z2, .int .u64 z3]) ∧ Below W.heap.size W w' := fun W => by
    have := c_order W
    rw [hdz] at this
    exact this
  have hlo : ¬ S ≤ fn / 2 → ∀ W, Calls Try.prog 32 #[.agg #[.int .u64 z0, .int .u64 z1, .int .u64 z2, .int .u64 z3], .agg #[.int .u64 s0, .int .u64 s1, .int .u64 s2, .int .u64 s3]] W fun en w' => en = .returned (.agg #[.int .u64 u0, .int .u64 u1, .int .u64 u2, .int .u64 u3]) ∧ Below W.heap.size W w' := fun hn W => by
    have := c_lof (A := fn) (B := S) (by decide) fn_lt (by omega) (by have := fn_lt; omega) W
    rw [hdz, hds, show fn - S = lowOf S by unfold lowOf; rw [if_neg hn], hdu] at this
    exact this
  have hdS : ∀ W, Calls Try.prog 33 #[.agg #[.int .u64 u0, .int .u64 u1, .int .u64 u2, .int .u64 u3]] W fun e w' => ∃ c, Canon (lowOf S) c ∧ Owned W (2 :: (c.length : Int) :: c) e w' := fun W => by
    have hr := lowOf_range hs
    have := c_derNumber (V := lowOf S) (by omega) (by have := fn_lt; omega) W
    rw [hdu] at this
    exact this
  have hlenR : ∀ c, Canon R c → c.length ≤ 33 := fun c hc => hc.len r1
  have hlenS : ∀ c, Canon (lowOf S) c → c.length ≤ 33 := fun c hc => hc.len (by have := lowOf_range hs; have := fn_lt; omega)
  have HLw := Lib.hid hlw
  have HdR := Lib.hid hdR
  have HOr := Lib.hid hor
  have HLo := Lib.hid hlo
  have HdS := Lib.hid hdS
  have HLR := Lib.hid hlenR
  have HLS := Lib.hid hlenS
  have heq : S ≤ fn / 2 → s0 = u0 ∧ s1 = u1 ∧ s2 = u2 ∧ s3 = u3 := fun h => by
    have h1 : dig 64 4 (lowOf S) = dig 64 4 S := by unfold lowOf; rw [if_pos h]
    rw [hds, hdu] at h1
    simpa [eq_comm] using h1
  clear hlw hdR hor hlo hdS hs hdr hds hdz hdu r0 r1 hlenR hlenS
  by_cases hlow : S ≤ fn / 2
  case pos =>
    have hdec : Hid (decide (S ≤ fn / 2) = true) := decide_eq_true hlow
    obtain ⟨rfl, rfl, rfl, rfl⟩ := heq hlow
    clear hlow heq
    go_enter Try.func18, Try.ntmps18
    go_upto_region 3 with (first
      | (go_at_call 19; refine (HLw.out _).mono ?_; rintro e w1 ⟨rfl, hb1⟩; rw [hdec.out]))
    have hk : Cells8 w1 w.heap.size a0 a1 a2 a3 s0 s1 s2 s3 := (Cells8.of (heap_alloc_new w _)).keep hb1
    have hb : Below w.heap.size w w1 := ((Below.refl _ _).alloc (Nat.le_refl _) _).trans (hb1.mono (by simp))
    have HB1 := Lib.hid hb
    clear hb1 hb
    have HK1 := Lib.hid hk
    unfold Cells8 at hk
    go_region_held2 (fun w' => w'.cell? ⟨w.heap.size, 0, none⟩ = some (.int .u64 a0) ∧ w'.cell? ⟨w.heap.size, 1, none⟩ = some (.int .u64 a1) ∧ w'.cell? ⟨w.heap.size, 2, none⟩ = some (.int .u64 a2) ∧ w'.cell? ⟨w.heap.size, 3, none⟩ = some (.int .u64 a3) ∧
      w'.cell? ⟨w.heap.size, 4, none⟩ = some (.int .u64 s0) ∧ w'.cell? ⟨w.heap.size, 5, none⟩ = some (.int .u64 s1) ∧ w'.cell? ⟨w.heap.size, 6, none⟩ = some (.int .u64 s2) ∧ w'.cell? ⟨w.heap.size, 7, none⟩ = some (.int .u64 s3)) (assumption)
      (first
        | (go_at_call 33; (with_reducible refine (HdR.out _).mono ?_); rintro e w2 ⟨c, hc, ⟨v, rfl, ho⟩, hb2⟩
           have HK2 : Hid (Cells8 w2 w.heap.size a0 a1 a2 a3 s0 s1 s2 s3) := Cells8.keep (w := w1.drew) hb2 HK1.out
           have hkk := HK2.out
           unfold Cells8 at hkk)
        | (go_at_call 33; (with_reducible refine (HdS.out _).mono ?_); rintro e w3 ⟨d, hd, ⟨x, rfl, hox⟩, hb3⟩
           have HK3 : Hid (Cells8 w3 w.heap.size a0 a1 a2 a3 s0 s1 s2 s3) := Cells8.keep hb3 HK2.out
           have hkk := HK3.out
           unfold Cells8 at hkk
           have ho3 := owns_below ho hb3
           obtain ⟨A5, c5, rfl, hc5, -⟩ := own_slice hox
           have hr5 := Reads.of_own hox
           have hn5 : (2 :: (c.length : Int) :: c).length + (2 :: (d.length : Int) :: d).length ≤ 140737488355328 := by
             have := HLR.out c hc
             have := HLS.out d hd
             simp only [List.length_cons]
             omega
           have HB3 : Hid (Below w1.heap.size w1 w3) := ((Below.refl w1.heap.size w1).drew.trans hb2).trans (hb3.mono hb2.size)
           have HO3 := Lib.hid ho3
           have HR5 := Lib.hid hr5
           have HN5 := Lib.hid hn5
           clear ho3 hr5 hn5 ho hox hb2 hb3)
        | (refine step_append_any rfl (.tmp 15) (.tmp 18) _ rfl w1.heap.size 5 i0 _ Try.underlying22 hi0 hz0 hz1 hz2 rfl v _ _ rfl HO3.out w3.heap.size A5 _ c5 _ rfl HR5.out ints_one HN5.out HB3.out.size ?_; intro v4 w4 ho4 hg4 hat4
           have HB4 : Hid (Below w1.heap.size w1 w4) := below_grown HB3.out hg4 (Nat.le_refl _) fun k hk => (HO3.out.lt k hk).1
           have HK4 : Hid (Cells8 w4 w.heap.size a0 a1 a2 a3 s0 s1 s2 s3) := Cells8.keep HB4.out HK1.out
           have hkk := HK4.out
           unfold Cells8 at hkk))
    obtain ⟨A6, c6, rfl, hc6, -⟩ := own_slice ho4
    obtain ⟨N, hN⟩ : ∃ N, N = (2 :: (c.length : Int) :: c).length + (d.length + 1 + 1) := ⟨_, rfl⟩
    rw [← hN] at ho4 hc6 ⊢
    have hN70 : N ≤ 70 := by
      have := HLR.out c hc
      have := HLS.out d hd
      rw [hN]
      simp only [List.length_cons]
      omega
    have HB4' : Hid (Below w.heap.size w w4) := HB1.out.trans (HB4.out.mono HB1.out.size)
    have HR4 := Lib.hid (Reads.of_own ho4)
    have HN4 := Lib.hid hN
    have HN6 : Hid (2 + N ≤ 140737488355328) := by show 2 + N ≤ 140737488355328; omega
    have HCc := Lib.hid hc
    have HCd := Lib.hid hd
    clear ho4 hN hg4 hat4 HR5 HN5 HO3 HK3 HK2 HK1 HK4 hc hd
    go_wp2_with (at_builtin; refine wpList_append_any rfl (.tmp 23) (.tmp 24) _ rfl w4.heap.size 5 i0 _ Try.underlying22 hi0 hz0 hz1 hz2 rfl (.slice (some ⟨w4.heap.size, 0, none⟩) 2 2) 2 _ rfl (owns_lit w4 _ 2 _ (by omega) rfl) w4.heap.size A6 N c6 _ rfl (HR4.out.alloc (Nat.le_refl _) _) (by rw [← List.map_append]; exact ints_one) HN6.out (by simp) ?_; intro v5 w5 ho5 hg5 hat5; obtain ⟨A7, c7, rfl, hc7, -⟩ := own_slice ho5)
    go_ret
    exact sigBytes_end HCc.out HCd.out (below_grown (HB4'.out.alloc HB4'.out.size _) hg5 (Nat.le_refl _) fun k hk => by cases hk; exact HB4'.out.size) HB4'.out.size ho5 (by rw [HN4.out]; simp only [List.length_cons]; omega) (by rw [HN4.out]; simp only [List.length_cons]; omega)
  case neg =>
    have hdec : Hid (decide (S ≤ fn / 2) = false) := decide_eq_false hlow
    have HLo' := Lib.hid (HLo.out hlow)
    clear hlow heq
    go_enter Try.func18, Try.ntmps18
    go_upto_region 2 with (first
      | (go_at_call 19; refine (HLw.out _).mono ?_; rintro e w1 ⟨rfl, hb1⟩; rw [hdec.out]))
    have hk : Cells8 w1 w.heap.size a0 a1 a2 a3 s0 s1 s2 s3 := (Cells8.of (heap_alloc_new w _)).keep hb1
    have hb : Below w.heap.size w w1 := ((Below.refl _ _).alloc (Nat.le_refl _) _).trans (hb1.mono (by simp))
    have hg : w1.heap[w.heap.size]? = some (.cells #[.int .u64 a0, .int .u64 a1, .int .u64 a2, .int .u64 a3, .int .u64 s0, .int .u64 s1, .int .u64 s2, .int .u64 s3] 34 (0, 0)) := (hb1.block _ (by simp)).trans (heap_alloc_new w _)
    have HB0 := Lib.hid hb
    have HK0 := Lib.hid hk
    have HG0 := Lib.hid hg
    clear hb1 hb hg
    unfold Cells8 at hk
    obtain ⟨k0, k1, k2, k3, k4, k5, k6, k7⟩ := hk
    go_region_with (first
      | (go_at_call 20; (with_reducible refine (HOr.out _).mono ?_); rintro e w2 ⟨rfl, hb2⟩
         have HK2 : Hid (Cells8 w2 w.heap.size a0 a1 a2 a3 s0 s1 s2 s3) := Cells8.keep (w := w1.drew) hb2 HK0.out
         obtain ⟨j0, j1, j2, j3, j4, j5, j6, j7⟩ := HK2.out)
      | (go_at_call 32; (with_reducible refine (HLo'.out _).mono ?_); rintro e w3 ⟨rfl, hb3⟩
         have HK3 : Hid (Cells8 w3 w.heap.size a0 a1 a2 a3 s0 s1 s2 s3) := Cells8.keep hb3 HK2.out
         obtain ⟨m0, m1, m2, m3, m4, m5, m6, m7⟩ := HK3.out
         have HB3 : Hid (Below w.heap.size w w3) := (HB0.out.drew.trans (hb2.mono HB0.out.size)).trans (hb3.mono (Nat.le_trans HB0.out.size hb2.size))
         have hlt : w.heap.size < w1.heap.size := World.block_lt_of_cell? _ _ k0
         have hg3 : w3.heap[w.heap.size]? = some (.cells #[.int .u64 a0, .int .u64 a1, .int .u64 a2, .int .u64 a3, .int .u64 s0, .int .u64 s1, .int .u64 s2, .int .u64 s3] 34 (0, 0)) := (hb3.block _ (Nat.lt_of_lt_of_le hlt hb2.size)).trans ((hb2.block _ hlt).trans HG0.out)
         have f4 : w3.frozen? ⟨w.heap.size, 4, none⟩ = false := frozen_of hg3
         have f5 : w3.frozen? ⟨w.heap.size, 5, none⟩ = false := frozen_of hg3
         have f6 : w3.frozen? ⟨w.heap.size, 6, none⟩ = false := frozen_of hg3
         have f7 : w3.frozen? ⟨w.heap.size, 7, none⟩ = false := frozen_of hg3
         have HG3 := Lib.hid hg3
         clear hg3))
    all_goals (
      have hg := set4 (u0 := u0) (u1 := u1) (u2 := u2) (u3 := u3) HG3.out
      have hk := Cells8.of hg
      have hb : Below w.heap.size w ((((w3.setCell ⟨w.heap.size, 4, none⟩ (.int .u64 u0)).setCell ⟨w.heap.size, 5, none⟩ (.int .u64 u1)).setCell ⟨w.heap.size, 6, none⟩ (.int .u64 u2)).setCell ⟨w.heap.size, 7, none⟩ (.int .u64 u3)) := (((HB3.out.setCell (Nat.le_refl _) _).setCell (Nat.le_refl _) _).setCell (Nat.le_refl _) _).setCell (Nat.le_refl _) _
      generalize ((((w3.setCell ⟨w.heap.size, 4, none⟩ (.int .u64 u0)).setCell ⟨w.heap.size, 5, none⟩ (.int .u64 u1)).setCell ⟨w.heap.size, 6, none⟩ (.int .u64 u2)).setCell ⟨w.heap.size, 7, none⟩ (.int .u64 u3)) = W1 at hg hk hb ⊢
      have HBW := Lib.hid hb
      clear hg hb hb2 hb3 HG3 HB3 HK2 HK3 f4 f5 f6 f7 j0 j1 j2 j3 j4 j5 j6 j7 m0 m1 m2 m3 m4 m5 m6 m7 k0 k1 k2 k3 k4 k5 k6 k7 hlt HK0 HG0
      go_upto_region 3 with fail
      have HK1 := Lib.hid hk
      unfold Cells8 at hk
      go_region_held2 (fun w' => w'.cell? ⟨w.heap.size, 0, none⟩ = some (.int .u64 a0) ∧ w'.cell? ⟨w.heap.size, 1, none⟩ = some (.int .u64 a1) ∧ w'.cell? ⟨w.heap.size, 2, none⟩ = some (.int .u64 a2) ∧ w'.cell? ⟨w.heap.size, 3, none⟩ = some (.int .u64 a3) ∧
        w'.cell? ⟨w.heap.size, 4, none⟩ = some (.int .u64 u0) ∧ w'.cell? ⟨w.heap.size, 5, none⟩ = some (.int .u64 u1) ∧ w'.cell? ⟨w.heap.size, 6, none⟩ = some (.int .u64 u2) ∧ w'.cell? ⟨w.heap.size, 7, none⟩ = some (.int .u64 u3)) (assumption)
        (first
          | (go_at_call 33; (with_reducible refine (HdR.out _).mono ?_); rintro e w2 ⟨c, hc, ⟨v, rfl, ho⟩, hb2⟩
             have HK2 : Hid (Cells8 w2 w.heap.size a0 a1 a2 a3 u0 u1 u2 u3) := Cells8.keep (w := W1.drew) hb2 HK1.out
             have hkk := HK2.out
             unfold Cells8 at hkk)
          | (go_at_call 33; (with_reducible refine (HdS.out _).mono ?_); rintro e w3 ⟨d, hd, ⟨x, rfl, hox⟩, hb3⟩
             have HK3 : Hid (Cells8 w3 w.heap.size a0 a1 a2 a3 u0 u1 u2 u3) := Cells8.keep hb3 HK2.out
             have hkk := HK3.out
             unfold Cells8 at hkk
             have ho3 := owns_below ho hb3
             obtain ⟨A5, c5, rfl, hc5, -⟩ := own_slice hox
             have hr5 := Reads.of_own hox
             have hn5 : (2 :: (c.length : Int) :: c).length + (2 :: (d.length : Int) :: d).length ≤ 140737488355328 := by
               have := HLR.out c hc
               have := HLS.out d hd
               simp only [List.length_cons]
               omega
             have HB3 : Hid (Below W1.heap.size W1 w3) := ((Below.refl W1.heap.size W1).drew.trans hb2).trans (hb3.mono hb2.size)
             have HO3 := Lib.hid ho3
             have HR5 := Lib.hid hr5
             have HN5 := Lib.hid hn5
             clear ho3 hr5 hn5 ho hox hb2 hb3)
          | (refine step_append_any rfl (.tmp 15) (.tmp 18) _ rfl W1.heap.size 5 i0 _ Try.underlying22 hi0 hz0 hz1 hz2 rfl v _ _ rfl HO3.out w3.heap.size A5 _ c5 _ rfl HR5.out ints_one HN5.out HB3.out.size ?_; intro v4 w4 ho4 hg4 hat4
             have HB4 : Hid (Below W1.heap.size W1 w4) := below_grown HB3.out hg4 (Nat.le_refl _) fun k hk => (HO3.out.lt k hk).1
             have HK4 : Hid (Cells8 w4 w.heap.size a0 a1 a2 a3 u0 u1 u2 u3) := Cells8.keep HB4.out HK1.out
             have hkk := HK4.out
             unfold Cells8 at hkk))
      obtain ⟨A6, c6, rfl, hc6, -⟩ := own_slice ho4
      obtain ⟨N, hN⟩ : ∃ N, N = (2 :: (c.length : Int) :: c).length + (d.length + 1 + 1) := ⟨_, rfl⟩
      rw [← hN] at ho4 hc6 ⊢
      have hN70 : N ≤ 70 := by
        have := HLR.out c hc
        have := HLS.out d hd
        rw [hN]
        simp only [List.length_cons]
        omega
      have HB4' : Hid (Below w.heap.size w w4) := HBW.out.trans (HB4.out.mono HBW.out.size)
      have HR4 := Lib.hid (Reads.of_own ho4)
      have HN4 := Lib.hid hN
      have HN6 : Hid (2 + N ≤ 140737488355328) := by show 2 + N ≤ 140737488355328; omega
      have HCc := Lib.hid hc
      have HCd := Lib.hid hd
      clear ho4 hN hg4 hat4 HR5 HN5 HO3 HK3 HK2 HK1 HK4 hc hd
      go_wp2_with (at_builtin; refine wpList_append_any rfl (.tmp 23) (.tmp 24) _ rfl w4.heap.size 5 i0 _ Try.underlying22 hi0 hz0 hz1 hz2 rfl (.slice (some ⟨w4.heap.size, 0, none⟩) 2 2) 2 _ rfl (owns_lit w4 _ 2 _ (by omega) rfl) w4.heap.size A6 N c6 _ rfl (HR4.out.alloc (Nat.le_refl _) _) (by rw [← List.map_append]; exact ints_one) HN6.out (by simp) ?_; intro v5 w5 ho5 hg5 hat5; obtain ⟨A7, c7, rfl, hc7, -⟩ := own_slice ho5)
      go_ret
      exact sigBytes_end HCc.out HCd.out (below_grown (HB4'.out.alloc HB4'.out.size _) hg5 (Nat.le_refl _) fun k hk => by cases hk; exact HB4'.out.size) HB4'.out.size ho5 (by rw [HN4.out]; simp only [List.length_cons]; omega) (by rw [HN4.out]; simp only [List.length_cons]; omega))

end Go.Proofs.Ytfeancgmmonebaa.Sx

/-
  Calls of functions on scalars: set, compared with half of the order, negated, written. Conditions: none; each theorem bears its own.
-/
namespace Go.Proofs.Ytfeancgmmonebaa.Sx
open Go Go.Proofs Go.RowKit

theorem ObjOk.part {w : World} {ρ : En} {o b k : Nat} {cells : List SC} {cs : List Value} (hb : ρ.blk o = b) (hk : ρ.off o = k) (hlt : b < w.heap.size) (hc : ∀ (j : Nat) v, cs[j]? = some v → w.cell? ⟨b, k + j, none⟩ = some v)
    (hcs : cells.map (SC.den ρ) = cs) : ObjOk w ρ o ⟨cells, false⟩ := by
  subst hb hk hcs
  refine ⟨hlt, fun j c hj => hc j _ ?_, fun h => by cases h⟩
  simp only at hj
  rw [List.getElem?_map, hj]
  rfl

theorem ObjOk.partW {w : World} {ρ : En} {o b k : Nat} {cells : List SC} {cs : List Value} {T : TypeId} {all : Array Value} (hb : ρ.blk o = b) (hk : ρ.off o = k) (hg : w.heap[b]? = some (.cells all T (0, 0))) (hc : ∀ (j : Nat) v, cs[j]? = some v → all[k + j]? = some v)
    (hcs : cells.map (SC.den ρ) = cs) : ObjOk w ρ o ⟨cells, true⟩ := by
  subst hb hk hcs
  refine ⟨?_, fun j c hj => ?_, fun _ j _ => ?_⟩
  · rcases Nat.lt_or_ge (ρ.blk o) w.heap.size with h' | h'
    · exact h'
    · rw [Array.getElem?_eq_none h'] at hg; cases hg
  · simp only [World.cell?, hg]
    refine hc j _ ?_
    simp only at hj
    rw [List.getElem?_map, hj]
    rfl
  · simp [World.frozen?, hg]

theorem Fr.kept_cell {W : Nat → Nat → Prop} {w w' : World} (h : Fr W w w') {g j : Nat} {c : Array Value} {T : TypeId} {fz : Nat × Nat} (hb : w.heap[g]? = some (.cells c T fz)) (hj : ¬ W g j) : w'.cell? ⟨g, j, none⟩ = c[j]? := by
  have hg : g < w.heap.size := by
    rcases Nat.lt_or_ge g w.heap.size with h' | h'
    · exact h'
    · rw [Array.getElem?_eq_none h'] at hb; cases hb
  rcases h.block g hg with h1 | ⟨x, x', e, fz', h1, h2, h3, h4⟩
  · simp only [World.cell?, h1, hb]
    rfl
  · rw [hb] at h1
    cases h1
    simp only [World.cell?, h2]
    exact h4 j hj

theorem sset1_F {old y : List Int} (ho : old.length = 8) (hy : y.length = 8) : e_sset1.F (old ++ y) = y := by
  obtain ⟨x0, x1, x2, x3, x4, x5, x6, x7, rfl⟩ := len8 ho
  obtain ⟨y0, y1, y2, y3, y4, y5, y6, y7, rfl⟩ := len8 hy
  rfl

/-- A scalar is set to another one. -/
theorem c_sset1 {g b o : Nat} {T : TypeId} {old y : List Int} {w : World} (ho : old.length = 8) (hy : y.length = 8) (hg : w.heap[g]? = some (.cells (old.map (Value.int .u32)).toArray T (0, 0)))
    (hb : b < w.heap.size) (hc : ∀ (j : Nat) v, (y.map (Value.int .u32))[j]? = some v → w.cell? ⟨b, o + j, none⟩ = some v) (hne : g ≠ b) :
    Calls Try.prog 46 #[.pointer (some ⟨g, 0, none⟩), .pointer (some ⟨b, o, none⟩)] w fun en w' =>
      en = .returned (.pointer (some ⟨g, 0, none⟩)) ∧ w'.heap[g]? = some (.cells (y.map (Value.int .u32)).toArray T (0, 0)) ∧ Only g w w' := by
  refine (m_sset1.calls (by kernel_rfl) (base := old ++ y) (bs := [(g, 0), (b, o)]) (w := w) (by simp [ho, hy]; rfl) rfl (fun h => by cases h) ?_ ?_).mono ?_
  · intro k so hso
    match k with
    | 0 =>
      obtain rfl := Option.some.inj hso
      exact ObjOk.whole hg rfl rfl (kcells_at .u32 _ old [] y _ 0 8 (by simp) rfl ho)
    | 1 =>
      obtain rfl := Option.some.inj hso
      exact ObjOk.part rfl rfl hb hc (kcells_at .u32 _ y old [] _ 8 8 (by simp) ho hy)
    | k + 2 => cases hso
  · intro k k' so so' hoo h1 h2 h3
    match k, k' with
    | 0, 1 => exact .inl hne
    | 1, 0 => exact .inl hne.symm
    | 0, 0 => exact absurd rfl hoo
    | 1, 1 => exact absurd rfl hoo
    | k + 2, _ => cases h1
    | _, k' + 2 => cases h2
  · rintro en w' ⟨nb, hnb, _, _, hen, hm', hfr⟩
    obtain rfl : nb = [] := List.length_eq_zero_iff.1 (by have h : 2 + nb.length = 2 := hnb; omega)
    have hE : e_sset1.env (old ++ y) [(g, 0), (b, o)] [] = ⟨(old ++ y) ++ y, [(g, 0), (b, o)]⟩ := by
      unfold Entry.env
      rw [sset1_F ho hy]
      show (⟨_ ++ fit 8 _, _⟩ : En) = _
      rw [fit_eq hy]
      rfl
    rw [hE] at hen hm'
    have hW : ∀ k j, WOf ⟨old ++ y, [(g, 0), (b, o)]⟩ (ini e_sset1.args).mem k j → k = g := by
      rintro k j ⟨q, so, hso, hw, hk, _⟩
      match q with
      | 0 => exact hk.symm
      | 1 =>
        obtain rfl := Option.some.inj hso
        cases hw
      | q + 2 => cases hso
    refine ⟨hen, ?_, hfr.only hW⟩
    refine hfr.known hg (by simp [hy, ho]) fun j v hj => ?_
    have hob := hm' 0 ⟨kcells 16 (List.replicate 8 (some .u32)), true⟩ rfl
    have hk := kcells_at .u32 [(g, 0), (b, o)] y (old ++ y) [] ((old ++ y) ++ y) 16 8 (by simp) (by simp [ho, hy]) hy
    rw [← hk, List.getElem?_map, Option.map_eq_some_iff] at hj
    obtain ⟨c, hj, rfl⟩ := hj
    exact (congrArg (fun q => w'.cell? ⟨g, q, none⟩) (Nat.zero_add j)).symm.trans (hob.cell j c hj)

/-- Whether a scalar is above half of the order. -/
theorem c_shi {g : Nat} {T : TypeId} {V : Int} {w : World} (hg : w.heap[g]? = some (.cells ((dig 32 8 V).map (Value.int .u32)).toArray T (0, 0))) (v0 : 0 ≤ V) (v1 : V < 2 ^ 256) :
    Calls Try.prog 47 #[.pointer (some ⟨g, 0, none⟩)] w fun en w' => en = .returned (.bool (decide (fn / 2 < V))) ∧ Below w.heap.size w w' := by
  have hF := shi_spec v0 v1
  refine (m_shi.calls (by kernel_rfl) (base := dig 32 8 V) (bs := [(g, 0)]) (w := w) (by rw [dig_length]; rfl) rfl (fun h => by cases h) ?_ ?_).mono ?_
  · intro o so hso
    match o with
    | 0 =>
      obtain rfl := Option.some.inj hso
      exact ObjOk.whole hg rfl rfl (kcells_at .u32 _ (dig 32 8 V) [] [] _ 0 8 (by simp) rfl (dig_length 32 8 _))
    | o + 1 => cases hso
  · intro o o' so so' hoo h1 h2 h3
    match o, o' with
    | 0, 0 => exact absurd rfl hoo
    | o + 1, _ => cases h1
    | _, o' + 1 => cases h2
  · rintro en w' ⟨nb, hnb, _, _, hen, _, hfr⟩
    refine ⟨?_, hfr.below (Nat.le_refl _) ?_⟩
    · have hE : e_shi.env (dig 32 8 V) [(g, 0)] nb = ⟨dig 32 8 V ++ [b01 (decide (fn / 2 < V))], [(g, 0)] ++ nb⟩ := by
        unfold Entry.env
        rw [hF]
        rfl
      rw [hE] at hen
      rw [hen]
      show Ending.returned (Value.bool (List.getD _ 8 0 != 0)) = _
      rw [List.getD, List.getElem?_append_right (by simp [dig_length])]
      simp [dig_length, b01_bool]
    · rintro k j hk ⟨o, so, hso, hw, _⟩
      match o with
      | 0 =>
        obtain rfl := Option.some.inj hso
        cases hw
      | o + 1 => cases hso

/-- A scalar but 0 is negated. -/
theorem c_sneg {g : Nat} {T : TypeId} {V : Int} {w : World} (hg : w.heap[g]? = some (.cells ((dig 32 8 V).map (Value.int .u32)).toArray T (0, 0))) (v0 : 0 < V) (v1 : V < fn) :
    Calls Try.prog 48 #[.pointer (some ⟨g, 0, none⟩)] w fun en w' =>
      en = .returned (.pointer (some ⟨g, 0, none⟩)) ∧ w'.heap[g]? = some (.cells ((dig 32 8 (fn - V)).map (Value.int .u32)).toArray T (0, 0)) ∧ Only g w w' := by
  refine (m_sneg.calls (by kernel_rfl) (base := dig 32 8 V) (bs := [(g, 0)]) (w := w) (by rw [dig_length]; rfl) rfl (fun h => by cases h) ?_ ?_).mono ?_
  · intro o so hso
    match o with
    | 0 =>
      obtain rfl := Option.some.inj hso
      exact ObjOk.whole hg rfl rfl (kcells_at .u32 _ (dig 32 8 V) [] [] _ 0 8 (by simp) rfl (dig_length 32 8 _))
    | o + 1 => cases hso
  · intro o o' so so' hoo h1 h2 h3
    match o, o' with
    | 0, 0 => exact absurd rfl hoo
    | o + 1, _ => cases h1
    | _, o' + 1 => cases h2
  · rintro en w' ⟨nb, hnb, _, _, hen, hm', hfr⟩
    obtain rfl : nb = [] := List.length_eq_zero_iff.1 (by have h : 1 + nb.length = 1 := hnb; omega)
    have hE : e_sneg.env (dig 32 8 V) [(g, 0)] [] = ⟨dig 32 8 V ++ dig 32 8 (fn - V), [(g, 0)]⟩ := by
      unfold Entry.env
      rw [sneg_spec v0 v1]
      show (⟨_ ++ fit 8 _, _⟩ : En) = _
      rw [fit_eq (dig_length 32 8 _)]
      rfl
    rw [hE] at hen hm'
    have hW : ∀ k j, WOf ⟨dig 32 8 V, [(g, 0)]⟩ (ini e_sneg.args).mem k j → k = g := by
      rintro k j ⟨q, so, hso, hw, hk, _⟩
      match q with
      | 0 => exact hk.symm
      | q + 1 => cases hso
    refine ⟨hen, ?_, hfr.only hW⟩
    refine hfr.known hg (by simp [dig_length]) fun j v hj => ?_
    have hob := hm' 0 ⟨kcells 8 (List.replicate 8 (some .u32)), true⟩ rfl
    have hk := kcells_at .u32 [(g, 0)] (dig 32 8 (fn - V)) (dig 32 8 V) [] (dig 32 8 V ++ dig 32 8 (fn - V)) 8 8 (by simp) (by simp [dig_length]) (dig_length 32 8 _)
    rw [← hk, List.getElem?_map, Option.map_eq_some_iff] at hj
    obtain ⟨c, hj, rfl⟩ := hj
    exact (congrArg (fun q => w'.cell? ⟨g, q, none⟩) (Nat.zero_add j)).symm.trans (hob.cell j c hj)

/-- A scalar is written into the last 32 of 33 bytes. -/
theorem c_sputb {b o h : Nat} {T : TypeId} {V : Int} {w : World} (v0 : 0 ≤ V) (v1 : V < 2 ^ 256) (hb : b < w.heap.size) (hc : ∀ (j : Nat) v, ((dig 32 8 V).map (Value.int .u32))[j]? = some v → w.cell? ⟨b, o + j, none⟩ = some v)
    (hh : w.heap[h]? = some (.cells ((List.replicate 33 (0 : Int)).map (Value.int .u8)).toArray T (0, 0))) (hne : b ≠ h) :
    Calls Try.prog 49 #[.pointer (some ⟨b, o, none⟩), .slice (some ⟨h, 1, none⟩) 32 32] w fun en w' =>
      en = .returned (.tuple #[]) ∧ w'.heap[h]? = some (.cells ((0 :: byt V).map (Value.int .u8)).toArray T (0, 0)) ∧ Only h w w' := by
  have hF := sputb_spec (old := List.replicate 32 0) v0 v1 (by simp) (zeros_dg 8 32)
  refine (m_sputb.calls (by kernel_rfl) (base := dig 32 8 V ++ List.replicate 32 0) (bs := [(b, o), (h, 1)]) (w := w) (by simp [dig_length]; rfl) rfl (fun h => by cases h) ?_ ?_).mono ?_
  · intro k so hso
    match k with
    | 0 =>
      obtain rfl := Option.some.inj hso
      exact ObjOk.part rfl rfl hb hc (kcells_at .u32 _ (dig 32 8 V) [] (List.replicate 32 0) _ 0 8 (by simp) rfl (dig_length 32 8 _))
    | 1 =>
      obtain rfl := Option.some.inj hso
      refine ObjOk.partW rfl rfl hh (fun j v hj => ?_) (kcells_at .u8 _ (List.replicate 32 0) (dig 32 8 V) [] _ 8 32 (by simp) (dig_length 32 8 _) (by simp))
      rw [List.getElem?_map, List.getElem?_replicate] at hj
      split at hj
      · rename_i hj32
        cases hj
        show ((List.replicate 33 (0 : Int)).map (Value.int .u8)).toArray[1 + j]? = _
        rw [List.getElem?_toArray, List.getElem?_map, List.getElem?_replicate, if_pos (by omega)]
        rfl
      · cases hj
    | k + 2 => cases hso
  · intro k k' so so' hoo h1 h2 h3
    match k, k' with
    | 0, 1 => exact .inl hne
    | 1, 0 => exact .inl hne.symm
    | 0, 0 => exact absurd rfl hoo
    | 1, 1 => exact absurd rfl hoo
    | k + 2, _ => cases h1
    | _, k' + 2 => cases h2
  · rintro en w' ⟨nb, hnb, _, _, hen, hm', hfr⟩
    obtain rfl : nb = [] := List.length_eq_zero_iff.1 (by have h : 2 + nb.length = 2 := hnb; omega)
    have hE : e_sputb.env (dig 32 8 V ++ List.replicate 32 0) [(b, o), (h, 1)] [] = ⟨(dig 32 8 V ++ List.replicate 32 0) ++ byt V, [(b, o), (h, 1)]⟩ := by
      unfold Entry.env
      rw [hF]
      show (⟨_ ++ fit 32 (byt V), _⟩ : En) = _
      rw [fit_eq (byt_length V)]
      rfl
    rw [hE] at hen hm'
    have hW : ∀ k j, WOf ⟨dig 32 8 V ++ List.replicate 32 0, [(b, o), (h, 1)]⟩ (ini e_sputb.args).mem k j → k = h ∧ 1 ≤ j := by
      rintro k j ⟨q, so, hso, hw, hk, hj, _⟩
      match q with
      | 0 =>
        obtain rfl := Option.some.inj hso
        cases hw
      | 1 => exact ⟨hk.symm, hj⟩
      | q + 2 => cases hso
    refine ⟨hen, ?_, hfr.only fun k j hh => (hW k j hh).1⟩
    refine hfr.known hh (by simp [byt_length]) fun j v hj => ?_
    match j with
    | 0 =>
      rw [hfr.kept_cell hh (fun hq => by have := (hW _ _ hq).2; omega)]
      have hv : v = .int .u8 0 := by simpa using hj.symm
      rw [hv]
      rfl
    | j + 1 =>
      have hob := hm' 1 ⟨kcells 40 (List.replicate 32 (some .u8)), true⟩ rfl
      have hk := kcells_at .u8 [(b, o), (h, 1)] (byt V) (dig 32 8 V ++ List.replicate 32 0) [] ((dig 32 8 V ++ List.replicate 32 0) ++ byt V) 40 32 (by simp) (by simp [dig_length]) (byt_length V)
      rw [List.map_cons, List.getElem?_cons_succ, ← hk, List.getElem?_map, Option.map_eq_some_iff] at hj
      obtain ⟨c, hj, rfl⟩ := hj
      exact (congrArg (fun q => w'.cell? ⟨h, q, none⟩) (Nat.add_comm 1 j)).symm.trans (hob.cell j c hj)

end Go.Proofs.Ytfeancgmmonebaa.Sx
