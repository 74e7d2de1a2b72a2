/-
  Numbers as a signature's bytes have them: as few bytes as can be; they are told by the number. Conditions: none; each theorem bears its own.
-/
import Derived.Test.YtfeancgmmonebaaDoorMgr
import Derived.Laws.OwnMore
import Derived.Test.YtfeancgmmonebaaDoorMgn
import Derived.Deep.RegionHeld2
import Derived.Test.YtfeancgmmonebaaDoorMgo
namespace Go.Proofs.YtfeancgmmonebaaDoor.Sx
open Go Go.Proofs Go.RowKit

theorem be_hi {l : List Int} (hd : Dg 8 l) : 0 ≤ be l ∧ be l < 2 ^ (8 * l.length) := by
  have := num_bounds (Dg.reverse hd)
  rwa [List.length_reverse] at this

theorem be_lo {y : Int} {r : List Int} (hd : Dg 8 (y :: r)) (hy : y ≠ 0) : 2 ^ (8 * r.length) ≤ be (y :: r) := by
  have h0 := hd y (by simp)
  have hr := num_bounds (Dg.reverse (Dg.tail hd))
  show (2 : Int) ^ (8 * r.length) ≤ num 8 (y :: r).reverse
  rw [List.reverse_cons, num_app, List.length_reverse]
  have h1 : num 8 [y] = y := by simp [num]
  rw [h1]
  have h3 : (2 : Int) ^ (8 * r.length) * 1 ≤ 2 ^ (8 * r.length) * y :=
    Int.mul_le_mul_of_nonneg_left (by omega) (Int.le_of_lt (Int.pow_pos (by omega)))
  have := hr.1
  omega

theorem be_dig {l : List Int} (hd : Dg 8 l) : l = (dig 8 l.length (be l)).reverse := by
  have h := dig_num (Dg.reverse hd)
  rw [List.length_reverse] at h
  have : dig 8 l.length (be l) = l.reverse := h
  rw [this, List.reverse_reverse]

theorem two_pow_le {a b : Nat} (h : a ≤ b) : (2 : Int) ^ a ≤ 2 ^ b := by
  have := Nat.pow_le_pow_right (n := 2) (by omega) h
  exact_mod_cast this

theorem nozero_shorter {x y : Int} {r t : List Int} (hd : Dg 8 (x :: r)) (hd' : Dg 8 (y :: t)) (hy : y ≠ 0) (h : be (x :: r) = be (y :: t)) : ¬ r.length < t.length := by
  intro hlt
  have h1 := (be_hi hd).2
  have h2 := be_lo hd' hy
  have h3 := two_pow_le (show 8 * (x :: r).length ≤ 8 * t.length by simp; omega)
  omega

/-- Without a zero ahead the number tells the bytes. -/
theorem nozero_unique {l l' : List Int} (hd : Dg 8 l) (hd' : Dg 8 l') (hz : NoZero l) (hz' : NoZero l') (h : be l = be l') : l = l' := by
  match l, l' with
  | [], [] => rfl
  | [], y :: t =>
    exfalso
    have h2 := be_lo hd' (hz' y t rfl)
    have h3 : (0 : Int) < 2 ^ (8 * t.length) := Int.pow_pos (by omega)
    have h4 : be [] = 0 := rfl
    omega
  | x :: r, [] =>
    exfalso
    have h2 := be_lo hd (hz x r rfl)
    have h3 : (0 : Int) < 2 ^ (8 * r.length) := Int.pow_pos (by omega)
    have h4 : be [] = 0 := rfl
    omega
  | x :: r, y :: t =>
    have h1 := nozero_shorter hd hd' (hz' y t rfl) h
    have h2 := nozero_shorter hd' hd (hz x r rfl) h.symm
    have hl : (x :: r).length = (y :: t).length := by simp; omega
    rw [be_dig hd, be_dig hd', hl, h]

/-- As few bytes as can be, the highest bit not set. -/
structure Canon (V : Int) (c : List Int) : Prop where
  dg : Dg 8 c
  val : be c = V
  ne : 1 ≤ c.length
  low : c.getD 0 0 < 128
  pad : ¬ (1 < c.length ∧ c.getD 0 0 = 0 ∧ c.getD 1 0 < 128)

theorem Canon.strip {V : Int} {c : List Int} (h : Canon V c) : (∃ r, c = 0 :: r ∧ NoZero r ∧ Dg 8 r ∧ be r = V ∧ (∀ y t, r = y :: t → 128 ≤ y)) ∨ (∃ x r, c = x :: r ∧ x ≠ 0 ∧ x < 128 ∧ NoZero c) := by
  obtain ⟨hd, hv, hl, hlo, hp⟩ := h
  match c, hl with
  | x :: r, _ =>
    by_cases hx : x = 0
    · subst hx
      have key : ∀ y t, r = y :: t → 128 ≤ y := fun y t hr => by
        subst hr
        simp at hp
        omega
      exact .inl ⟨r, rfl, fun y t hr => by have := key y t hr; omega, Dg.tail hd, by rw [← be_cons_zero]; exact hv, key⟩
    · refine .inr ⟨x, r, rfl, hx, by simpa using hlo, fun y t hr => ?_⟩
      cases hr
      exact hx

theorem canon_unique {V : Int} {c c' : List Int} (h : Canon V c) (h' : Canon V c') : c = c' := by
  rcases h.strip with ⟨r, rfl, hz, hd, hv, hk⟩ | ⟨x, r, rfl, hx, hlo, hz⟩
  · rcases h'.strip with ⟨r', rfl, hz', hd', hv', _⟩ | ⟨x', r', rfl, hx', hlo', hz'⟩
    · rw [nozero_unique hd hd' hz hz' (hv.trans hv'.symm)]
    · have := nozero_unique hd h'.dg hz hz' (hv.trans h'.val.symm)
      have := hk x' r' this
      omega
  · rcases h'.strip with ⟨r', rfl, hz', hd', hv', hk'⟩ | ⟨x', r', rfl, hx', hlo', hz'⟩
    · have := nozero_unique hd' h.dg hz' hz (hv'.trans h.val.symm)
      have := hk' x r this
      omega
    · exact nozero_unique h.dg h'.dg hz hz' (h.val.trans h'.val.symm)

theorem Canon.len {V : Int} {c : List Int} (h : Canon V c) (hV : V < 2 ^ 256) : c.length ≤ 33 := by
  rcases h.strip with ⟨r, rfl, hz, hd, hv, _⟩ | ⟨x, r, rfl, hx, _, hz⟩
  · match r, hz, hd, hv with
    | [], _, _, _ => simp
    | y :: t, hz, hd, hv =>
      have h1 := be_lo hd (hz y t rfl)
      rcases Nat.lt_or_ge 31 t.length with hh | hh
      · have := two_pow_le (show 256 ≤ 8 * t.length by omega)
        omega
      · simp; omega
  · have h1 := be_lo h.dg hx
    have hv := h.val
    rcases Nat.lt_or_ge 31 r.length with hh | hh
    · have := two_pow_le (show 256 ≤ 8 * r.length by omega)
      omega
    · simp; omega

/-- The bytes of a signature. -/
def sigB (c d : List Int) : List Int := 48 :: ((c.length + d.length + 4 : Nat) : Int) :: 2 :: (c.length : Int) :: (c ++ (2 :: (d.length : Int) :: d))

theorem sigB_length (c d : List Int) : (sigB c d).length = c.length + d.length + 6 := by simp [sigB]; omega

theorem sk1_sigB (c d : List Int) : sk1 (sigB c d) = c.length := by simp [sk1, sigB]
theorem sl3_sigB (c d : List Int) : sl3 (sigB c d) = 2 :: (d.length : Int) :: d := by
  unfold sl3
  rw [sk1_sigB]
  show List.drop (2 + c.length) (2 :: (c.length : Int) :: (c ++ (2 :: (d.length : Int) :: d))) = _
  rw [show 2 + c.length = c.length + 1 + 1 by omega, List.drop_succ_cons, List.drop_succ_cons, List.drop_left]
theorem sk2_sigB (c d : List Int) : sk2 (sigB c d) = d.length := by simp [sk2, sl3_sigB]
theorem sigR_sigB (c d : List Int) : sigR (sigB c d) = be c := by
  unfold sigR
  rw [sk1_sigB]
  show be (List.take c.length (c ++ (2 :: (d.length : Int) :: d))) = _
  rw [List.take_left]
theorem sigS_sigB (c d : List Int) : sigS (sigB c d) = be d := by
  unfold sigS
  rw [sk2_sigB, sl3_sigB]
  show be (List.take d.length d) = _
  rw [List.take_length]

theorem sigB_ok {R S : Int} {c d : List Int} (hc : Canon R c) (hd : Canon S d) (hR : 0 < R ∧ R < fn) (hS : 0 < S ∧ S < fn) : SigOk (sigB c d) ∧ sigR (sigB c d) = R ∧ sigS (sigB c d) = S := by
  have eR : sigR (sigB c d) = R := (sigR_sigB c d).trans hc.val
  have eS : sigS (sigB c d) = S := (sigS_sigB c d).trans hd.val
  have lc := hc.len (by have := fn_lt; omega)
  have ld := hd.len (by have := fn_lt; omega)
  have nc := hc.ne
  have nd := hd.ne
  have hl := sigB_length c d
  refine ⟨⟨by omega, by omega, rfl, ?_, ?_, ?_, ?_, by rw [eR]; exact hR, by rw [eS]; exact hS⟩, eR, eS⟩
  · rw [hl]
    show ((c.length + d.length + 4 : Nat) : Int) = _
    omega
  · have e : (sigB c d).drop 2 = 2 :: (c.length : Int) :: (c ++ (2 :: (d.length : Int) :: d)) := rfl
    rw [e]
    have g0 : (c ++ (2 :: (d.length : Int) :: d)).getD 0 0 = c.getD 0 0 := by
      simp only [List.getD]
      rw [List.getElem?_append_left (by omega)]
    refine ⟨by simp; omega, rfl, by show (c.length : Int) ≠ 0; omega, by show (c.length : Int) ≤ _; simp; omega, ?_, ?_, ?_⟩
    · show (c ++ (2 :: (d.length : Int) :: d)).getD 0 0 < 128
      rw [g0]
      exact hc.low
    · show ¬ (1 < (c.length : Int) ∧ (c ++ (2 :: (d.length : Int) :: d)).getD 0 0 = 0 ∧ (c ++ (2 :: (d.length : Int) :: d)).getD 1 0 < 128)
      rw [g0]
      rintro ⟨h1, h2, h3⟩
      refine hc.pad ⟨by omega, h2, ?_⟩
      simp only [List.getD] at h3 ⊢
      rwa [List.getElem?_append_left (by omega)] at h3
    · show be (List.take (Int.toNat (c.length : Int)) (c ++ (2 :: (d.length : Int) :: d))) < _
      rw [Int.toNat_natCast, List.take_left, hc.val]
      have := fn_lt
      omega
  · rw [sl3_sigB]
    refine ⟨by simp; omega, rfl, by show (d.length : Int) ≠ 0; omega, by show (d.length : Int) ≤ _; simp; omega, hd.low, ?_, ?_⟩
    · show ¬ (1 < (d.length : Int) ∧ d.getD 0 0 = 0 ∧ d.getD 1 0 < 128)
      rintro ⟨h1, h2, h3⟩
      exact hd.pad ⟨by omega, h2, h3⟩
    · show be (List.take (Int.toNat (d.length : Int)) d) < _
      rw [Int.toNat_natCast, List.take_length, hd.val]
      have := fn_lt
      omega
  · rw [sl3_sigB, sk2_sigB]
    simp
    omega

theorem derN_parts {l : List Int} (hd : Dg 8 l) (h : DerN l) {k : Nat} (hk : k = (l.getD 1 0).toNat) : Canon (be ((l.drop 2).take k)) ((l.drop 2).take k) ∧ ((l.drop 2).take k).length = k ∧ l = 2 :: (k : Int) :: ((l.drop 2).take k ++ l.drop (2 + k)) := by
  obtain ⟨h1, h2, h3, h4, h5, h6, h7⟩ := h
  match l, h1 with
  | a :: b :: y :: t, _ =>
    have hb : 0 ≤ b := (hd b (by simp)).1
    have e1 : (a :: b :: y :: t).getD 1 0 = b := rfl
    have e0 : (a :: b :: y :: t).getD 0 0 = a := rfl
    have e2 : (a :: b :: y :: t).getD 2 0 = y := rfl
    have e3 : (a :: b :: y :: t).getD 3 0 = t.getD 0 0 := rfl
    rw [e1] at hk h3 h4 h6
    rw [e0] at h2
    rw [e2] at h5 h6
    rw [e3] at h6
    have hbk : b = k := by omega
    simp only [List.length_cons] at h4
    have hlen : (List.take k (y :: t)).length = k := by rw [List.length_take, List.length_cons]; omega
    show Canon (be (List.take k (y :: t))) (List.take k (y :: t)) ∧ (List.take k (y :: t)).length = k ∧ a :: b :: y :: t = 2 :: (k : Int) :: (List.take k (y :: t) ++ List.drop (2 + k) (a :: b :: y :: t))
    obtain ⟨j, rfl⟩ : ∃ j, k = j + 1 := ⟨k - 1, by omega⟩
    refine ⟨⟨fun x hx => hd x (List.mem_cons_of_mem _ (List.mem_cons_of_mem _ (List.mem_of_mem_take hx))), rfl, by omega, ?_, ?_⟩, hlen, ?_⟩
    · simpa using h5
    · rw [hlen]
      rintro ⟨g1, g2, g3⟩
      refine h6 ⟨by omega, by simpa using g2, ?_⟩
      rw [List.take_succ_cons] at g3
      obtain ⟨i, rfl⟩ : ∃ i, j = i + 1 := ⟨j - 1, by omega⟩
      match t, g3 with
      | [], g3 => simp
      | u :: v, g3 => simpa using g3
    · rw [h2, hbk, show 2 + (j + 1) = j + 1 + 1 + 1 by omega, List.drop_succ_cons, List.drop_succ_cons, List.take_append_drop]

/-- A signature's bytes are those of its numbers. -/
theorem sigOk_sigB {bs : List Int} (hd : Dg 8 bs) (h : SigOk bs) : ∃ c d, Canon (sigR bs) c ∧ Canon (sigS bs) d ∧ bs = sigB c d := by
  have hd2 : Dg 8 (bs.drop 2) := fun x hx => hd x (List.mem_of_mem_drop hx)
  have hd3 : Dg 8 (sl3 bs) := fun x hx => hd2 x (List.mem_of_mem_drop hx)
  obtain ⟨c1, c2, c3⟩ := derN_parts hd2 h.d1 (k := sk1 bs) rfl
  obtain ⟨d1, d2, d3⟩ := derN_parts hd3 h.d2 (k := sk2 bs) rfl
  refine ⟨((bs.drop 2).drop 2).take (sk1 bs), ((sl3 bs).drop 2).take (sk2 bs), c1, d1, ?_⟩
  have hall := h.all
  have he : (sl3 bs).drop (2 + sk2 bs) = [] := List.drop_eq_nil_of_le (by omega)
  rw [he, List.append_nil] at d3
  have hsl : (bs.drop 2).drop (2 + sk1 bs) = sl3 bs := rfl
  rw [hsl] at c3
  have n8 := h.n8
  have hx0 := h.x0
  have hx1 := h.x1
  match bs, n8, hx0, hx1, c2, d2, c3, d3 with
  | a :: b :: r, n8, hx0, hx1, c2, d2, c3, d3 =>
    have ha : a = 48 := hx0
    have hb : b = ((a :: b :: r).length : Nat) - 2 := hx1
    generalize hc : ((a :: b :: r).drop 2 |>.drop 2).take (sk1 (a :: b :: r)) = c at *
    generalize hdd : ((sl3 (a :: b :: r)).drop 2).take (sk2 (a :: b :: r)) = d at *
    have hr : r = 2 :: (sk1 (a :: b :: r) : Int) :: (c ++ sl3 (a :: b :: r)) := c3
    rw [← c2, d3, ← d2] at hr
    have hlr : r.length = c.length + d.length + 4 := by rw [hr]; simp; omega
    unfold sigB
    rw [ha, hb, ← hr]
    congr 2
    simp
    omega

end Go.Proofs.YtfeancgmmonebaaDoor.Sx

/-
  The reference's derNumber: a number's bytes, of the call's own. Conditions: none; each theorem bears its own.
-/
namespace Go.Proofs.YtfeancgmmonebaaDoor.Sx
open Go Go.Proofs Go.RowKit

theorem byt_dg (V : Int) : Dg 8 (byt V) := Dg.reverse (dig_dg 8 32 V)
theorem byt_be {V : Int} (v0 : 0 ≤ V) (v1 : V < 2 ^ 256) : be (byt V) = V := by
  show num 8 (dig 8 32 V).reverse.reverse = V
  rw [List.reverse_reverse, num_dig 8 32 V v0 v1]

theorem owns_lit (w : World) (cs : Array Value) (n : Nat) (e : TypeId) (hm : n ≤ 1000) (hs : cs.size = n) :
    (w.alloc (.cells cs e)).ownsRow w.heap.size e 1 (.slice (some ⟨w.heap.size, 0, none⟩) n n) n cs.toList :=
  World.ownsRow_lit w cs n (Nat.le_refl _) (by unfold maxLen; omega) (by omega)

theorem owns_below {w w' : World} {base : Nat} {e : TypeId} {v : Value} {n : Nat} {xs : List Value} (h : w.ownsRow base e 1 v n xs) (hb : Below w.heap.size w w') : w'.ownsRow base e 1 v n xs :=
  h.kept (row := none) ⟨hb.os, hb.tape, hb.output, hb.size, fun k hk _ => hb.block k hk⟩ (by
    cases hv : v.ownBlock with
    | none => exact .inl rfl
    | some k => exact .inr (by simp))

abbrev zlit32 : Array Value := #[.int .u8 0, .int .u8 0, .int .u8 0, .int .u8 0, .int .u8 0, .int .u8 0, .int .u8 0, .int .u8 0, .int .u8 0, .int .u8 0, .int .u8 0, .int .u8 0, .int .u8 0, .int .u8 0, .int .u8 0, .int .u8 0, .int .u8 0, .int .u8 0, .int .u8 0, .int .u8 0, .int .u8 0, .int .u8 0, .int .u8 0, .int .u8 0, .int .u8 0, .int .u8 0, .int .u8 0, .int .u8 0, .int .u8 0, .int .u8 0, .int .u8 0, .int .u8 0]

theorem owns_mono {w : World} {base base' : Nat} {e : TypeId} {v : Value} {n : Nat} {xs : List Value} (h : w.ownsRow base e 1 v n xs) (hb : base' ≤ base) : w.ownsRow base' e 1 v n xs :=
  ⟨h.1, h.2.imp id fun ⟨g, cap, cur, h1, h2, h3⟩ => ⟨g, cap, cur, h1, Nat.le_trans hb h2, h3⟩⟩

/-- Bytes of the call's own, that can be appended to. -/
def Owned (w : World) (l : List Int) (e : Ending) (w' : World) : Prop :=
  (∃ v, e = .returned v ∧ w'.ownsRow w.heap.size 5 1 v l.length (l.map (Value.int .u8))) ∧ Below w.heap.size w w'

theorem derNumber_end {w w4 w5 : World} {V : Int} {c : List Int} {v : Value} {n : Nat} {x : Int} (hc : Canon V c) (hb : Below w.heap.size w w5) (h4 : w.heap.size ≤ w4.heap.size)
    (ho : w5.ownsRow w4.heap.size 5 1 v n (#[Value.int .u8 2, Value.int .u8 x].toList ++ c.map (Value.int .u8))) (hn : n = 2 + c.length) (hx : x = c.length) :
    ∃ c, Canon V c ∧ Owned w (2 :: (c.length : Int) :: c) (.returned v) w5 := by
  subst hx hn
  refine ⟨c, hc, ⟨v, rfl, owns_mono ?_ h4⟩, hb⟩
  rw [show (2 :: (c.length : Int) :: c).length = 2 + c.length by simp; omega]
  exact ho

end Go.Proofs.YtfeancgmmonebaaDoor.Sx

/-
  The reference's SignatureBytes. Conditions: none; each theorem bears its own.
-/
namespace Go.Proofs.YtfeancgmmonebaaDoor.Sx
open Go Go.Proofs Go.RowKit

theorem c_low {V : Int} (v0 : 0 ≤ V) (v1 : V < 2 ^ 256) (w : World) :
    Calls Tryd.prog 7 #[.agg ((dig 64 4 V).map (Value.int .u64)).toArray] w fun en w' => en = .returned (.bool (decide (V ≤ fn / 2))) ∧ Below w.heap.size w w' :=
  m_low.pure (by kernel_rfl) (base := dig 64 4 V) (dig_length 64 4 _) rfl (fun h => by cases h) (low_spec v0 v1) (args := [.agg ((dig 64 4 V).map (Value.int .u64)).toArray])
    (by
      show [(SV.one (.agg (kcells 0 (List.replicate 4 (some .u64))))).den ⟨dig 64 4 V, []⟩] = _
      rw [agg_at .u64 [] (l := dig 64 4 V) (pre := []) (post := []) (n := 0) (by simp) rfl (dig_length 64 4 _)])
    (fun nb => by
      show Value.bool (List.getD (dig 64 4 V ++ fit 1 [b01 (decide (V ≤ fn / 2))]) 4 0 != 0) = _
      rw [List.getD, List.getElem?_append_right (by rw [dig_length]; exact Nat.le_refl _), dig_length]
      show Value.bool (b01 (decide (V ≤ fn / 2)) != 0) = _
      rw [b01_bool]) w

theorem c_lof {A B : Int} (a0 : 0 ≤ A) (a1 : A < 2 ^ 256) (b0 : 0 ≤ B) (b1 : B < 2 ^ 256) (w : World) :
    Calls Tryd.prog 18 #[.agg ((dig 64 4 A).map (Value.int .u64)).toArray, .agg ((dig 64 4 B).map (Value.int .u64)).toArray] w fun en w' => en = .returned (.agg ((dig 64 4 (A - B)).map (Value.int .u64)).toArray) ∧ Below w.heap.size w w' :=
  m_lof.pure (by kernel_rfl) (base := dig 64 4 A ++ dig 64 4 B) (by simp [dig_length]; rfl) rfl (fun h => by cases h) (lof_spec a0 a1 b0 b1) (args := [.agg ((dig 64 4 A).map (Value.int .u64)).toArray, .agg ((dig 64 4 B).map (Value.int .u64)).toArray])
    (by
      show [(SV.one (.agg (kcells 0 (List.replicate 4 (some .u64))))).den ⟨dig 64 4 A ++ dig 64 4 B, []⟩, (SV.one (.agg (kcells 4 (List.replicate 4 (some .u64))))).den ⟨dig 64 4 A ++ dig 64 4 B, []⟩] = _
      rw [agg_at .u64 [] (l := dig 64 4 A) (pre := []) (post := dig 64 4 B) (n := 0) (by simp) rfl (dig_length 64 4 _), agg_at .u64 [] (l := dig 64 4 B) (pre := dig 64 4 A) (post := []) (n := 4) (by simp) (dig_length 64 4 _) (dig_length 64 4 _)])
    (fun nb => by
      show (SV.one (.agg (kcells 8 (List.replicate 4 (some .u64))))).den ⟨(dig 64 4 A ++ dig 64 4 B) ++ fit 4 (dig 64 4 (A - B)), nb⟩ = _
      rw [fit_eq (dig_length 64 4 _)]
      exact agg_at .u64 nb (l := dig 64 4 (A - B)) (pre := dig 64 4 A ++ dig 64 4 B) (post := []) (n := 8) (by simp) (by simp [dig_length]) (dig_length 64 4 _)) w

/-- The lesser one of a number and its opposite. -/
def lowOf (S : Int) : Int := if S ≤ fn / 2 then S else fn - S
theorem lowOf_range {S : Int} (h : 0 < S ∧ S < fn) : 0 < lowOf S ∧ lowOf S < fn := by
  unfold lowOf
  have : fn / 2 < fn := by decide
  split <;> omega

theorem cell_keep {w w' : World} (hb : Below w.heap.size w w') {a : Addr} {v : Value} (h : w.cell? a = some v) : w'.cell? a = some v :=
  (hb.cell (World.block_lt_of_cell? _ _ h)).trans h

theorem step_append_any {P : Program} {ops : Array Oper} {w : World} {o : Oper} {a : Act} {K : Act → World → Prop} {Q : Exit → Act → World → Prop} {E : Prop} (hgd : o.guard = none) (s x : Operand) (t : TypeId)
    (ho : o.op = .call { callee := .builtin .append, args := #[s, x], argTypes := #[t, t] })
    (base : Nat) (e : TypeId) (i : TypeInfo) (z : Value) (ht : P.underlying t = some (.slice e)) (hi : P.info? e = some i) (hz : i.zero = some z)
    (hsize : i.size = 1) (hby : i.bytes = 1) (hzs : z.cells.size = 1)
    (v : Value) (n : Nat) (xs : List Value) (hs : a.eval s = v) (hown : w.ownsRow base e 1 v n xs)
    (B : Nat) (A : Option Addr) (m c : Nat) (news : List Value) (hx : a.eval x = .slice A m c) (hr : Reads w B A m news) (h1 : ∀ u ∈ news, u.oneCell' = true)
    (hbytes : n + m ≤ 140737488355328) (hbase : base ≤ w.heap.size)
    (h : ∀ v' w', w'.ownsRow base e 1 v' (n + m) (xs ++ news) → w.grownBy w' v.ownBlock → (v'.ownBlock = v.ownBlock ∨ v'.ownBlock = some w.heap.size) → K (a.put o.dst v') w') :
    if Region.wanted o (yielded ops a.tmps) = true then Oper.wp P o a w K Q else E := by
  have hw : Region.wanted o (yielded ops a.tmps) = true := by simp [Region.wanted, hgd]
  rw [if_pos hw]
  exact wp_append_any s x t ho base e i z ht hi hz hsize hby hzs v n xs hs hown B A m c news hx hr h1 hbytes hbase h

/-- Eight words lie in a block. -/
def Cells8 (w : World) (g : Nat) (a0 a1 a2 a3 s0 s1 s2 s3 : Int) : Prop :=
  w.cell? ⟨g, 0, none⟩ = some (.int .u64 a0) ∧ w.cell? ⟨g, 1, none⟩ = some (.int .u64 a1) ∧ w.cell? ⟨g, 2, none⟩ = some (.int .u64 a2) ∧ w.cell? ⟨g, 3, none⟩ = some (.int .u64 a3) ∧
  w.cell? ⟨g, 4, none⟩ = some (.int .u64 s0) ∧ w.cell? ⟨g, 5, none⟩ = some (.int .u64 s1) ∧ w.cell? ⟨g, 6, none⟩ = some (.int .u64 s2) ∧ w.cell? ⟨g, 7, none⟩ = some (.int .u64 s3)

theorem Cells8.keep {w w' : World} {g : Nat} {a0 a1 a2 a3 s0 s1 s2 s3 : Int} (hb : Below w.heap.size w w') (h : Cells8 w g a0 a1 a2 a3 s0 s1 s2 s3) : Cells8 w' g a0 a1 a2 a3 s0 s1 s2 s3 := by
  obtain ⟨h0, h1, h2, h3, h4, h5, h6, h7⟩ := h
  exact ⟨cell_keep hb h0, cell_keep hb h1, cell_keep hb h2, cell_keep hb h3, cell_keep hb h4, cell_keep hb h5, cell_keep hb h6, cell_keep hb h7⟩

theorem Cells8.of {w : World} {g : Nat} {T : TypeId} {a0 a1 a2 a3 s0 s1 s2 s3 : Int} (h : w.heap[g]? = some (.cells #[.int .u64 a0, .int .u64 a1, .int .u64 a2, .int .u64 a3, .int .u64 s0, .int .u64 s1, .int .u64 s2, .int .u64 s3] T (0, 0))) : Cells8 w g a0 a1 a2 a3 s0 s1 s2 s3 := by
  refine ⟨?_, ?_, ?_, ?_, ?_, ?_, ?_, ?_⟩ <;> simp [World.cell?, h]

theorem frozen_of {w : World} {g k : Nat} {T : TypeId} {cs : Array Value} (h : w.heap[g]? = some (.cells cs T (0, 0))) : w.frozen? ⟨g, k, none⟩ = false := by simp [World.frozen?, h]

theorem set4 {w : World} {g : Nat} {T : TypeId} {a0 a1 a2 a3 s0 s1 s2 s3 u0 u1 u2 u3 : Int} (h : w.heap[g]? = some (.cells #[.int .u64 a0, .int .u64 a1, .int .u64 a2, .int .u64 a3, .int .u64 s0, .int .u64 s1, .int .u64 s2, .int .u64 s3] T (0, 0))) :
    ((((w.setCell ⟨g, 4, none⟩ (.int .u64 u0)).setCell ⟨g, 5, none⟩ (.int .u64 u1)).setCell ⟨g, 6, none⟩ (.int .u64 u2)).setCell ⟨g, 7, none⟩ (.int .u64 u3)).heap[g]? = some (.cells #[.int .u64 a0, .int .u64 a1, .int .u64 a2, .int .u64 a3, .int .u64 u0, .int .u64 u1, .int .u64 u2, .int .u64 u3] T (0, 0)) := by
  simp [World.setCell, Array.getElem?_modify, h]

def SigOut (w : World) (R S : Int) (e : Ending) (w' : World) : Prop := ∃ c d, Canon R c ∧ Canon S d ∧ Owned w (sigB c d) e w'

theorem sigBytes_end {w w4 w5 : World} {R S : Int} {c d : List Int} {v : Value} {n : Nat} {x : Int} (hc : Canon R c) (hd : Canon S d) (hb : Below w.heap.size w w5) (h4 : w.heap.size ≤ w4.heap.size)
    (ho : w5.ownsRow w4.heap.size 5 1 v n (#[Value.int .u8 48, Value.int .u8 x].toList ++ ((2 :: (c.length : Int) :: c).map (Value.int .u8) ++ (2 :: (d.length : Int) :: d).map (Value.int .u8)))) (hn : n = c.length + d.length + 6) (hx : x = ((c.length + d.length + 4 : Nat) : Int)) :
    SigOut w R S (.returned v) w5 := by
  subst hx hn
  refine ⟨c, d, hc, hd, ⟨v, rfl, owns_mono ?_ h4⟩, hb⟩
  rw [sigB_length]
  have : (sigB c d).map (Value.int .u8) = #[Value.int .u8 48, Value.int .u8 ((c.length + d.length + 4 : Nat) : Int)].toList ++ ((2 :: (c.length : Int) :: c).map (Value.int .u8) ++ (2 :: (d.length : Int) :: d).map (Value.int .u8)) := by
    unfold sigB
    simp
  rw [this]
  exact ho

end Go.Proofs.YtfeancgmmonebaaDoor.Sx

/-
  Calls of functions on scalars: set, compared with half of the order, negated, written. Conditions: none; each theorem bears its own.
-/
namespace Go.Proofs.YtfeancgmmonebaaDoor.Sx
open Go Go.Proofs Go.RowKit

theorem ObjOk.part {w : World} {ρ : En} {o b k : Nat} {cells : List SC} {cs : List Value} (hb : ρ.blk o = b) (hk : ρ.off o = k) (hlt : b < w.heap.size) (hc : ∀ (j : Nat) v, cs[j]? = some v → w.cell? ⟨b, k + j, none⟩ = some v)
    (hcs : cells.map (SC.den ρ) = cs) : ObjOk w ρ o ⟨cells, false⟩ := by
  subst hb hk hcs
  refine ⟨hlt, fun j c hj => hc j _ ?_, fun h => by cases h⟩
  simp only at hj
  rw [List.getElem?_map, hj]
  rfl

theorem ObjOk.partW {w : World} {ρ : En} {o b k : Nat} {cells : List SC} {cs : List Value} {T : TypeId} {all : Array Value} (hb : ρ.blk o = b) (hk : ρ.off o = k) (hg : w.heap[b]? = some (.cells all T (0, 0))) (hc : ∀ (j : Nat) v, cs[j]? = some v → all[k + j]? = some v)
    (hcs : cells.map (SC.den ρ) = cs) : ObjOk w ρ o ⟨cells, true⟩ := by
  subst hb hk hcs
  refine ⟨?_, fun j c hj => ?_, fun _ j _ => ?_⟩
  · rcases Nat.lt_or_ge (ρ.blk o) w.heap.size with h' | h'
    · exact h'
    · rw [Array.getElem?_eq_none h'] at hg; cases hg
  · simp only [World.cell?, hg]
    refine hc j _ ?_
    simp only at hj
    rw [List.getElem?_map, hj]
    rfl
  · simp [World.frozen?, hg]

theorem Fr.kept_cell {W : Nat → Nat → Prop} {w w' : World} (h : Fr W w w') {g j : Nat} {c : Array Value} {T : TypeId} {fz : Nat × Nat} (hb : w.heap[g]? = some (.cells c T fz)) (hj : ¬ W g j) : w'.cell? ⟨g, j, none⟩ = c[j]? := by
  have hg : g < w.heap.size := by
    rcases Nat.lt_or_ge g w.heap.size with h' | h'
    · exact h'
    · rw [Array.getElem?_eq_none h'] at hb; cases hb
  rcases h.block g hg with h1 | ⟨x, x', e, fz', h1, h2, h3, h4⟩
  · simp only [World.cell?, h1, hb]
    rfl
  · rw [hb] at h1
    cases h1
    simp only [World.cell?, h2]
    exact h4 j hj

theorem sset1_F {old y : List Int} (ho : old.length = 8) (hy : y.length = 8) : e_sset1.F (old ++ y) = y := by
  obtain ⟨x0, x1, x2, x3, x4, x5, x6, x7, rfl⟩ := len8 ho
  obtain ⟨y0, y1, y2, y3, y4, y5, y6, y7, rfl⟩ := len8 hy
  rfl

/-- A scalar is set to another one. -/
theorem c_sset1 {g b o : Nat} {T : TypeId} {old y : List Int} {w : World} (ho : old.length = 8) (hy : y.length = 8) (hg : w.heap[g]? = some (.cells (old.map (Value.int .u32)).toArray T (0, 0)))
    (hb : b < w.heap.size) (hc : ∀ (j : Nat) v, (y.map (Value.int .u32))[j]? = some v → w.cell? ⟨b, o + j, none⟩ = some v) (hne : g ≠ b) :
    Calls Tryd.prog 39 #[.pointer (some ⟨g, 0, none⟩), .pointer (some ⟨b, o, none⟩)] w fun en w' =>
      en = .returned (.pointer (some ⟨g, 0, none⟩)) ∧ w'.heap[g]? = some (.cells (y.map (Value.int .u32)).toArray T (0, 0)) ∧ Only g w w' := by
  refine (m_sset1.calls (by kernel_rfl) (base := old ++ y) (bs := [(g, 0), (b, o)]) (w := w) (by simp [ho, hy]; rfl) rfl (fun h => by cases h) ?_ ?_).mono ?_
  · intro k so hso
    match k with
    | 0 =>
      obtain rfl := Option.some.inj hso
      exact ObjOk.whole hg rfl rfl (kcells_at .u32 _ old [] y _ 0 8 (by simp) rfl ho)
    | 1 =>
      obtain rfl := Option.some.inj hso
      exact ObjOk.part rfl rfl hb hc (kcells_at .u32 _ y old [] _ 8 8 (by simp) ho hy)
    | k + 2 => cases hso
  · intro k k' so so' hoo h1 h2 h3
    match k, k' with
    | 0, 1 => exact .inl hne
    | 1, 0 => exact .inl hne.symm
    | 0, 0 => exact absurd rfl hoo
    | 1, 1 => exact absurd rfl hoo
    | k + 2, _ => cases h1
    | _, k' + 2 => cases h2
  · rintro en w' ⟨nb, hnb, _, _, hen, hm', hfr⟩
    obtain rfl : nb = [] := List.length_eq_zero_iff.1 (by have h : 2 + nb.length = 2 := hnb; omega)
    have hE : e_sset1.env (old ++ y) [(g, 0), (b, o)] [] = ⟨(old ++ y) ++ y, [(g, 0), (b, o)]⟩ := by
      unfold Entry.env
      rw [sset1_F ho hy]
      show (⟨_ ++ fit 8 _, _⟩ : En) = _
      rw [fit_eq hy]
      rfl
    rw [hE] at hen hm'
    have hW : ∀ k j, WOf ⟨old ++ y, [(g, 0), (b, o)]⟩ (ini e_sset1.args).mem k j → k = g := by
      rintro k j ⟨q, so, hso, hw, hk, _⟩
      match q with
      | 0 => exact hk.symm
      | 1 =>
        obtain rfl := Option.some.inj hso
        cases hw
      | q + 2 => cases hso
    refine ⟨hen, ?_, hfr.only hW⟩
    refine hfr.known hg (by simp [hy, ho]) fun j v hj => ?_
    have hob := hm' 0 ⟨kcells 16 (List.replicate 8 (some .u32)), true⟩ rfl
    have hk := kcells_at .u32 [(g, 0), (b, o)] y (old ++ y) [] ((old ++ y) ++ y) 16 8 (by simp) (by simp [ho, hy]) hy
    rw [← hk, List.getElem?_map, Option.map_eq_some_iff] at hj
    obtain ⟨c, hj, rfl⟩ := hj
    exact (congrArg (fun q => w'.cell? ⟨g, q, none⟩) (Nat.zero_add j)).symm.trans (hob.cell j c hj)

/-- Whether a scalar is above half of the order. -/
theorem c_shi {g : Nat} {T : TypeId} {V : Int} {w : World} (hg : w.heap[g]? = some (.cells ((dig 32 8 V).map (Value.int .u32)).toArray T (0, 0))) (v0 : 0 ≤ V) (v1 : V < 2 ^ 256) :
    Calls Tryd.prog 31 #[.pointer (some ⟨g, 0, none⟩)] w fun en w' => en = .returned (.bool (decide (fn / 2 < V))) ∧ Below w.heap.size w w' := by
  have hF := shi_spec v0 v1
  refine (m_shi.calls (by kernel_rfl) (base := dig 32 8 V) (bs := [(g, 0)]) (w := w) (by rw [dig_length]; rfl) rfl (fun h => by cases h) ?_ ?_).mono ?_
  · intro o so hso
    match o with
    | 0 =>
      obtain rfl := Option.some.inj hso
      exact ObjOk.whole hg rfl rfl (kcells_at .u32 _ (dig 32 8 V) [] [] _ 0 8 (by simp) rfl (dig_length 32 8 _))
    | o + 1 => cases hso
  · intro o o' so so' hoo h1 h2 h3
    match o, o' with
    | 0, 0 => exact absurd rfl hoo
    | o + 1, _ => cases h1
    | _, o' + 1 => cases h2
  · rintro en w' ⟨nb, hnb, _, _, hen, _, hfr⟩
    refine ⟨?_, hfr.below (Nat.le_refl _) ?_⟩
    · have hE : e_shi.env (dig 32 8 V) [(g, 0)] nb = ⟨dig 32 8 V ++ [b01 (decide (fn / 2 < V))], [(g, 0)] ++ nb⟩ := by
        unfold Entry.env
        rw [hF]
        rfl
      rw [hE] at hen
      rw [hen]
      show Ending.returned (Value.bool (List.getD _ 8 0 != 0)) = _
      rw [List.getD, List.getElem?_append_right (by simp [dig_length])]
      simp [dig_length, b01_bool]
    · rintro k j hk ⟨o, so, hso, hw, _⟩
      match o with
      | 0 =>
        obtain rfl := Option.some.inj hso
        cases hw
      | o + 1 => cases hso

/-- A scalar but 0 is negated. -/
theorem c_sneg {g : Nat} {T : TypeId} {V : Int} {w : World} (hg : w.heap[g]? = some (.cells ((dig 32 8 V).map (Value.int .u32)).toArray T (0, 0))) (v0 : 0 < V) (v1 : V < fn) :
    Calls Tryd.prog 40 #[.pointer (some ⟨g, 0, none⟩)] w fun en w' =>
      en = .returned (.pointer (some ⟨g, 0, none⟩)) ∧ w'.heap[g]? = some (.cells ((dig 32 8 (fn - V)).map (Value.int .u32)).toArray T (0, 0)) ∧ Only g w w' := by
  refine (m_sneg.calls (by kernel_rfl) (base := dig 32 8 V) (bs := [(g, 0)]) (w := w) (by rw [dig_length]; rfl) rfl (fun h => by cases h) ?_ ?_).mono ?_
  · intro o so hso
    match o with
    | 0 =>
      obtain rfl := Option.some.inj hso
      exact ObjOk.whole hg rfl rfl (kcells_at .u32 _ (dig 32 8 V) [] [] _ 0 8 (by simp) rfl (dig_length 32 8 _))
    | o + 1 => cases hso
  · intro o o' so so' hoo h1 h2 h3
    match o, o' with
    | 0, 0 => exact absurd rfl hoo
    | o + 1, _ => cases h1
    | _, o' + 1 => cases h2
  · rintro en w' ⟨nb, hnb, _, _, hen, hm', hfr⟩
    obtain rfl : nb = [] := List.length_eq_zero_iff.1 (by have h : 1 + nb.length = 1 := hnb; omega)
    have hE : e_sneg.env (dig 32 8 V) [(g, 0)] [] = ⟨dig 32 8 V ++ dig 32 8 (fn - V), [(g, 0)]⟩ := by
      unfold Entry.env
      rw [sneg_spec v0 v1]
      show (⟨_ ++ fit 8 _, _⟩ : En) = _
      rw [fit_eq (dig_length 32 8 _)]
      rfl
    rw [hE] at hen hm'
    have hW : ∀ k j, WOf ⟨dig 32 8 V, [(g, 0)]⟩ (ini e_sneg.args).mem k j → k = g := by
      rintro k j ⟨q, so, hso, hw, hk, _⟩
      match q with
      | 0 => exact hk.symm
      | q + 1 => cases hso
    refine ⟨hen, ?_, hfr.only hW⟩
    refine hfr.known hg (by simp [dig_length]) fun j v hj => ?_
    have hob := hm' 0 ⟨kcells 8 (List.replicate 8 (some .u32)), true⟩ rfl
    have hk := kcells_at .u32 [(g, 0)] (dig 32 8 (fn - V)) (dig 32 8 V) [] (dig 32 8 V ++ dig 32 8 (fn - V)) 8 8 (by simp) (by simp [dig_length]) (dig_length 32 8 _)
    rw [← hk, List.getElem?_map, Option.map_eq_some_iff] at hj
    obtain ⟨c, hj, rfl⟩ := hj
    exact (congrArg (fun q => w'.cell? ⟨g, q, none⟩) (Nat.zero_add j)).symm.trans (hob.cell j c hj)

/-- A scalar is written into the last 32 of 33 bytes. -/
theorem c_sputb {b o h : Nat} {T : TypeId} {V : Int} {w : World} (v0 : 0 ≤ V) (v1 : V < 2 ^ 256) (hb : b < w.heap.size) (hc : ∀ (j : Nat) v, ((dig 32 8 V).map (Value.int .u32))[j]? = some v → w.cell? ⟨b, o + j, none⟩ = some v)
    (hh : w.heap[h]? = some (.cells ((List.replicate 33 (0 : Int)).map (Value.int .u8)).toArray T (0, 0))) (hne : b ≠ h) :
    Calls Tryd.prog 41 #[.pointer (some ⟨b, o, none⟩), .slice (some ⟨h, 1, none⟩) 32 32] w fun en w' =>
      en = .returned (.tuple #[]) ∧ w'.heap[h]? = some (.cells ((0 :: byt V).map (Value.int .u8)).toArray T (0, 0)) ∧ Only h w w' := by
  have hF := sputb_spec (old := List.replicate 32 0) v0 v1 (by simp) (zeros_dg 8 32)
  refine (m_sputb.calls (by kernel_rfl) (base := dig 32 8 V ++ List.replicate 32 0) (bs := [(b, o), (h, 1)]) (w := w) (by simp [dig_length]; rfl) rfl (fun h => by cases h) ?_ ?_).mono ?_
  · intro k so hso
    match k with
    | 0 =>
      obtain rfl := Option.some.inj hso
      exact ObjOk.part rfl rfl hb hc (kcells_at .u32 _ (dig 32 8 V) [] (List.replicate 32 0) _ 0 8 (by simp) rfl (dig_length 32 8 _))
    | 1 =>
      obtain rfl := Option.some.inj hso
      refine ObjOk.partW rfl rfl hh (fun j v hj => ?_) (kcells_at .u8 _ (List.replicate 32 0) (dig 32 8 V) [] _ 8 32 (by simp) (dig_length 32 8 _) (by simp))
      rw [List.getElem?_map, List.getElem?_replicate] at hj
      split at hj
      · rename_i hj32
        cases hj
        show ((List.replicate 33 (0 : Int)).map (Value.int .u8)).toArray[1 + j]? = _
        rw [List.getElem?_toArray, List.getElem?_map, List.getElem?_replicate, if_pos (by omega)]
        rfl
      · cases hj
    | k + 2 => cases hso
  · intro k k' so so' hoo h1 h2 h3
    match k, k' with
    | 0, 1 => exact .inl hne
    | 1, 0 => exact .inl hne.symm
    | 0, 0 => exact absurd rfl hoo
    | 1, 1 => exact absurd rfl hoo
    | k + 2, _ => cases h1
    | _, k' + 2 => cases h2
  · rintro en w' ⟨nb, hnb, _, _, hen, hm', hfr⟩
    obtain rfl : nb = [] := List.length_eq_zero_iff.1 (by have h : 2 + nb.length = 2 := hnb; omega)
    have hE : e_sputb.env (dig 32 8 V ++ List.replicate 32 0) [(b, o), (h, 1)] [] = ⟨(dig 32 8 V ++ List.replicate 32 0) ++ byt V, [(b, o), (h, 1)]⟩ := by
      unfold Entry.env
      rw [hF]
      show (⟨_ ++ fit 32 (byt V), _⟩ : En) = _
      rw [fit_eq (byt_length V)]
      rfl
    rw [hE] at hen hm'
    have hW : ∀ k j, WOf ⟨dig 32 8 V ++ List.replicate 32 0, [(b, o), (h, 1)]⟩ (ini e_sputb.args).mem k j → k = h ∧ 1 ≤ j := by
      rintro k j ⟨q, so, hso, hw, hk, hj, _⟩
      match q with
      | 0 =>
        obtain rfl := Option.some.inj hso
        cases hw
      | 1 => exact ⟨hk.symm, hj⟩
      | q + 2 => cases hso
    refine ⟨hen, ?_, hfr.only fun k j hh => (hW k j hh).1⟩
    refine hfr.known hh (by simp [byt_length]) fun j v hj => ?_
    match j with
    | 0 =>
      rw [hfr.kept_cell hh (fun hq => by have := (hW _ _ hq).2; omega)]
      have hv : v = .int .u8 0 := by simpa using hj.symm
      rw [hv]
      rfl
    | j + 1 =>
      have hob := hm' 1 ⟨kcells 40 (List.replicate 32 (some .u8)), true⟩ rfl
      have hk := kcells_at .u8 [(b, o), (h, 1)] (byt V) (dig 32 8 V ++ List.replicate 32 0) [] ((dig 32 8 V ++ List.replicate 32 0) ++ byt V) 40 32 (by simp) (by simp [dig_length]) (byt_length V)
      rw [List.map_cons, List.getElem?_cons_succ, ← hk, List.getElem?_map, Option.map_eq_some_iff] at hj
      obtain ⟨c, hj, rfl⟩ := hj
      exact (congrArg (fun q => w'.cell? ⟨h, q, none⟩) (Nat.add_comm 1 j)).symm.trans (hob.cell j c hj)

end Go.Proofs.YtfeancgmmonebaaDoor.Sx
