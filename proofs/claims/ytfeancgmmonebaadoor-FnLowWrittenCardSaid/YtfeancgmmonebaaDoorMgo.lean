/-
  Reading a signature's bytes (DER): the walk. Conditions: none; each theorem bears its own.
-/
import Derived.Test.YtfeancgmmonebaaDoorMgn
import Derived.LoopTactic
import Derived.Deep.DeepCutAuto
import Derived.Deep.CutBlock
namespace Go.Proofs.YtfeancgmmonebaaDoor.Sx
open Go Go.Proofs Go.RowKit

theorem c_eserr (k d : ByteArray) (w : World) : Calls Tryd.prog 33 #[.string k, .string d] w (AnAgg w) := by
  go_enter Tryd.func33, Tryd.ntmps33
  go_wp2_with fail
  exact bodyPost_ret (v := .agg #[.iface 72 (.string k), .string d]) (by simp [results, Tryd.results33, go_sem]) rfl ⟨⟨_, rfl⟩, (Below.refl _ _).alloc (Nat.le_refl _) _⟩

def IsErrRes (w : World) (e : Ending) (w' : World) : Prop := (∃ t x, e = .returned (.tuple #[.pointer none, .iface t x])) ∧ Below w.heap.size w w'

/-- The bytes' first places, as memory has them. -/
structure DerCells (w : World) (ad : Addr) (n rl sl : Nat) (x0 x1 x2 x4 x5 xs y0 y1 : Int) : Prop where
  k0 : w.cell? ad = some (.int .u8 x0)
  k1 : w.cell? ⟨ad.block, ad.off + 1, none⟩ = some (.int .u8 x1)
  k2 : w.cell? ⟨ad.block, ad.off + 2, none⟩ = some (.int .u8 x2)
  k3 : w.cell? ⟨ad.block, ad.off + 3, none⟩ = some (.int .u8 rl)
  k4 : w.cell? ⟨ad.block, ad.off + 4, none⟩ = some (.int .u8 x4)
  k5 : w.cell? ⟨ad.block, ad.off + 5, none⟩ = some (.int .u8 x5)
  m0 : 4 + rl < n → w.cell? (ad.add (4 + rl)) = some (.int .u8 xs)
  m1 : 5 + rl < n → w.cell? ⟨ad.block, ad.off + (4 + rl + 1), none⟩ = some (.int .u8 sl)
  m2 : 6 + rl < n → w.cell? ⟨ad.block, ad.off + (4 + rl + 1 + 1), none⟩ = some (.int .u8 y0)
  m3 : 7 + rl < n → w.cell? ⟨ad.block, ad.off + (4 + rl + 1 + 1 + 1), none⟩ = some (.int .u8 y1)
  b1 : 0 ≤ x1
  b1' : x1 < 256
  b3 : rl < 256
  bs : sl < 256

set_option maxRecDepth 1000000 in
set_option maxHeartbeats 4000000 in
theorem der_short (n c : Nat) (A : Option Addr) (w : World) (h : n < 8 ∨ (72 < n ∧ n < 2147483648)) : Calls Tryd.prog 21 #[.slice A n c] w (IsErrRes w) := by
  rcases h with h | ⟨h, h'⟩
  · go_enter Tryd.func21, Tryd.ntmps21
    go_wp2_with ((with_reducible refine (c_eserr _ _ _).mono ?_); rintro e w1 ⟨⟨x, rfl⟩, hb1⟩)
    go_ret2
    exact ⟨⟨_, _, rfl⟩, hb1⟩
  · go_enter Tryd.func21, Tryd.ntmps21
    go_wp2_with ((with_reducible refine (c_eserr _ _ _).mono ?_); rintro e w1 ⟨⟨x, rfl⟩, hb1⟩)
    go_ret2
    exact ⟨⟨_, _, rfl⟩, hb1⟩

set_option maxRecDepth 1000000 in
set_option maxHeartbeats 4000000 in
/-- Lengths that do not fit. -/
theorem der_bad (n c rl sl : Nat) (ad : Addr) (w : World) (x0 x1 x2 x4 x5 xs y0 y1 : Int) (C : DerCells w ad n rl sl x0 x1 x2 x4 x5 xs y0 y1) (hn8 : 8 ≤ n) (hn72 : n ≤ 72) (hbad : n ≤ 4 + rl ∨ n = 5 + rl ∨ (6 + rl ≤ n ∧ (n ≠ 6 + rl + sl ∨ rl = 0 ∨ sl = 0))) :
    Calls Tryd.prog 21 #[.slice (some ad) n c] w (IsErrRes w) := by
  have HC := Lib.hid C
  obtain ⟨k0, k1, k2, k3, k4, k5, m0, m1, m2, m3, b1, b1', b3, bs⟩ := C
  clear m0 m1 m2 m3
  rcases hbad with h | h | ⟨h, h'⟩
  · go_enter Tryd.func21, Tryd.ntmps21
    go_wp2_with ((with_reducible refine (c_eserr _ _ _).mono ?_); rintro e w1 ⟨⟨x, rfl⟩, hb1⟩)
    all_goals (go_ret2; exact ⟨⟨_, _, rfl⟩, hb1⟩)
  · have h4 : 4 + (rl : Int) < n := by omega
    have h5 : (n : Int) ≤ 4 + rl + 1 := by omega
    clear h
    go_enter Tryd.func21, Tryd.ntmps21
    go_wp2_with ((with_reducible refine (c_eserr _ _ _).mono ?_); rintro e w1 ⟨⟨x, rfl⟩, hb1⟩)
    all_goals (go_ret2; exact ⟨⟨_, _, rfl⟩, hb1⟩)
  · have h4 : 4 + (rl : Int) < n := by omega
    have h5 : 4 + (rl : Int) + 1 < n := by omega
    have m0 := HC.out.m0 (by omega)
    have m1 := HC.out.m1 (by omega)
    by_cases hq : n = 6 + rl + sl
    · have hq1 : ((4 + (rl : Int) + 1 + 1 + sl != n) = false) := by simp; omega
      have h'' : rl = 0 ∨ sl = 0 := h'.resolve_left (fun q => q hq)
      clear h' hq
      rcases h'' with h'' | h''
      · have hz : ((rl : Int) == 0) = true := by simp [h'']
        have HZ := Lib.hid h''
        clear h''
        go_enter Tryd.func21, Tryd.ntmps21
        go_wp2_with ((with_reducible refine (c_eserr _ _ _).mono ?_); rintro e w1 ⟨⟨x, rfl⟩, hb1⟩)
        all_goals (go_ret2; exact ⟨⟨_, _, rfl⟩, hb1⟩)
      · have hz : ((sl : Int) == 0) = true := by simp [h'']
        have HZ := Lib.hid h''
        clear h''
        go_enter Tryd.func21, Tryd.ntmps21
        go_wp2_with ((with_reducible refine (c_eserr _ _ _).mono ?_); rintro e w1 ⟨⟨x, rfl⟩, hb1⟩)
        all_goals (go_ret2; exact ⟨⟨_, _, rfl⟩, hb1⟩)
    · have hq1 : ((4 + (rl : Int) + 1 + 1 + sl != n) = true) := by simp; omega
      clear h' hq
      go_enter Tryd.func21, Tryd.ntmps21
      go_wp2_with ((with_reducible refine (c_eserr _ _ _).mono ?_); rintro e w1 ⟨⟨x, rfl⟩, hb1⟩)
      all_goals (go_ret2; exact ⟨⟨_, _, rfl⟩, hb1⟩)

/-- What is asked of the bytes, told at their places. -/
structure DerAt (n rl sl : Nat) (x0 x1 x2 x4 x5 xs y0 y1 R S : Int) : Prop where
  x0 : x0 = 48
  x1 : x1 = n - 2
  x2 : x2 = 2
  xs : xs = 2
  tot : n = 6 + rl + sl
  r0 : 0 < rl
  r1 : x4 < 128
  r2 : ¬ (1 < rl ∧ x4 = 0 ∧ x5 < 128)
  s0 : 0 < sl
  s1 : y0 < 128
  s2 : ¬ (1 < sl ∧ y0 = 0 ∧ y1 < 128)
  R0 : 0 < R
  R1 : R < fn
  S0 : 0 < S
  S1 : S < fn

theorem and128 {x : Int} (h0 : 0 ≤ x) (h1 : x < 256) : bits .and .u8 x 128 = if x < 128 then 0 else 128 := by
  rw [bits_and (k := .u8) (b := 8) rfl h0 h1 (by omega) (by omega)]
  obtain ⟨k, rfl⟩ := Int.eq_ofNat_of_zero_le h0
  have hk : k < 256 := by omega
  rw [Int.toNat_natCast]
  have key : ∀ k : Nat, k < 256 → (((k &&& 128 : Nat)) : Int) = if (k : Int) < 128 then 0 else 128 := by decide +kernel
  exact key k hk

/-- Bytes of which nothing ahead is needed: what is left, and its number. -/
def Rest (w : World) (B : Nat) (v : Value) (V : Int) : Prop :=
  ∃ (A : Option Addr) (m c : Nat) (l : List Int), v = .slice A m c ∧ m ≤ c ∧ m ≤ 72 ∧ Reads w B A m (l.map (Value.int .u8)) ∧ Dg 8 l ∧ be l = V

theorem be_cons_zero (l : List Int) : be (0 :: l) = be l := be_pad 1 l

theorem Rest.open {w : World} {B : Nat} {A : Option Addr} {m : Nat} {l : List Int} (h : Reads w B A m (l.map (Value.int .u8))) (hm : 0 < m) : ∃ ad y r, A = some ad ∧ l = y :: r ∧ w.cell? ad = some (.int .u8 y) := by
  obtain ⟨ad, rfl, _, hc⟩ := h.2 hm
  match l, h.1 with
  | [], h1 => simp at h1; omega
  | y :: r, _ =>
    have := hc 0 (.int .u8 y) rfl
    rw [show ad.add 0 = ad by unfold Addr.add; simp] at this
    exact ⟨ad, y, r, rfl, rfl, this⟩

/-- The cut that leaves out the first byte. -/
theorem run_cut1 (ad : Addr) {m c : Nat} (hm : 0 < m) (hc : m ≤ c) (w : World) :
    (Instr.sliceAt 22 (.slice (some ad) m c) (some (.int .i64 1)) none none).run Tryd.prog w = .ok (.slice (if c = 1 then some ad else some (ad.add 1)) (m - 1) (c - 1)) w := by
  have := run_cut_slice (P := Tryd.prog) Tryd.underlying22 (by kernel_rfl) (some ad) m c (some 1) none 1 m rfl rfl (by omega) hc w
  simpa using this

theorem Reads.tail1 {w : World} {B : Nat} {ad : Addr} {m c : Nat} {y : Int} {r : List Int} (h : Reads w B (some ad) m ((y :: r).map (Value.int .u8))) (hc : m ≤ c) : Reads w B (if c = 1 then some ad else some (ad.add 1)) (m - 1) (r.map (Value.int .u8)) := by
  have h1 := h.drop 1
  by_cases hq : c = 1
  · rw [if_pos hq]
    refine ⟨by simpa using h1.1, fun h0 => by omega⟩
  · rw [if_neg hq]
    exact h1

end Go.Proofs.YtfeancgmmonebaaDoor.Sx

/-
  Reading a signature's bytes: numbers and their calls. Conditions: none; each theorem bears its own.
-/
namespace Go.Proofs.YtfeancgmmonebaaDoor.Sx
open Go Go.Proofs Go.RowKit

theorem c_sisz {g : Nat} {T : TypeId} {V : Int} {w : World} (hg : w.heap[g]? = some (.cells ((dig 32 8 V).map (Value.int .u32)).toArray T (0, 0))) (v0 : 0 ≤ V) (v1 : V < 2 ^ 256) :
    Calls Tryd.prog 35 #[.pointer (some ⟨g, 0, none⟩)] w fun en w' => en = .returned (.bool (decide (V = 0))) ∧ Below w.heap.size w w' := by
  have hF := sisz_spec v0 v1
  refine (m_sisz.calls (by kernel_rfl) (base := dig 32 8 V) (bs := [(g, 0)]) (w := w) (by rw [dig_length]; rfl) rfl (fun h => by cases h) ?_ ?_).mono ?_
  · intro o so hso
    match o with
    | 0 =>
      obtain rfl := Option.some.inj hso
      exact ObjOk.whole hg rfl rfl (kcells_at .u32 _ (dig 32 8 V) [] [] _ 0 8 (by simp) rfl (dig_length 32 8 _))
    | o + 1 => cases hso
  · intro o o' so so' hoo h1 h2 h3
    match o, o' with
    | 0, 0 => exact absurd rfl hoo
    | o + 1, _ => cases h1
    | _, o' + 1 => cases h2
  · rintro en w' ⟨nb, hnb, _, _, hen, _, hfr⟩
    refine ⟨?_, hfr.below (Nat.le_refl _) ?_⟩
    · have hE : e_sisz.env (dig 32 8 V) [(g, 0)] nb = ⟨dig 32 8 V ++ [b01 (decide (V = 0))], [(g, 0)] ++ nb⟩ := by
        unfold Entry.env
        rw [hF]
        rfl
      rw [hE] at hen
      rw [hen]
      show Ending.returned (Value.bool (List.getD _ 8 0 != 0)) = _
      rw [List.getD, List.getElem?_append_right (by simp [dig_length])]
      simp [dig_length, b01_bool]
    · rintro k j hk ⟨o, so, hso, hw, _⟩
      match o with
      | 0 =>
        obtain rfl := Option.some.inj hso
        cases hw
      | o + 1 => cases hso

/-- A new signature of both numbers. -/
theorem c_newsig {g h : Nat} {T T' : TypeId} {R S : Int} {w : World} (hg : w.heap[g]? = some (.cells ((dig 32 8 R).map (Value.int .u32)).toArray T (0, 0))) (hh : w.heap[h]? = some (.cells ((dig 32 8 S).map (Value.int .u32)).toArray T' (0, 0))) (hne : g ≠ h) :
    Calls Tryd.prog 23 #[.pointer (some ⟨g, 0, none⟩), .pointer (some ⟨h, 0, none⟩)] w fun en w' =>
      (∃ b o, en = .returned (.pointer (some ⟨b, o, none⟩)) ∧ w.heap.size ≤ b ∧ ∀ (j : Nat) v, ((dig 32 8 R ++ dig 32 8 S).map (Value.int .u32))[j]? = some v → w'.cell? ⟨b, o + j, none⟩ = some v) ∧ Below w.heap.size w w' := by
  refine (m_newsig.calls (by kernel_rfl) (base := dig 32 8 R ++ dig 32 8 S) (bs := [(g, 0), (h, 0)]) (w := w) (by simp [dig_length]; rfl) rfl (fun h => by cases h) ?_ ?_).mono ?_
  · intro o so hso
    match o with
    | 0 =>
      obtain rfl := Option.some.inj hso
      exact ObjOk.whole hg rfl rfl (kcells_at .u32 _ (dig 32 8 R) [] _ _ 0 8 rfl rfl (dig_length 32 8 _))
    | 1 =>
      obtain rfl := Option.some.inj hso
      exact ObjOk.whole hh rfl rfl (kcells_at .u32 _ (dig 32 8 S) (dig 32 8 R) [] _ 8 8 (by simp) (dig_length 32 8 _) (dig_length 32 8 _))
    | o + 2 => cases hso
  · intro o o' so so' hoo h1 h2 h3
    match o, o' with
    | 0, 1 => exact .inl hne
    | 1, 0 => exact .inl hne.symm
    | 0, 0 => exact absurd rfl hoo
    | 1, 1 => exact absurd rfl hoo
    | o + 2, _ => cases h1
    | _, o' + 2 => cases h2
  · rintro en w' ⟨nb, hnb, hnew, _, hen, hm', hfr⟩
    obtain ⟨b, rfl⟩ : ∃ b, nb = [b] := List.length_eq_one_iff.1 (by have h : 2 + nb.length = 3 := hnb; omega)
    have hF : e_newsig.F (dig 32 8 R ++ dig 32 8 S) = dig 32 8 R ++ dig 32 8 S := by
      obtain ⟨x0, x1, x2, x3, x4, x5, x6, x7, hx⟩ := len8 (dig_length 32 8 R)
      obtain ⟨y0, y1, y2, y3, y4, y5, y6, y7, hy⟩ := len8 (dig_length 32 8 S)
      rw [hx, hy]
      rfl
    have hE : e_newsig.env (dig 32 8 R ++ dig 32 8 S) [(g, 0), (h, 0)] [b] = ⟨(dig 32 8 R ++ dig 32 8 S) ++ (dig 32 8 R ++ dig 32 8 S), [(g, 0), (h, 0), b]⟩ := by
      unfold Entry.env
      rw [hF]
      show (⟨_ ++ fit 16 _, _⟩ : En) = _
      rw [fit_eq (by simp [dig_length])]
      rfl
    rw [hE] at hen hm'
    refine ⟨⟨b.1, b.2, by rw [hen]; rfl, hnew b (by simp), fun j v hj => ?_⟩, hfr.below (Nat.le_refl _) ?_⟩
    · have hob := hm' 2 ⟨kcells 16 (List.replicate 16 (some .u32)), true⟩ rfl
      have hc := kcells_at .u32 [(g, 0), (h, 0), b] (dig 32 8 R ++ dig 32 8 S) (dig 32 8 R ++ dig 32 8 S) [] ((dig 32 8 R ++ dig 32 8 S) ++ (dig 32 8 R ++ dig 32 8 S)) 16 16 (by simp) (by simp [dig_length]) (by simp [dig_length])
      rw [← hc, List.getElem?_map, Option.map_eq_some_iff] at hj
      obtain ⟨c, hj, rfl⟩ := hj
      exact hob.cell j c hj
    · rintro k j hk ⟨o, so, hso, hw, _⟩
      match o with
      | 0 =>
        obtain rfl := Option.some.inj hso
        cases hw
      | 1 =>
        obtain rfl := Option.some.inj hso
        cases hw
      | o + 2 => cases hso

theorem be_big {y : Int} {r : List Int} (hd : Dg 8 (y :: r)) (hy : y ≠ 0) (hl : 32 ≤ r.length) : 2 ^ 256 ≤ be (y :: r) := by
  have h0 := hd y (by simp)
  have hr := num_bounds (Dg.reverse (Dg.tail hd))
  show (2 : Int) ^ 256 ≤ num 8 (y :: r).reverse
  rw [List.reverse_cons, num_app, List.length_reverse]
  have h1 : num 8 [y] = y := by simp [num]
  rw [h1]
  have h2 : (2 : Int) ^ 256 ≤ 2 ^ (8 * r.length) := by
    have := Nat.pow_le_pow_right (n := 2) (by omega) (show 256 ≤ 8 * r.length by omega)
    exact_mod_cast this
  have h3 : (1 : Int) * 2 ^ (8 * r.length) ≤ 2 ^ (8 * r.length) * y := by
    rw [Int.mul_comm]
    exact Int.mul_le_mul_of_nonneg_left (by omega) (by omega)
  have := hr.1
  omega

/-- Bytes with nothing ahead; what is left, and its number. -/
def Trim (w : World) (B : Nat) (v : Value) (V : Int) : Prop :=
  ∃ (A : Option Addr) (m c : Nat) (l : List Int), v = .slice A m c ∧ m ≤ c ∧ m ≤ 72 ∧ Reads w B A m (l.map (Value.int .u8)) ∧ Dg 8 l ∧ be l = V ∧ (32 < m → 2 ^ 256 ≤ V)

def lenOf : Value → Nat
  | .slice _ n _ => n
  | _ => 0

/-- SetByteSlice into a new number. -/
theorem c_setnew {w0 w : World} {A : Option Addr} {m c : Nat} {l : List Int} (T : TypeId) (hb : Below w0.heap.size w0 w) (hc : m ≤ c) (hm : m ≤ 32) (hr : Reads w0 w0.heap.size A m (l.map (Value.int .u8))) (hd : Dg 8 l) :
    Calls Tryd.prog 34 #[.pointer (some ⟨w.heap.size, 0, none⟩), .slice A m c] (w.alloc (.cells ((List.replicate 8 (0 : Int)).map (Value.int .u32)).toArray T)) fun en w' =>
      en = .returned (.bool (decide (fn ≤ be l))) ∧ w'.heap[w.heap.size]? = some (.cells ((dig 32 8 (be l % fn)).map (Value.int .u32)).toArray T (0, 0)) ∧ (∀ k, k < w.heap.size → w'.heap[k]? = w.heap[k]?) ∧ w.heap.size < w'.heap.size ∧ Below w0.heap.size w0 w' := by
  have hr1 := ((hr.below hb).alloc hb.size (.cells ((List.replicate 8 (0 : Int)).map (Value.int .u32)).toArray T)).more (B' := (w.alloc (.cells ((List.replicate 8 (0 : Int)).map (Value.int .u32)).toArray T)).heap.size) (by have := hb.size; simp; omega)
  have hlen : l.length = m := by have := hr.1; simpa using this
  refine (sbs_calls w.heap.size m c _ (List.replicate 8 0) l A _ (by simp) (zeros_dg 32 8) (heap_alloc_new w (.cells ((List.replicate 8 (0 : Int)).map (Value.int .u32)).toArray T)) (by omega) hc hr1 hd).mono ?_
  rintro en w' ⟨h1, h2, h3⟩
  rw [List.take_of_length_le (by omega)] at h1 h2
  have hs := h3.size
  simp at hs
  refine ⟨h1, h2, fun k hk => (h3.block k (by simp; omega) (by omega)).trans (heap_alloc_old _ _ hk), by omega, h3.below (hb.alloc hb.size _) (Nat.le_refl _) hb.size⟩

end Go.Proofs.YtfeancgmmonebaaDoor.Sx

/-
  laws.same: whether two slices of bytes are alike. Conditions: none; each theorem bears its own.
-/
namespace Go.Proofs.YtfeancgmmonebaaDoor.Sx
open Go Go.Proofs Go.RowKit

theorem take_ne {xs ys : List Int} {k : Nat} {x y : Int} (hx : xs[k]? = some x) (hy : ys[k]? = some y) (hne : x ≠ y) : xs ≠ ys := by
  rintro rfl
  rw [hx] at hy
  exact hne (Option.some.inj hy)

theorem take_snoc {xs ys : List Int} {k : Nat} {x : Int} (h : xs.take k = ys.take k) (hx : xs[k]? = some x) (hy : ys[k]? = some x) : xs.take (k + 1) = ys.take (k + 1) := by
  rw [List.take_add_one, List.take_add_one, h, hx, hy]

set_option maxRecDepth 100000 in
theorem c_same (n m c d : Nat) (xs ys : List Int) (A B : Option Addr) (w : World) (hn : n < 2147483648) (hm : m < 2147483648) (hr : Reads w w.heap.size A n (xs.map (Value.int .u8))) (hs : Reads w w.heap.size B m (ys.map (Value.int .u8))) :
    Calls Tryd.prog 9 #[.slice A n c, .slice B m d] w fun en w' => en = .returned (.bool (decide (xs = ys))) ∧ Below w.heap.size w w' := by
  have hxl : xs.length = n := by have h : (xs.map (Value.int .u8)).length = n := hr.1; simpa using h
  have hyl : ys.length = m := by have h : (ys.map (Value.int .u8)).length = m := hs.1; simpa using h
  have HR := Lib.hid hr
  have HS := Lib.hid hs
  have HX := Lib.hid hxl
  have HY := Lib.hid hyl
  have HM := Lib.hid hm
  clear hr hs hxl hyl hm
  by_cases hnm : n = m
  case neg =>
    have hdec : decide (xs = ys) = false := decide_eq_false fun h => hnm (by rw [← HX.out, ← HY.out, h])
    rw [hdec]
    have hne : ((n : Int) == m) = false := by simp; omega
    go_enter Tryd.func9, Tryd.ntmps9
    go_wp2_with fail
    go_ret
    exact ⟨rfl, Below.refl _ _⟩
  case pos =>
    subst hnm
    go_enter Tryd.func9, Tryd.ntmps9
    go_wp2_with fail
    go_loopw [5] (fun i wr => ∃ k : Nat, k ≤ n ∧ i = .int .i64 k ∧ xs.take k = ys.take k ∧ Below w.heap.size w wr) (fun i _ => n - (intOf i).toNat)
    case atStart => exact ⟨0, Nat.zero_le _, rfl, by simp, Below.refl _ _⟩
    case round =>
      obtain ⟨k, hk, rfl, heq, hb⟩ := hrel
      have HE := Lib.hid heq
      have HB := Lib.hid hb
      clear heq hb
      by_cases hlt : k < n
      · obtain ⟨ad, hA, _, hcell⟩ := (HR.out.below HB.out).2 (by omega)
        obtain ⟨be, hBe, _, hcell2⟩ := (HS.out.below HB.out).2 (by omega)
        subst hA hBe
        obtain ⟨x, hx⟩ : ∃ x, xs[k]? = some x := ⟨xs[k]'(by rw [HX.out]; exact hlt), by simp⟩
        obtain ⟨y, hy⟩ : ∃ y, ys[k]? = some y := ⟨ys[k]'(by rw [HY.out]; exact hlt), by simp⟩
        have hm1 := hcell k (.int .u8 x) (by rw [List.getElem?_map, hx]; rfl)
        have hm2 := hcell2 k (.int .u8 y) (by rw [List.getElem?_map, hy]; rfl)
        have hlt' : (k : Int) < n := by omega
        have H1 := Lib.hid hx
        have H2 := Lib.hid hy
        clear hcell hcell2 hx hy
        by_cases hxy : x = y
        · subst hxy
          go_wp2_with fail
          go_region
          go_wp2_with fail
          go_roundw
          case rel => exact ⟨k + 1, by omega, by go_num, take_snoc HE.out H1.out H2.out, HB.out.drew⟩
          case measure => simp [intOf]; omega
        · have hxyb : (x == y) = false := by simp [hxy]
          go_wp2_with fail
          go_region
          go_wp2_with fail
          go_ret
          exact ⟨by rw [decide_eq_false (take_ne H1.out H2.out hxy)]; rfl, HB.out.drew⟩
      · have hge : (n : Int) ≤ k := by omega
        go_wp2_with fail
        go_ret
        have h1 := HE.out
        rw [List.take_of_length_le (by have := HX.out; omega), List.take_of_length_le (by have := HY.out; omega)] at h1
        exact ⟨by rw [decide_eq_true h1]; rfl, HB.out⟩

end Go.Proofs.YtfeancgmmonebaaDoor.Sx

/-
  Contracts of the negation of a scalar. Printed by gen.py. Conditions: none; each theorem bears its own.
-/
namespace Go.Proofs.YtfeancgmmonebaaDoor.Sx
open Go Go.Proofs

def p_sne : Path := ⟨[.pr (.bin .and .u32) [.var 7, .lit 1], .pr (.bin .xor .u32) [.lit 4294967295, .var 6], .pr (.conv .u32) [.var 5], .pr (.bin .shr .u64) [.var 4, .lit 63], .pr (.bin .sub .u64) [.var 3, .lit 1], .pr (.conv .u64) [.var 2], .pr (.bin .xor .u32) [.var 0, .var 1]], [], [.var 8]⟩
def G_sne : List Entry := []
def e_sne : Entry := { f := 54, args := [.int .u32, .int .u32], res := [.int .u32], F := p_sne.out G_sne }
theorem r_sne : runFn Tryd.prog G_sne e_sne Tryd.f54.ntmps Tryd.f54.results.toList (Tryd.f54.body.getD .skip) = some ([], [p_sne]) := by kernel_rfl
theorem m_sne : Meets Tryd.prog e_sne :=
  meets_single mixed (fun e he => by simp [G_sne] at he) Tryd.func54 rfl (by kernel_rfl) r_sne rfl

def p_negv : Path := ⟨[.pr (.conv .u32) [.var 71], .pr (.bin .and .u64) [.var 70, .var 17], .pr (.bin .add .u64) [.var 67, .var 69], .pr (.conv .u64) [.var 68], .pr (.bin .xor .u32) [.lit 4294967295, .var 7], .pr (.bin .add .u64) [.var 66, .lit 4294967295], .pr (.bin .shr .u64) [.var 63, .lit 32], .pr (.conv .u32) [.var 64], .pr (.bin .and .u64) [.var 63, .var 17], .pr (.bin .add .u64) [.var 60, .var 62], .pr (.conv .u64) [.var 61], .pr (.bin .xor .u32) [.lit 4294967295, .var 6], .pr (.bin .add .u64) [.var 59, .lit 4294967295], .pr (.bin .shr .u64) [.var 56, .lit 32], .pr (.conv .u32) [.var 57], .pr (.bin .and .u64) [.var 56, .var 17], .pr (.bin .add .u64) [.var 53, .var 55], .pr (.conv .u64) [.var 54], .pr (.bin .xor .u32) [.lit 4294967295, .var 5], .pr (.bin .add .u64) [.var 52, .lit 4294967295], .pr (.bin .shr .u64) [.var 49, .lit 32], .pr (.conv .u32) [.var 50], .pr (.bin .and .u64) [.var 49, .var 17], .pr (.bin .add .u64) [.var 46, .var 48], .pr (.conv .u64) [.var 47], .pr (.bin .xor .u32) [.lit 4294967295, .var 4], .pr (.bin .add .u64) [.var 45, .lit 4294967294], .pr (.bin .shr .u64) [.var 42, .lit 32], .pr (.conv .u32) [.var 43], .pr (.bin .and .u64) [.var 42, .var 17], .pr (.bin .add .u64) [.var 39, .var 41], .pr (.conv .u64) [.var 40], .pr (.bin .xor .u32) [.lit 4294967295, .var 3], .pr (.bin .add .u64) [.var 38, .lit 3132021990], .pr (.bin .shr .u64) [.var 35, .lit 32], .pr (.conv .u32) [.var 36], .pr (.bin .and .u64) [.var 35, .var 17], .pr (.bin .add .u64) [.var 32, .var 34], .pr (.conv .u64) [.var 33], .pr (.bin .xor .u32) [.lit 4294967295, .var 2], .pr (.bin .add .u64) [.var 31, .lit 2940772411], .pr (.bin .shr .u64) [.var 28, .lit 32], .pr (.conv .u32) [.var 29], .pr (.bin .and .u64) [.var 28, .var 17], .pr (.bin .add .u64) [.var 25, .var 27], .pr (.conv .u64) [.var 26], .pr (.bin .xor .u32) [.lit 4294967295, .var 1], .pr (.bin .add .u64) [.var 24, .lit 3218235020], .pr (.bin .shr .u64) [.var 21, .lit 32], .pr (.conv .u32) [.var 22], .pr (.bin .and .u64) [.var 21, .var 17], .pr (.bin .add .u64) [.lit 3493216577, .var 20], .pr (.bin .add .u64) [.var 19, .lit 1], .pr (.conv .u64) [.var 18], .pr (.bin .xor .u32) [.lit 4294967295, .var 0], .pr (.conv .u64) [.var 16], .pr (.bin .mul .u32) [.lit 4294967295, .var 15], .app 0 [.var 14, .lit 0] 1, .pr (.bin .or .u32) [.var 13, .var 7], .pr (.bin .or .u32) [.var 12, .var 6], .pr (.bin .or .u32) [.var 11, .var 5], .pr (.bin .or .u32) [.var 10, .var 4], .pr (.bin .or .u32) [.var 9, .var 3], .pr (.bin .or .u32) [.var 8, .var 2], .pr (.bin .or .u32) [.var 0, .var 1]], [], [.var 23, .var 30, .var 37, .var 44, .var 51, .var 58, .var 65, .var 72]⟩
def G_negv : List Entry := [e_sne]
def e_negv : Entry := { f := 51, args := [.ptr (List.replicate 8 (some .u32)) true, .same 0], res := [.arg 0], F := p_negv.out G_negv }
theorem r_negv : runFn Tryd.prog G_negv e_negv Tryd.f51.ntmps Tryd.f51.results.toList (Tryd.f51.body.getD .skip) = some ([], [p_negv]) := by kernel_rfl
theorem m_negv : Meets Tryd.prog e_negv :=
  meets_single mixed (fun e he => by
    simp only [G_negv, List.mem_cons, List.not_mem_nil, or_false] at he
    rcases he with rfl
    · exact m_sne) Tryd.func51 rfl (by kernel_rfl) r_negv rfl

def p_sneg : Path := ⟨[.app 0 [.var 0, .var 1, .var 2, .var 3, .var 4, .var 5, .var 6, .var 7] 8], [], [.var 8, .var 9, .var 10, .var 11, .var 12, .var 13, .var 14, .var 15]⟩
def G_sneg : List Entry := [e_negv]
def e_sneg : Entry := { f := 40, args := [.ptr (List.replicate 8 (some .u32)) true], res := [.arg 0], F := p_sneg.out G_sneg }
theorem r_sneg : runFn Tryd.prog G_sneg e_sneg Tryd.f40.ntmps Tryd.f40.results.toList (Tryd.f40.body.getD .skip) = some ([], [p_sneg]) := by kernel_rfl
theorem m_sneg : Meets Tryd.prog e_sneg :=
  meets_single mixed (fun e he => by
    simp only [G_sneg, List.mem_cons, List.not_mem_nil, or_false] at he
    rcases he with rfl
    · exact m_negv) Tryd.func40 rfl (by kernel_rfl) r_sneg rfl

end Go.Proofs.YtfeancgmmonebaaDoor.Sx

/-
  The negation of a scalar but 0: the order less the number. Conditions: none; each theorem bears its own.
-/
namespace Go.Proofs.YtfeancgmmonebaaDoor.Sx
open Go Go.Proofs

theorem F_sne {v : Int} (h0 : 1 ≤ v) (h1 : v < 2 ^ 32) : e_sne.F [v, 0] = [1] := by
  show [bits .and .u32 (bits .xor .u32 4294967295 (IntKind.u32.wrap ((IntKind.u64.wrap (IntKind.u64.wrap (bits .xor .u32 v 0) - 1)).fdiv (2 ^ (min (63 : Int).toNat IntKind.u64.bits))))) 1] = _
  have hx : bits .xor .u32 v 0 = v := by
    rw [bits_xor (k := .u32) (b := 32) rfl (by omega) h1 (by decide) (by decide)]
    simp
    omega
  rw [hx, w32, w64, w64, show ((2 : Int) ^ (min (63 : Int).toNat IntKind.u64.bits)) = 9223372036854775808 from rfl, Int.fdiv_eq_ediv_of_nonneg _ (by decide),
    show v % 18446744073709551616 = v by omega, show (v - 1) % 18446744073709551616 / 9223372036854775808 % 4294967296 = 0 by omega]
  decide

theorem xor_ones {x : Int} (h0 : 0 ≤ x) (h1 : x < 2 ^ 32) : bits .xor .u32 4294967295 x = IntKind.u32.wrap (4294967295 - x) := by
  rw [bits_xor (k := .u32) (b := 32) rfl (by decide) (by decide) h0 h1, w32]
  have h2 : (4294967295 : Nat) ^^^ x.toNat = 4294967295 - x.toNat := by
    have h3 : x.toNat < 2 ^ 32 := by omega
    have := congrArg BitVec.toNat (BitVec.allOnes_xor (x := BitVec.ofNat 32 x.toNat))
    rw [BitVec.toNat_xor, BitVec.toNat_not, BitVec.toNat_allOnes, BitVec.toNat_ofNat, Nat.mod_eq_of_lt h3] at this
    exact this
  rw [show (4294967295 : Int).toNat = 4294967295 from rfl, h2]
  omega

/-- Two turns: of a complement into a difference, of a mask of ones into a constant. -/
def swapD : Def → Def
  | .pr (.bin .xor .u32) [.lit 4294967295, .var i] => .pr (.bin .sub .u32) [.lit 4294967295, .var i]
  | .pr (.bin .and .u64) [x, .var 17] => .pr (.bin .and .u64) [x, .lit 4294967295]
  | d => d

def swapOk : Def → Bool
  | .pr (.bin .xor .u32) [.lit 4294967295, .var i] => decide (i < 8)
  | .pr (.bin .xor .u32) _ => false
  | _ => true

theorem swap_ev {Γ : List Entry} {E : List Int} (h17 : E.getD 17 0 = 4294967295) (hx : ∀ i, i < 8 → 0 ≤ E.getD i 0 ∧ E.getD i 0 < 2 ^ 32) (d : Def) (hd : swapOk d = true) : d.ev Γ E = (swapD d).ev Γ E := by
  unfold swapD
  split
  · rename_i i
    have hi : i < 8 := by simpa [swapOk] using hd
    obtain ⟨h0, h1⟩ := hx i hi
    show [bits .xor .u32 4294967295 (E.getD i 0)] = [IntKind.u32.wrap (4294967295 - E.getD i 0)]
    rw [xor_ones h0 h1]
  · rename_i x
    show [bits .and .u64 (x.val E) (E.getD 17 0)] = [bits .and .u64 (x.val E) 4294967295]
    rw [h17]
  · rfl

theorem getD_pre {a s : List Int} {i : Nat} (h : i < a.length) : (a ++ s).getD i 0 = a.getD i 0 := by
  simp [List.getD, List.getElem?_append_left h]

theorem swap_run {Γ : List Entry} {base : List Int} (hl : base.length = 18) (h17 : base.getD 17 0 = 4294967295) (hx : ∀ i, i < 8 → 0 ≤ base.getD i 0 ∧ base.getD i 0 < 2 ^ 32) :
    ∀ l : List Def, l.all swapOk = true → runR Γ l base = runR Γ (l.map swapD) base
  | [], _ => rfl
  | d :: l, h => by
    simp only [List.all_cons, Bool.and_eq_true] at h
    have ih := swap_run (Γ := Γ) hl h17 hx l h.2
    obtain ⟨s, hs⟩ := runR_pre Γ l base
    have e17 : (runR Γ l base).getD 17 0 = 4294967295 := by rw [hs, getD_pre (by omega), h17]
    have ex : ∀ i, i < 8 → 0 ≤ (runR Γ l base).getD i 0 ∧ (runR Γ l base).getD i 0 < 2 ^ 32 := fun i hi => by rw [hs, getD_pre (by omega)]; exact hx i hi
    show runR Γ l base ++ d.ev Γ (runR Γ l base) = runR Γ (l.map swapD) base ++ (swapD d).ev Γ (runR Γ (l.map swapD) base)
    rw [← ih, swap_ev e17 ex d h.1]

def negvB : List Def := p_negv.defs.take 55
def negvA : List Def := p_negv.defs.drop 55

theorem runR_app (Γ : List Entry) (b : List Int) : ∀ l r : List Def, runR Γ (l ++ r) b = runR Γ l (runR Γ r b)
  | [], _ => rfl
  | d :: l, r => by
    show runR Γ (l ++ r) b ++ d.ev Γ (runR Γ (l ++ r) b) = runR Γ l (runR Γ r b) ++ d.ev Γ (runR Γ l (runR Γ r b))
    rw [runR_app Γ b l r]

theorem or_pos {x y : Int} (hx0 : 0 ≤ x) (hx : x < 2 ^ 32) (hy0 : 0 ≤ y) (hy : y < 2 ^ 32) : 0 ≤ bits .or .u32 x y ∧ bits .or .u32 x y < 2 ^ 32 ∧ (bits .or .u32 x y = 0 → x = 0 ∧ y = 0) := by
  rw [bits_or (k := .u32) (b := 32) rfl hx0 hx hy0 hy]
  have h : x.toNat ||| y.toNat < 2 ^ 32 := Nat.or_lt_two_pow (toNat_lt hx0 hx) (toNat_lt hy0 hy)
  refine ⟨by omega, by omega, fun h => ?_⟩
  have h1 : x.toNat ||| y.toNat = 0 := by omega
  have := Nat.or_eq_zero_iff.1 h1
  omega

theorem negvA_run (e0 : Entry) (x0 x1 x2 x3 x4 x5 x6 x7 o8 o9 o10 o11 o12 o13 o14 o15 : Int) (h8 : bits .or .u32 x0 x1 = o8) (h9 : bits .or .u32 o8 x2 = o9) (h10 : bits .or .u32 o9 x3 = o10) (h11 : bits .or .u32 o10 x4 = o11) (h12 : bits .or .u32 o11 x5 = o12)
    (h13 : bits .or .u32 o12 x6 = o13) (h14 : bits .or .u32 o13 x7 = o14) (h15 : (e0.F [o14, 0]).headD 0 = o15) : runR [e0] negvA [x0, x1, x2, x3, x4, x5, x6, x7] =
      [x0, x1, x2, x3, x4, x5, x6, x7, o8, o9, o10, o11, o12, o13, o14, o15, IntKind.u32.wrap (4294967295 * o15), IntKind.u64.wrap (IntKind.u32.wrap (4294967295 * o15))] := by
  subst h8 h9 h10 h11 h12 h13 h14 h15
  kernel_rfl

theorem negvA_spec {V : Int} (v0 : 0 < V) (v1 : V < 2 ^ 256) : ∃ o, o.length = 7 ∧ Dg 32 o ∧ runR G_negv negvA (dig 32 8 V) = dig 32 8 V ++ (o ++ [1, 4294967295, 4294967295]) := by
  have hv := num_dig 32 8 V (by omega) v1
  have hd := dig_dg 32 8 V
  obtain ⟨x0, x1, x2, x3, x4, x5, x6, x7, hx⟩ := len8 (dig_length 32 8 V)
  rw [hx] at hv hd ⊢
  have b0 := hd x0 (by simp)
  have b1 := hd x1 (by simp)
  have b2 := hd x2 (by simp)
  have b3 := hd x3 (by simp)
  have b4 := hd x4 (by simp)
  have b5 := hd x5 (by simp)
  have b6 := hd x6 (by simp)
  have b7 := hd x7 (by simp)
  obtain ⟨p8, q8, r8⟩ := or_pos b0.1 b0.2 b1.1 b1.2
  obtain ⟨o8, h8⟩ : ∃ o, bits .or .u32 x0 x1 = o := ⟨_, rfl⟩
  rw [h8] at p8 q8 r8
  obtain ⟨p9, q9, r9⟩ := or_pos p8 q8 b2.1 b2.2
  obtain ⟨o9, h9⟩ : ∃ o, bits .or .u32 o8 x2 = o := ⟨_, rfl⟩
  rw [h9] at p9 q9 r9
  obtain ⟨p10, q10, r10⟩ := or_pos p9 q9 b3.1 b3.2
  obtain ⟨o10, h10⟩ : ∃ o, bits .or .u32 o9 x3 = o := ⟨_, rfl⟩
  rw [h10] at p10 q10 r10
  obtain ⟨p11, q11, r11⟩ := or_pos p10 q10 b4.1 b4.2
  obtain ⟨o11, h11⟩ : ∃ o, bits .or .u32 o10 x4 = o := ⟨_, rfl⟩
  rw [h11] at p11 q11 r11
  obtain ⟨p12, q12, r12⟩ := or_pos p11 q11 b5.1 b5.2
  obtain ⟨o12, h12⟩ : ∃ o, bits .or .u32 o11 x5 = o := ⟨_, rfl⟩
  rw [h12] at p12 q12 r12
  obtain ⟨p13, q13, r13⟩ := or_pos p12 q12 b6.1 b6.2
  obtain ⟨o13, h13⟩ : ∃ o, bits .or .u32 o12 x6 = o := ⟨_, rfl⟩
  rw [h13] at p13 q13 r13
  obtain ⟨p14, q14, r14⟩ := or_pos p13 q13 b7.1 b7.2
  obtain ⟨o14, h14⟩ : ∃ o, bits .or .u32 o13 x7 = o := ⟨_, rfl⟩
  rw [h14] at p14 q14 r14
  have hne : 1 ≤ o14 := by
    rcases Int.lt_or_le 0 o14 with h | h
    · exact h
    · exfalso
      obtain ⟨h13, e7⟩ := r14 (by omega)
      obtain ⟨h12, e6⟩ := r13 h13
      obtain ⟨h11, e5⟩ := r12 h12
      obtain ⟨h10, e4⟩ := r11 h11
      obtain ⟨h9, e3⟩ := r10 h10
      obtain ⟨h8, e2⟩ := r9 h9
      obtain ⟨e0, e1⟩ := r8 h8
      subst e0 e1 e2 e3 e4 e5 e6 e7
      simp [num] at hv
      omega
  refine ⟨[o8, o9, o10, o11, o12, o13, o14], rfl, ?_, ?_⟩
  · intro x hx
    simp only [List.mem_cons, List.not_mem_nil, or_false] at hx
    rcases hx with rfl | rfl | rfl | rfl | rfl | rfl | rfl
    · exact ⟨p8, q8⟩
    · exact ⟨p9, q9⟩
    · exact ⟨p10, q10⟩
    · exact ⟨p11, q11⟩
    · exact ⟨p12, q12⟩
    · exact ⟨p13, q13⟩
    · exact ⟨p14, q14⟩
  · exact (negvA_run e_sne x0 x1 x2 x3 x4 x5 x6 x7 o8 o9 o10 o11 o12 o13 o14 1 h8 h9 h10 h11 h12 h13 h14 (by rw [F_sne hne q14]; rfl)).trans rfl

def fnL : Int := 115792089237316195423570985008687907852837564279074904382605163141518161494337

set_option maxRecDepth 100000 in
theorem negv_spec {V : Int} (v0 : 0 < V) (v1 : V < fn) : e_negv.F (dig 32 8 V) = dig 32 8 (fn - V) := by
  have v2 : V < 2 ^ 256 := Int.lt_trans v1 fn_lt
  obtain ⟨o, ho, hod, hA⟩ := negvA_spec v0 v2
  show p_negv.outs.map (·.val (runR G_negv p_negv.defs (dig 32 8 V))) = _
  have hsplit : p_negv.defs = negvB ++ negvA := (List.take_append_drop 55 p_negv.defs).symm
  rw [hsplit, runR_app, hA]
  obtain ⟨E, hE⟩ : ∃ E, E = dig 32 8 V ++ (o ++ [1, 4294967295, 4294967295]) := ⟨_, rfl⟩
  have hl : E.length = 18 := by rw [hE]; simp [dig_length, ho]
  have h17 : E.getD 17 0 = 4294967295 := by
    rw [hE, List.getD, List.getElem?_append_right (by simp [dig_length]), List.getElem?_append_right (by simp [dig_length, ho])]
    simp [dig_length, ho]
  have hxs : ∀ i, i < 8 → 0 ≤ E.getD i 0 ∧ E.getD i 0 < 2 ^ 32 := fun i hi => by
    rw [hE, getD_pre (by simp [dig_length]; omega)]
    have hlt : i < (dig 32 8 V).length := by simp [dig_length]; omega
    rw [List.getD, List.getElem?_eq_getElem hlt]
    exact dig_dg 32 8 V _ (List.getElem_mem hlt)
  rw [← hE, swap_run hl h17 hxs negvB (by kernel_rfl)]
  have hb : inB (List.replicate 8 ((0 : Int), (4294967295 : Int)) ++ (List.replicate 7 ((0 : Int), (4294967295 : Int)) ++ [(1, 1), (4294967295, 4294967295), (4294967295, 4294967295)])) E := by
    rw [hE]
    refine inB_append (by simp [dig_length]) (inB_rep (dig_length 32 8 V) ((dig_dg 32 8 V).le (by decide))) (inB_append (by simp [ho]) (inB_rep ho (hod.le (by decide))) ?_)
    intro i b hi
    match i with
    | 0 => cases hi; exact ⟨by decide, by decide⟩
    | 1 => cases hi; exact ⟨by decide, by decide⟩
    | 2 => cases hi; exact ⟨by decide, by decide⟩
    | i + 3 => simp at hi
  have h := redig (Γ := G_negv) (R := []) (rules_nil _) (ds := negvB.map swapD) (w := 32) (outs := p_negv.outs) (L := linOf 32 1 (vars 0 8) ++ [(.lit 1, -fnL)]) (by kernel_rfl) (by rw [hl]; rfl) hb
  rw [linV_append, linOf_val] at h
  have hv8 : (vars 0 8).map (·.val (runR G_negv (negvB.map swapD) E)) = dig 32 8 V := by rw [hE]; exact vars_base0 G_negv _ (dig_length 32 8 V)
  rw [hv8, num_dig 32 8 V (by omega) v2] at h
  rw [h]
  show dig 32 8 _ = dig 32 8 _
  congr 1
  show -(1 * V + (-fnL * 1 + 0)) = fn - V
  unfold fnL fn
  omega

theorem sneg_out' (e0 : Entry) (x0 x1 x2 x3 x4 x5 x6 x7 : Int) : p_sneg.out [e0] [x0, x1, x2, x3, x4, x5, x6, x7] = fit 8 (e0.F [x0, x1, x2, x3, x4, x5, x6, x7]) := by kernel_rfl

theorem sneg_spec {V : Int} (v0 : 0 < V) (v1 : V < fn) : e_sneg.F (dig 32 8 V) = dig 32 8 (fn - V) := by
  have h := negv_spec v0 v1
  obtain ⟨x0, x1, x2, x3, x4, x5, x6, x7, hx⟩ := len8 (dig_length 32 8 V)
  obtain ⟨y0, y1, y2, y3, y4, y5, y6, y7, hy⟩ := len8 (dig_length 32 8 (fn - V))
  rw [hx, hy] at h ⊢
  have e : e_sneg.F [x0, x1, x2, x3, x4, x5, x6, x7] = fit 8 (e_negv.F [x0, x1, x2, x3, x4, x5, x6, x7]) := sneg_out' e_negv x0 x1 x2 x3 x4 x5 x6 x7
  rw [e, h]
  rfl

end Go.Proofs.YtfeancgmmonebaaDoor.Sx
