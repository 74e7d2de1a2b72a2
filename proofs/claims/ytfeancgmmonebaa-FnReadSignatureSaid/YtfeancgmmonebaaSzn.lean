/-
  Bytes of any length as a number: SetByteSlice of scalars and field elements. Conditions: none; each theorem bears its own.
-/
import Derived.Test.YtfeancgmmonebaaSzl
import Derived.Test.YtfeancgmmonebaaSzm
import Derived.WalkKit
import Derived.Laws.CopyOwn
import Derived.Deep.RegionLaw
import Derived.Deep.RegionWith
import Derived.Laws.OwnMore
import Derived.Deep.AppendLies
import Derived.Deep.Draws
import Derived.Lib.Hide
import Derived.IntWalk
import Derived.RegionTactic
namespace Go.Proofs.Ytfeancgmmonebaa.Sx
open Go Go.Proofs Go.RowKit

theorem F_min (x y : Int) (hx0 : 0 ≤ x) (hx : x < 2 ^ 32) (hy0 : 0 ≤ y) (hy : y < 2 ^ 32) : e_min.F [x, y] = [if x < y then x else y] := by
  show [bits .xor .u32 y (bits .and .u32 (bits .xor .u32 x y) (IntKind.u32.wrap (0 - (fit 1 (e_lt.F [x, y])).getD 0 0)))] = _
  rw [F_lt x y hx0 hx hy0 hy, show fit 1 [b01 (decide (x < y))] = [b01 (decide (x < y))] from rfl, bits_xor (k := .u32) (b := 32) rfl hx0 hx hy0 hy]
  have hz : x.toNat ^^^ y.toNat < 2 ^ 32 := Nat.xor_lt_two_pow (toNat_lt hx0 hx) (toNat_lt hy0 hy)
  by_cases h : x < y
  · rw [if_pos h, show (IntKind.u32.wrap (0 - [b01 (decide (x < y))].getD 0 0)) = ((2 ^ 32 - 1 : Nat) : Int) by simp [b01, h, w32]]
    rw [bits_and (k := .u32) (b := 32) rfl (by omega) (by omega) (by omega) (by omega), Int.toNat_natCast, Int.toNat_natCast, Nat.and_two_pow_sub_one_eq_mod, Nat.mod_eq_of_lt hz]
    rw [bits_xor (k := .u32) (b := 32) rfl hy0 hy (by omega) (by omega), Int.toNat_natCast, Nat.xor_comm x.toNat, ← Nat.xor_assoc, Nat.xor_self, Nat.zero_xor]
    congr 1
    omega
  · rw [if_neg h, show (IntKind.u32.wrap (0 - [b01 (decide (x < y))].getD 0 0)) = ((0 : Nat) : Int) by simp [b01, h, w32]]
    rw [bits_and (k := .u32) (b := 32) rfl (by omega) (by omega) (by omega) (by omega), Int.toNat_natCast, Int.toNat_natCast, Nat.and_zero]
    rw [bits_xor (k := .u32) (b := 32) rfl hy0 hy (by omega) (by omega), Int.toNat_natCast, Nat.xor_zero]
    congr 1
    omega

theorem c_min {x y : Int} (hx0 : 0 ≤ x) (hx : x < 2 ^ 32) (hy0 : 0 ≤ y) (hy : y < 2 ^ 32) (w : World) :
    Calls Try.prog 51 #[.int .u32 x, .int .u32 y] w fun en w' => en = .returned (.int .u32 (if x < y then x else y)) ∧ Below w.heap.size w w' :=
  m_min.pure (by kernel_rfl) (base := [x, y]) rfl rfl (fun h => by cases h) (F_min x y hx0 hx hy0 hy) (args := [.int .u32 x, .int .u32 y]) rfl (fun nb => rfl) w

theorem c_zero {h : Nat} {T : TypeId} {old : List Int} {w : World} (ho : old.length = 32) (hh : w.heap[h]? = some (.cells (old.map (Value.int .u8)).toArray T (0, 0))) :
    Calls Try.prog 53 #[.pointer (some ⟨h, 0, none⟩)] w fun en w' => en = .returned (.tuple #[]) ∧ Only h w w' := by
  refine (m_zero.calls (by kernel_rfl) (base := old) (bs := [(h, 0)]) (w := w) (by simp [ho]; rfl) rfl (fun h => by cases h) ?_ ?_).mono ?_
  · intro o so hso
    match o with
    | 0 =>
      obtain rfl : (⟨kcells 0 (List.replicate 32 (some .u8)), true⟩ : SO) = so := Option.some.inj hso
      exact ObjOk.whole hh rfl rfl (kcells_at .u8 _ old [] [] _ 0 32 (by simp) rfl ho)
    | o + 1 => cases hso
  · intro o o' so so' hoo h1 h2 h3
    match o, o' with
    | 0, 0 => exact absurd rfl hoo
    | o + 1, _ => cases h1
    | _, o' + 1 => cases h2
  · rintro en w' ⟨nb, hnb, _, _, hen, hm', hfr⟩
    refine ⟨hen, hfr.only ?_⟩
    rintro k j ⟨o, so, hso, hw, hk, _⟩
    match o with
    | 0 => exact hk.symm
    | o + 1 => cases hso

theorem block_of_add (a : Addr) (n : Nat) : (a.add n).block = a.block := by unfold Addr.add; split <;> rfl
theorem add_of_add (a : Addr) (i j : Nat) : (a.add i).add j = a.add (i + j) := by
  unfold Addr.add
  by_cases hi : i = 0 <;> by_cases hj : j = 0 <;> simp [hi, hj, Nat.add_assoc]

/-- A slice that reads as a list of cells, nil let in. -/
def Reads (w : World) (B : Nat) (A : Option Addr) (n : Nat) (xs : List Value) : Prop :=
  xs.length = n ∧ (0 < n → ∃ ad, A = some ad ∧ ad.block < B ∧ ∀ j u, xs[j]? = some u → w.cell? (ad.add j) = some u)

theorem Reads.keep {w w' : World} {B n : Nat} {A : Option Addr} {xs : List Value} (h : Reads w B A n xs) (hk : ∀ p : Addr, p.block < B → w'.cell? p = w.cell? p) : Reads w' B A n xs :=
  ⟨h.1, fun hn => by
    obtain ⟨ad, e, hb, hc⟩ := h.2 hn
    exact ⟨ad, e, hb, fun j u hu => (hk _ (by rw [block_of_add]; exact hb)).trans (hc j u hu)⟩⟩
theorem Reads.more {w : World} {B B' n : Nat} {A : Option Addr} {xs : List Value} (h : Reads w B A n xs) (hB : B ≤ B') : Reads w B' A n xs :=
  ⟨h.1, fun hn => by
    obtain ⟨ad, e, hb, hc⟩ := h.2 hn
    exact ⟨ad, e, by omega, hc⟩⟩
theorem Reads.below {w w' : World} {B n : Nat} {A : Option Addr} {xs : List Value} (h : Reads w B A n xs) (hb : Below B w w') : Reads w' B A n xs := h.keep fun _ hp => hb.cell hp
theorem Reads.take {w : World} {B n : Nat} {A : Option Addr} {xs : List Value} (h : Reads w B A n xs) {k : Nat} (hk : k ≤ n) : Reads w B A k (xs.take k) := by
  refine ⟨by simp [h.1, hk], fun hk0 => ?_⟩
  obtain ⟨ad, e, hb, hc⟩ := h.2 (by omega)
  refine ⟨ad, e, hb, fun j u hu => hc j u ?_⟩
  rw [List.getElem?_take] at hu
  split at hu
  · exact hu
  · cases hu

/-- A cut of an array of one-cell elements, its bounds numbers. -/
theorem run_cut_arr {P : Program} {t el : TypeId} {m : Nat} (hu : P.underlying t = some (.array m el)) (hz : szOf P el = some 1) (a : Addr) (lo hi : Option Int) (l h : Nat) (hlo : lo.getD 0 = (l : Int)) (hhi : hi.getD m = (h : Int)) (hl : l ≤ h) (hh : h ≤ m) (w : World) :
    (Instr.sliceAt t (.pointer (some a)) (lo.map (Value.int .i64)) (hi.map (Value.int .i64)) none).run P w = .ok (.slice (some (if m = l then a else a.add l)) (h - l) (m - l)) w := by
  have e1 : ((lo.map (Value.int .i64)) = none ∧ lo = none) ∨ ∃ k n, (lo.map (Value.int .i64)) = some (.int k n) ∧ lo = some n := by cases lo <;> simp
  have e2 : ((hi.map (Value.int .i64)) = none ∧ hi = none) ∨ ∃ k n, (hi.map (Value.int .i64)) = some (.int k n) ∧ hi = some n := by cases hi <;> simp
  have hb := run_bounds (P := P) (b := false) (len := m) (cap := m) e1 e2 (by omega) (by omega) (by omega) w
  simp only [Instr.sliceAt, run_underlying hu, Instr.sureAddr, Sem.run_bind, Sem.run_pure, Result.andThen_ok, hb, run_szOf hz]
  rw [hlo, hhi, Int.toNat_natCast, Int.toNat_natCast, Nat.mul_one]

/-- A cut of a slice of one-cell elements. -/
theorem run_cut_slice {P : Program} {t el : TypeId} (hu : P.underlying t = some (.slice el)) (hz : szOf P el = some 1) (A : Option Addr) (n c : Nat) (lo hi : Option Int) (l h : Nat) (hlo : lo.getD 0 = (l : Int)) (hhi : hi.getD n = (h : Int)) (hl : l ≤ h) (hh : h ≤ c) (w : World) :
    (Instr.sliceAt t (.slice A n c) (lo.map (Value.int .i64)) (hi.map (Value.int .i64)) none).run P w = .ok (.slice (if c = l then A else A.map (·.add l)) (h - l) (c - l)) w := by
  have e1 : ((lo.map (Value.int .i64)) = none ∧ lo = none) ∨ ∃ k n, (lo.map (Value.int .i64)) = some (.int k n) ∧ lo = some n := by cases lo <;> simp
  have e2 : ((hi.map (Value.int .i64)) = none ∧ hi = none) ∨ ∃ k n, (hi.map (Value.int .i64)) = some (.int k n) ∧ hi = some n := by cases hi <;> simp
  have hb := run_bounds (P := P) (b := true) (len := n) (cap := c) e1 e2 (by omega) (by omega) (by omega) w
  simp only [Instr.sliceAt, Instr.slice, run_underlying hu, Sem.run_bind, Sem.run_pure, Result.andThen_ok, hb, run_szOf hz]
  rw [hlo, hhi, Int.toNat_natCast, Int.toNat_natCast, Nat.mul_one]

theorem splice_same {α : Type} (x : α) {m k : Nat} (hk : k ≤ m) : splice (List.replicate m x) 0 (List.replicate k x) = List.replicate m x := by
  simp only [splice, List.take_zero, List.nil_append, List.length_replicate, List.drop_replicate, List.replicate_append_replicate]
  congr 1
  omega

theorem one_rep {k : Nat} : ∀ v ∈ List.replicate k (Value.int .u8 0), v.oneCell' = true := fun v hv => by
  rw [List.eq_of_mem_replicate hv]
  rfl

theorem rep_cell {w : World} {g m k : Nat} {T : TypeId} {x : Value} (hg : Hid (w.heap[g]? = some (.cells (List.replicate m x).toArray T (0, 0)))) (hk : k ≤ m) (j : Nat) (v : Value) (hj : (List.replicate k x)[j]? = some v) :
    w.cell? ((⟨g, 0, none⟩ : Addr).add j) = some v := by
  have hg : w.heap[g]? = some (.cells (List.replicate m x).toArray T (0, 0)) := hg
  rw [addr_add, Nat.zero_add]
  simp only [World.cell?, hg]
  rw [List.getElem?_replicate] at hj
  split at hj
  · rename_i hjk
    cases hj
    have : j < m := by omega
    simp [this]
  · cases hj

theorem num_app (w : Nat) : ∀ l r : List Int, num w (l ++ r) = num w l + 2 ^ (w * l.length) * num w r
  | [], r => by simp [num]
  | x :: l, r => by
    have ih := num_app w l r
    simp only [List.cons_append, num, ih, List.length_cons]
    rw [Nat.mul_add, Nat.mul_one, Nat.add_comm, Int.pow_add, Int.mul_add, Int.mul_assoc, Int.add_assoc]

theorem num_zeros (w : Nat) : ∀ m : Nat, num w (List.replicate m 0) = 0
  | 0 => rfl
  | m + 1 => by simp [List.replicate_succ, num, num_zeros w m]

/-- Zeros ahead of bytes do not count. -/
theorem be_pad (m : Nat) (l : List Int) : be (List.replicate m 0 ++ l) = be l := by
  unfold be
  rw [List.reverse_append, List.reverse_replicate, num_app, num_zeros]
  simp

theorem splice_pad {k m : Nat} (hk : k ≤ m) {xs : List Value} (hx : xs.length = k) : splice (List.replicate m (Value.int .u8 0)) (m - k) xs = List.replicate (m - k) (Value.int .u8 0) ++ xs := by
  unfold splice
  rw [List.take_replicate, List.drop_replicate, hx, Nat.min_eq_left (by omega), show m - (m - k + k) = 0 by omega]
  simp

theorem pad_dg {m : Nat} {l : List Int} (h : Dg 8 l) : Dg 8 (List.replicate m 0 ++ l) := (zeros_dg 8 m).append h

theorem be_any {l : List Int} (h : Dg 8 l) (hl : l.length ≤ 32) : 0 ≤ be l ∧ be l < 2 ^ 256 := by
  have h1 := be_bounds (l := List.replicate (32 - l.length) 0 ++ l) (by simp; omega) (pad_dg h)
  rwa [be_pad] at h1

theorem b01_bool (b : Bool) : (b01 b != 0) = b := by cases b <;> rfl

theorem Dg.take {w : Nat} {l : List Int} (h : Dg w l) (k : Nat) : Dg w (l.take k) := fun x hx => h x (List.mem_of_mem_take hx)

set_option maxRecDepth 100000 in
theorem sbs_calls (g n c : Nat) (T : TypeId) (old bs : List Int) (A : Option Addr) (w : World) (ho : old.length = 8) (hod : Dg 32 old) (hb : w.heap[g]? = some (.cells (old.map (Value.int .u32)).toArray T (0, 0)))
    (hn : n < 2147483648) (hc : n ≤ c) (hr : Reads w w.heap.size A n (bs.map (Value.int .u8))) (hd : Dg 8 bs) :
    Calls Try.prog 37 #[.pointer (some ⟨g, 0, none⟩), .slice A n c] w fun en w' =>
      en = .returned (.bool (decide (fn ≤ be (bs.take 32)))) ∧ w'.heap[g]? = some (.cells ((dig 32 8 (be (bs.take 32) % fn)).map (Value.int .u32)).toArray T (0, 0)) ∧ Only g w w' := by
  have H1 : Hid (Reads w w.heap.size A n (bs.map (Value.int .u8))) := hr
  have H2 : Hid (old.length = 8) := ho
  have H3 : Hid (w.heap[g]? = some (.cells (old.map (Value.int .u32)).toArray T (0, 0))) := hb
  clear hr ho hb
  go_enter Try.func37, Try.ntmps37
  go_wp2_with fail
  refine (c_min (x := (n : Int)) (y := 32) (by omega) (by omega) (by omega) (by omega) _).mono ?_
  rintro en w1 ⟨rfl, hb1⟩
  obtain ⟨k, hk⟩ : ∃ k, k = min n 32 := ⟨_, rfl⟩
  rw [show (if (n : Int) < 32 then (n : Int) else 32) = (k : Int) by split <;> omega]
  have hk32 : k ≤ 32 := by omega
  have hkn : k ≤ n := by omega
  have hk0 : (0 : Int) ≤ 32 - k := by omega
  have HK := Lib.hid hk
  clear hk
  have hB1 := hb1.size
  have g1 : Hid (w1.heap[w.heap.size]? = some (.cells ((List.replicate 32 (Value.int .u8 0))).toArray 24 (0, 0))) := (hb1.block w.heap.size (by simp)).trans (heap_alloc_new w _)
  have hbw1 : Below w.heap.size w w1 := ((Below.refl _ _).alloc (Nat.le_refl _) _).trans (hb1.mono (by simp))
  clear hb1
  go_wp2_with fail
  have q1 : IntKind.i64.wrap (32 - (k : Int)) = 32 - k := IntWalk.i64_in _ (by omega)
  have q2 : ∀ W, (Instr.sliceAt 24 (.pointer (some ⟨w.heap.size, 0, none⟩)) none (some (.int .i64 (32 - k))) none).run Try.prog W = .ok (.slice (some ⟨w.heap.size, 0, none⟩) (32 - k) 32) W := fun W =>
    run_cut_arr Try.underlying24 (by kernel_rfl) ⟨w.heap.size, 0, none⟩ none (some (32 - k)) 0 (32 - k) rfl (by show (32 - (k : Int)) = _; omega) (by omega) (by omega) W
  go_region_law (refine step_copy_splice rfl (.tmp 13) (.tmp 17) _ _ rfl _ Try.underlying22 (by kernel_rfl) _ _ _ _ _ _ rfl rfl w.heap.size 0 (List.replicate 32 (Value.int .u8 0)) _ g1 (List.replicate (32 - k) (Value.int .u8 0)) (by simp <;> omega) (fun _ => ⟨rfl, _, rfl, rep_cell g1 (by omega)⟩) (by simp <;> omega) one_rep w.heap.size w (hbw1.drew) (Nat.le_refl _) ?_; intro w2 g2 hb2)
  have g2' : Hid (w2.heap[w.heap.size]? = some (.cells (List.replicate 32 (Value.int .u8 0)).toArray 24 (0, 0))) := by
    have h : w2.heap[w.heap.size]? = some (.cells (splice (List.replicate 32 (Value.int .u8 0)) 0 (List.replicate (32 - k) (Value.int .u8 0))).toArray 24 (0, 0)) := g2
    rw [splice_same _ (by omega)] at h
    exact h
  clear g1 g2 q2 hbw1 hB1
  obtain ⟨ad, had⟩ : ∃ ad : Addr, ad = if 32 = 32 - k then (⟨w.heap.size, 0, none⟩ : Addr) else (⟨w.heap.size, 0, none⟩ : Addr).add (32 - k) := ⟨_, rfl⟩
  have q3 : ∀ W, (Instr.sliceAt 24 (.pointer (some ⟨w.heap.size, 0, none⟩)) (some (.int .i64 (32 - k))) none none).run Try.prog W = .ok (.slice (some ad) k k) W := fun W => by
    have := run_cut_arr Try.underlying24 (by kernel_rfl) ⟨w.heap.size, 0, none⟩ (some (32 - (k : Int))) none (32 - k) 32 (by show (32 - (k : Int)) = _; omega) rfl (by omega) (by omega) W
    rw [← had, show 32 - (32 - k) = k by omega] at this
    exact this
  have HA := Lib.hid had
  clear had
  obtain ⟨xs, hxs⟩ : ∃ xs, xs = (bs.map (Value.int .u8)).take k := ⟨_, rfl⟩
  have hr2 : Hid (Reads w2 w.heap.size A k xs) := by rw [hxs]; exact (Reads.below H1 hb2).take hkn
  have HX := Lib.hid hxs
  have hxl : xs.length = k := hr2.1
  have hx1 : Hid (∀ v ∈ xs, v.oneCell' = true) := by
    show ∀ v ∈ xs, v.oneCell' = true
    intro v hv
    rw [hxs] at hv
    obtain ⟨z, _, rfl⟩ := List.mem_map.1 (List.mem_of_mem_take hv)
    rfl
  have HL := Lib.hid hxl
  have hpos : Hid (0 < xs.length → some ad = some ⟨w.heap.size, 32 - k, none⟩ ∧ ∃ ad', A = some ad' ∧ ∀ j v, xs[j]? = some v → w2.cell? (ad'.add j) = some v) := fun h0 => by
    have hr3 : Reads w2 w.heap.size A k xs := hr2
    obtain ⟨ad', e, _, hc'⟩ := hr3.2 (by omega)
    refine ⟨?_, ad', e, hc'⟩
    rw [HA.out, if_neg (by omega), addr_add, Nat.zero_add]
  have hfit : 32 - k + xs.length ≤ 32 := by omega
  have hn1 : Hid (xs.length = Nat.min k k) := hxl.trans (Nat.min_self k).symm
  clear hxs hxl
  go_wp2_with (refine wpList_copy_splice rfl (.tmp 22) (.tmp 23) _ _ rfl _ Try.underlying22 (by kernel_rfl) _ _ _ _ _ _ rfl rfl w.heap.size (32 - k) (List.replicate 32 (Value.int .u8 0)) _ g2' xs hn1 hpos (by simpa using hfit) hx1 w.heap.size w hb2 (Nat.le_refl _) ?_; intro w3 g3 hb3)
  have hpl : (List.replicate (32 - k) (0 : Int) ++ bs.take k).length = 32 := by
    have h1 : bs.length = n := by have h : (bs.map (Value.int .u8)).length = n := H1.out.1; simpa using h
    simp only [List.length_append, List.length_replicate, List.length_take, h1]
    omega
  have hbe : be (List.replicate (32 - k) (0 : Int) ++ bs.take k) = be (bs.take 32) := by
    rw [be_pad]
    have h1 : bs.length = n := by have h : (bs.map (Value.int .u8)).length = n := H1.out.1; simpa using h
    rcases Nat.le_total n 32 with h | h
    · rw [List.take_of_length_le (by have := HK.out; omega), List.take_of_length_le (by omega)]
    · rw [show k = 32 by have := HK.out; omega]
  have g3' : w3.heap[w.heap.size]? = some (.cells ((List.replicate (32 - k) (0 : Int) ++ bs.take k).map (Value.int .u8)).toArray 24 (0, 0)) := by
    have h : w3.heap[w.heap.size]? = some (.cells (splice (List.replicate 32 (Value.int .u8 0)) (32 - k) xs).toArray 24 (0, 0)) := g3
    rw [splice_pad hk32 HL.out] at h
    rw [h, HX.out]
    simp [List.map_take]
  have hgl : g < w.heap.size := by
    rcases Nat.lt_or_ge g w.heap.size with h' | h'
    · exact h'
    · have := H3.out; rw [Array.getElem?_eq_none h'] at this; cases this
  have hs3 := hb3.size
  have hs4 : w.heap.size < w3.heap.size := by
    rcases Nat.lt_or_ge w.heap.size w3.heap.size with h' | h'
    · exact h'
    · rw [Array.getElem?_eq_none h'] at g3'; cases g3'
  have hset := c_ssetb (w := w3) (g := g) (h := w.heap.size) H2.out hod hpl (pad_dg (hd.take k)) ((hb3.block g hgl).trans H3.out) g3' (by omega)
  rw [hbe] at hset
  have HB := Lib.hid hbe
  have HP := Lib.hid hpl
  have G3 := Lib.hid g3'
  clear hbe hpl g3' g3 q3 q1
  refine hset.mono ?_
  rintro en w4 ⟨rfl, g4, ho4⟩
  have G4 := Lib.hid g4
  clear g4 hset
  have g5 : w4.heap[w.heap.size]? = some (.cells ((List.replicate (32 - k) (0 : Int) ++ bs.take k).map (Value.int .u8)).toArray 24 (0, 0)) := (ho4.block w.heap.size hs4 (by omega)).trans G3.out
  have hz := c_zero HP.out g5
  clear g5
  go_wp2_with (refine hz.mono ?_; rintro en w5 ⟨rfl, ho5⟩)
  go_ret
  refine ⟨?_, (ho5.block g (by have := ho4.size; omega) (by omega)).trans G4.out, ⟨(ho5.os.trans ho4.os).trans hb3.os, (ho5.tape.trans ho4.tape).trans hb3.tape, (ho5.output.trans ho4.output).trans hb3.output, by have := ho4.size; have := ho5.size; omega,
    fun q hq hne => ((ho5.block q (by have := ho4.size; omega) (by omega)).trans (ho4.block q (by omega) hne)).trans (hb3.block q hq)⟩⟩
  unfold b01
  cases decide (fn ≤ be (bs.take 32)) <;> rfl

set_option maxRecDepth 100000 in
theorem fbs_calls (g n c : Nat) (T : TypeId) (old bs : List Int) (A : Option Addr) (w : World) (ho : old.length = 10) (hod : Dg 32 old) (hb : w.heap[g]? = some (.cells (old.map (Value.int .u32)).toArray T (0, 0)))
    (hn : n < 2147483648) (hc : n ≤ c) (hr : Reads w w.heap.size A n (bs.map (Value.int .u8))) (hd : Dg 8 bs) :
    Calls Try.prog 36 #[.pointer (some ⟨g, 0, none⟩), .slice A n c] w fun en w' =>
      en = .returned (.bool (decide (fp ≤ be (bs.take 32)))) ∧ w'.heap[g]? = some (.cells ((dig 26 10 (be (bs.take 32))).map (Value.int .u32)).toArray T (0, 0)) ∧ Only g w w' := by
  have H1 : Hid (Reads w w.heap.size A n (bs.map (Value.int .u8))) := hr
  have H2 : Hid (old.length = 10) := ho
  have H3 : Hid (w.heap[g]? = some (.cells (old.map (Value.int .u32)).toArray T (0, 0))) := hb
  clear hr ho hb
  go_enter Try.func36, Try.ntmps36
  go_wp2_with fail
  refine (c_min (x := (n : Int)) (y := 32) (by omega) (by omega) (by omega) (by omega) _).mono ?_
  rintro en w1 ⟨rfl, hb1⟩
  obtain ⟨k, hk⟩ : ∃ k, k = min n 32 := ⟨_, rfl⟩
  rw [show (if (n : Int) < 32 then (n : Int) else 32) = (k : Int) by split <;> omega]
  have hk32 : k ≤ 32 := by omega
  have hkn : k ≤ n := by omega
  have hk0 : (0 : Int) ≤ 32 - k := by omega
  have HK := Lib.hid hk
  clear hk
  have hB1 := hb1.size
  have g1 : Hid (w1.heap[w.heap.size]? = some (.cells ((List.replicate 32 (Value.int .u8 0))).toArray 24 (0, 0))) := (hb1.block w.heap.size (by simp)).trans (heap_alloc_new w _)
  have hbw1 : Below w.heap.size w w1 := ((Below.refl _ _).alloc (Nat.le_refl _) _).trans (hb1.mono (by simp))
  clear hb1
  go_wp2_with fail
  have q1 : IntKind.i64.wrap (32 - (k : Int)) = 32 - k := IntWalk.i64_in _ (by omega)
  have q2 : ∀ W, (Instr.sliceAt 24 (.pointer (some ⟨w.heap.size, 0, none⟩)) none (some (.int .i64 (32 - k))) none).run Try.prog W = .ok (.slice (some ⟨w.heap.size, 0, none⟩) (32 - k) 32) W := fun W =>
    run_cut_arr Try.underlying24 (by kernel_rfl) ⟨w.heap.size, 0, none⟩ none (some (32 - k)) 0 (32 - k) rfl (by show (32 - (k : Int)) = _; omega) (by omega) (by omega) W
  go_region_law (refine step_copy_splice rfl (.tmp 13) (.tmp 17) _ _ rfl _ Try.underlying22 (by kernel_rfl) _ _ _ _ _ _ rfl rfl w.heap.size 0 (List.replicate 32 (Value.int .u8 0)) _ g1 (List.replicate (32 - k) (Value.int .u8 0)) (by simp <;> omega) (fun _ => ⟨rfl, _, rfl, rep_cell g1 (by omega)⟩) (by simp <;> omega) one_rep w.heap.size w (hbw1.drew) (Nat.le_refl _) ?_; intro w2 g2 hb2)
  have g2' : Hid (w2.heap[w.heap.size]? = some (.cells (List.replicate 32 (Value.int .u8 0)).toArray 24 (0, 0))) := by
    have h : w2.heap[w.heap.size]? = some (.cells (splice (List.replicate 32 (Value.int .u8 0)) 0 (List.replicate (32 - k) (Value.int .u8 0))).toArray 24 (0, 0)) := g2
    rw [splice_same _ (by omega)] at h
    exact h
  clear g1 g2 q2 hbw1 hB1
  obtain ⟨ad, had⟩ : ∃ ad : Addr, ad = if 32 = 32 - k then (⟨w.heap.size, 0, none⟩ : Addr) else (⟨w.heap.size, 0, none⟩ : Addr).add (32 - k) := ⟨_, rfl⟩
  have q3 : ∀ W, (Instr.sliceAt 24 (.pointer (some ⟨w.heap.size, 0, none⟩)) (some (.int .i64 (32 - k))) none none).run Try.prog W = .ok (.slice (some ad) k k) W := fun W => by
    have := run_cut_arr Try.underlying24 (by kernel_rfl) ⟨w.heap.size, 0, none⟩ (some (32 - (k : Int))) none (32 - k) 32 (by show (32 - (k : Int)) = _; omega) rfl (by omega) (by omega) W
    rw [← had, show 32 - (32 - k) = k by omega] at this
    exact this
  have HA := Lib.hid had
  clear had
  obtain ⟨xs, hxs⟩ : ∃ xs, xs = (bs.map (Value.int .u8)).take k := ⟨_, rfl⟩
  have hr2 : Hid (Reads w2 w.heap.size A k xs) := by rw [hxs]; exact (Reads.below H1 hb2).take hkn
  have HX := Lib.hid hxs
  have hxl : xs.length = k := hr2.1
  have hx1 : Hid (∀ v ∈ xs, v.oneCell' = true) := by
    show ∀ v ∈ xs, v.oneCell' = true
    intro v hv
    rw [hxs] at hv
    obtain ⟨z, _, rfl⟩ := List.mem_map.1 (List.mem_of_mem_take hv)
    rfl
  have HL := Lib.hid hxl
  have hpos : Hid (0 < xs.length → some ad = some ⟨w.heap.size, 32 - k, none⟩ ∧ ∃ ad', A = some ad' ∧ ∀ j v, xs[j]? = some v → w2.cell? (ad'.add j) = some v) := fun h0 => by
    have hr3 : Reads w2 w.heap.size A k xs := hr2
    obtain ⟨ad', e, _, hc'⟩ := hr3.2 (by omega)
    refine ⟨?_, ad', e, hc'⟩
    rw [HA.out, if_neg (by omega), addr_add, Nat.zero_add]
  have hfit : 32 - k + xs.length ≤ 32 := by omega
  have hn1 : Hid (xs.length = Nat.min k k) := hxl.trans (Nat.min_self k).symm
  clear hxs hxl
  go_wp2_with (refine wpList_copy_splice rfl (.tmp 22) (.tmp 23) _ _ rfl _ Try.underlying22 (by kernel_rfl) _ _ _ _ _ _ rfl rfl w.heap.size (32 - k) (List.replicate 32 (Value.int .u8 0)) _ g2' xs hn1 hpos (by simpa using hfit) hx1 w.heap.size w hb2 (Nat.le_refl _) ?_; intro w3 g3 hb3)
  have hpl : (List.replicate (32 - k) (0 : Int) ++ bs.take k).length = 32 := by
    have h1 : bs.length = n := by have h : (bs.map (Value.int .u8)).length = n := H1.out.1; simpa using h
    simp only [List.length_append, List.length_replicate, List.length_take, h1]
    omega
  have hbe : be (List.replicate (32 - k) (0 : Int) ++ bs.take k) = be (bs.take 32) := by
    rw [be_pad]
    have h1 : bs.length = n := by have h : (bs.map (Value.int .u8)).length = n := H1.out.1; simpa using h
    rcases Nat.le_total n 32 with h | h
    · rw [List.take_of_length_le (by have := HK.out; omega), List.take_of_length_le (by omega)]
    · rw [show k = 32 by have := HK.out; omega]
  have g3' : w3.heap[w.heap.size]? = some (.cells ((List.replicate (32 - k) (0 : Int) ++ bs.take k).map (Value.int .u8)).toArray 24 (0, 0)) := by
    have h : w3.heap[w.heap.size]? = some (.cells (splice (List.replicate 32 (Value.int .u8 0)) (32 - k) xs).toArray 24 (0, 0)) := g3
    rw [splice_pad hk32 HL.out] at h
    rw [h, HX.out]
    simp [List.map_take]
  have hgl : g < w.heap.size := by
    rcases Nat.lt_or_ge g w.heap.size with h' | h'
    · exact h'
    · have := H3.out; rw [Array.getElem?_eq_none h'] at this; cases this
  have hs3 := hb3.size
  have hs4 : w.heap.size < w3.heap.size := by
    rcases Nat.lt_or_ge w.heap.size w3.heap.size with h' | h'
    · exact h'
    · rw [Array.getElem?_eq_none h'] at g3'; cases g3'
  have hset := c_setb (w := w3) (g := g) (h := w.heap.size) H2.out hod hpl (pad_dg (hd.take k)) ((hb3.block g hgl).trans H3.out) g3' (by omega)
  rw [hbe] at hset
  have HB := Lib.hid hbe
  have HP := Lib.hid hpl
  have G3 := Lib.hid g3'
  clear hbe hpl g3' g3 q3 q1
  refine hset.mono ?_
  rintro en w4 ⟨rfl, g4, ho4⟩
  have G4 := Lib.hid g4
  clear g4 hset
  have g5 : w4.heap[w.heap.size]? = some (.cells ((List.replicate (32 - k) (0 : Int) ++ bs.take k).map (Value.int .u8)).toArray 24 (0, 0)) := (ho4.block w.heap.size hs4 (by omega)).trans G3.out
  have hz := c_zero HP.out g5
  clear g5
  go_wp2_with (refine hz.mono ?_; rintro en w5 ⟨rfl, ho5⟩)
  go_ret
  refine ⟨?_, (ho5.block g (by have := ho4.size; omega) (by omega)).trans G4.out, ⟨(ho5.os.trans ho4.os).trans hb3.os, (ho5.tape.trans ho4.tape).trans hb3.tape, (ho5.output.trans ho4.output).trans hb3.output, by have := ho4.size; have := ho5.size; omega,
    fun q hq hne => ((ho5.block q (by have := ho4.size; omega) (by omega)).trans (ho4.block q (by omega) hne)).trans (hb3.block q hq)⟩⟩
  unfold b01
  cases decide (fp ≤ be (bs.take 32)) <;> rfl

end Go.Proofs.Ytfeancgmmonebaa.Sx
