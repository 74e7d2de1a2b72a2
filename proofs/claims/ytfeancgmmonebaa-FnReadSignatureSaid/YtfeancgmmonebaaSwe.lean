/-
  Reading a signature's bytes (DER): the walk. Conditions: none; each theorem bears its own.
-/
import Derived.Test.YtfeancgmmonebaaSwd
import Derived.LoopTactic
namespace Go.Proofs.Ytfeancgmmonebaa.Sx
open Go Go.Proofs Go.RowKit

theorem c_eserr (k d : ByteArray) (w : World) : Calls Try.prog 40 #[.string k, .string d] w (AnAgg w) := by
  go_enter Try.func40, Try.ntmps40
  go_wp2_with fail
  exact bodyPost_ret (v := .agg #[.iface 83 (.string k), .string d]) (by simp [results, Try.results40, go_sem]) rfl ⟨⟨_, rfl⟩, (Below.refl _ _).alloc (Nat.le_refl _) _⟩

def IsErrRes (w : World) (e : Ending) (w' : World) : Prop := (∃ t x, e = .returned (.tuple #[.pointer none, .iface t x])) ∧ Below w.heap.size w w'

/-- The bytes' first places, as memory has them. -/
structure DerCells (w : World) (ad : Addr) (n rl sl : Nat) (x0 x1 x2 x4 x5 xs y0 y1 : Int) : Prop where
  k0 : w.cell? ad = some (.int .u8 x0)
  k1 : w.cell? ⟨ad.block, ad.off + 1, none⟩ = some (.int .u8 x1)
  k2 : w.cell? ⟨ad.block, ad.off + 2, none⟩ = some (.int .u8 x2)
  k3 : w.cell? ⟨ad.block, ad.off + 3, none⟩ = some (.int .u8 rl)
  k4 : w.cell? ⟨ad.block, ad.off + 4, none⟩ = some (.int .u8 x4)
  k5 : w.cell? ⟨ad.block, ad.off + 5, none⟩ = some (.int .u8 x5)
  m0 : 4 + rl < n → w.cell? (ad.add (4 + rl)) = some (.int .u8 xs)
  m1 : 5 + rl < n → w.cell? ⟨ad.block, ad.off + (4 + rl + 1), none⟩ = some (.int .u8 sl)
  m2 : 6 + rl < n → w.cell? ⟨ad.block, ad.off + (4 + rl + 1 + 1), none⟩ = some (.int .u8 y0)
  m3 : 7 + rl < n → w.cell? ⟨ad.block, ad.off + (4 + rl + 1 + 1 + 1), none⟩ = some (.int .u8 y1)
  b1 : 0 ≤ x1
  b1' : x1 < 256
  b3 : rl < 256
  bs : sl < 256

set_option maxRecDepth 1000000 in
set_option maxHeartbeats 4000000 in
theorem der_short (n c : Nat) (A : Option Addr) (w : World) (h : n < 8 ∨ (72 < n ∧ n < 2147483648)) : Calls Try.prog 26 #[.slice A n c] w (IsErrRes w) := by
  rcases h with h | ⟨h, h'⟩
  · go_enter Try.func26, Try.ntmps26
    go_wp2_with ((with_reducible refine (c_eserr _ _ _).mono ?_); rintro e w1 ⟨⟨x, rfl⟩, hb1⟩)
    go_ret2
    exact ⟨⟨_, _, rfl⟩, hb1⟩
  · go_enter Try.func26, Try.ntmps26
    go_wp2_with ((with_reducible refine (c_eserr _ _ _).mono ?_); rintro e w1 ⟨⟨x, rfl⟩, hb1⟩)
    go_ret2
    exact ⟨⟨_, _, rfl⟩, hb1⟩

set_option maxRecDepth 1000000 in
set_option maxHeartbeats 4000000 in
/-- Lengths that do not fit. -/
theorem der_bad (n c rl sl : Nat) (ad : Addr) (w : World) (x0 x1 x2 x4 x5 xs y0 y1 : Int) (C : DerCells w ad n rl sl x0 x1 x2 x4 x5 xs y0 y1) (hn8 : 8 ≤ n) (hn72 : n ≤ 72) (hbad : n ≤ 4 + rl ∨ n = 5 + rl ∨ (6 + rl ≤ n ∧ (n ≠ 6 + rl + sl ∨ rl = 0 ∨ sl = 0))) :
    Calls Try.prog 26 #[.slice (some ad) n c] w (IsErrRes w) := by
  have HC := Lib.hid C
  obtain ⟨k0, k1, k2, k3, k4, k5, m0, m1, m2, m3, b1, b1', b3, bs⟩ := C
  clear m0 m1 m2 m3
  rcases hbad with h | h | ⟨h, h'⟩
  · go_enter Try.func26, Try.ntmps26
    go_wp2_with ((with_reducible refine (c_eserr _ _ _).mono ?_); rintro e w1 ⟨⟨x, rfl⟩, hb1⟩)
    all_goals (go_ret2; exact ⟨⟨_, _, rfl⟩, hb1⟩)
  · have h4 : 4 + (rl : Int) < n := by omega
    have h5 : (n : Int) ≤ 4 + rl + 1 := by omega
    clear h
    go_enter Try.func26, Try.ntmps26
    go_wp2_with ((with_reducible refine (c_eserr _ _ _).mono ?_); rintro e w1 ⟨⟨x, rfl⟩, hb1⟩)
    all_goals (go_ret2; exact ⟨⟨_, _, rfl⟩, hb1⟩)
  · have h4 : 4 + (rl : Int) < n := by omega
    have h5 : 4 + (rl : Int) + 1 < n := by omega
    have m0 := HC.out.m0 (by omega)
    have m1 := HC.out.m1 (by omega)
    by_cases hq : n = 6 + rl + sl
    · have hq1 : ((4 + (rl : Int) + 1 + 1 + sl != n) = false) := by simp; omega
      have h'' : rl = 0 ∨ sl = 0 := h'.resolve_left (fun q => q hq)
      clear h' hq
      rcases h'' with h'' | h''
      · have hz : ((rl : Int) == 0) = true := by simp [h'']
        have HZ := Lib.hid h''
        clear h''
        go_enter Try.func26, Try.ntmps26
        go_wp2_with ((with_reducible refine (c_eserr _ _ _).mono ?_); rintro e w1 ⟨⟨x, rfl⟩, hb1⟩)
        all_goals (go_ret2; exact ⟨⟨_, _, rfl⟩, hb1⟩)
      · have hz : ((sl : Int) == 0) = true := by simp [h'']
        have HZ := Lib.hid h''
        clear h''
        go_enter Try.func26, Try.ntmps26
        go_wp2_with ((with_reducible refine (c_eserr _ _ _).mono ?_); rintro e w1 ⟨⟨x, rfl⟩, hb1⟩)
        all_goals (go_ret2; exact ⟨⟨_, _, rfl⟩, hb1⟩)
    · have hq1 : ((4 + (rl : Int) + 1 + 1 + sl != n) = true) := by simp; omega
      clear h' hq
      go_enter Try.func26, Try.ntmps26
      go_wp2_with ((with_reducible refine (c_eserr _ _ _).mono ?_); rintro e w1 ⟨⟨x, rfl⟩, hb1⟩)
      all_goals (go_ret2; exact ⟨⟨_, _, rfl⟩, hb1⟩)

/-- What is asked of the bytes, told at their places. -/
structure DerAt (n rl sl : Nat) (x0 x1 x2 x4 x5 xs y0 y1 R S : Int) : Prop where
  x0 : x0 = 48
  x1 : x1 = n - 2
  x2 : x2 = 2
  xs : xs = 2
  tot : n = 6 + rl + sl
  r0 : 0 < rl
  r1 : x4 < 128
  r2 : ¬ (1 < rl ∧ x4 = 0 ∧ x5 < 128)
  s0 : 0 < sl
  s1 : y0 < 128
  s2 : ¬ (1 < sl ∧ y0 = 0 ∧ y1 < 128)
  R0 : 0 < R
  R1 : R < fn
  S0 : 0 < S
  S1 : S < fn

theorem and128 {x : Int} (h0 : 0 ≤ x) (h1 : x < 256) : bits .and .u8 x 128 = if x < 128 then 0 else 128 := by
  rw [bits_and (k := .u8) (b := 8) rfl h0 h1 (by omega) (by omega)]
  obtain ⟨k, rfl⟩ := Int.eq_ofNat_of_zero_le h0
  have hk : k < 256 := by omega
  rw [Int.toNat_natCast]
  have key : ∀ k : Nat, k < 256 → (((k &&& 128 : Nat)) : Int) = if (k : Int) < 128 then 0 else 128 := by decide +kernel
  exact key k hk

/-- Bytes of which nothing ahead is needed: what is left, and its number. -/
def Rest (w : World) (B : Nat) (v : Value) (V : Int) : Prop :=
  ∃ (A : Option Addr) (m c : Nat) (l : List Int), v = .slice A m c ∧ m ≤ c ∧ m ≤ 72 ∧ Reads w B A m (l.map (Value.int .u8)) ∧ Dg 8 l ∧ be l = V

theorem be_cons_zero (l : List Int) : be (0 :: l) = be l := be_pad 1 l

theorem Rest.open {w : World} {B : Nat} {A : Option Addr} {m : Nat} {l : List Int} (h : Reads w B A m (l.map (Value.int .u8))) (hm : 0 < m) : ∃ ad y r, A = some ad ∧ l = y :: r ∧ w.cell? ad = some (.int .u8 y) := by
  obtain ⟨ad, rfl, _, hc⟩ := h.2 hm
  match l, h.1 with
  | [], h1 => simp at h1; omega
  | y :: r, _ =>
    have := hc 0 (.int .u8 y) rfl
    rw [show ad.add 0 = ad by unfold Addr.add; simp] at this
    exact ⟨ad, y, r, rfl, rfl, this⟩

/-- The cut that leaves out the first byte. -/
theorem run_cut1 (ad : Addr) {m c : Nat} (hm : 0 < m) (hc : m ≤ c) (w : World) :
    (Instr.sliceAt 22 (.slice (some ad) m c) (some (.int .i64 1)) none none).run Try.prog w = .ok (.slice (if c = 1 then some ad else some (ad.add 1)) (m - 1) (c - 1)) w := by
  have := run_cut_slice (P := Try.prog) Try.underlying22 (by kernel_rfl) (some ad) m c (some 1) none 1 m rfl rfl (by omega) hc w
  simpa using this

theorem Reads.tail1 {w : World} {B : Nat} {ad : Addr} {m c : Nat} {y : Int} {r : List Int} (h : Reads w B (some ad) m ((y :: r).map (Value.int .u8))) (hc : m ≤ c) : Reads w B (if c = 1 then some ad else some (ad.add 1)) (m - 1) (r.map (Value.int .u8)) := by
  have h1 := h.drop 1
  by_cases hq : c = 1
  · rw [if_pos hq]
    refine ⟨by simpa using h1.1, fun h0 => by omega⟩
  · rw [if_neg hq]
    exact h1

end Go.Proofs.Ytfeancgmmonebaa.Sx
