/-
  Bytes without the zeros ahead. Conditions: none; each theorem bears its own.
-/
import Derived.Test.YtfeancgmmonebaaSwi
namespace Go.Proofs.Ytfeancgmmonebaa.Sx
open Go Go.Proofs Go.RowKit

/-- No zero stands ahead. -/
def NoZero (l : List Int) : Prop := ∀ y r, l = y :: r → y ≠ 0

theorem NoZero.big {l : List Int} (h : NoZero l) (hd : Dg 8 l) (hl : 32 < l.length) : 2 ^ 256 ≤ be l := by
  match l, h, hd, hl with
  | y :: r, h, hd, hl => exact be_big hd (h y r rfl) (by simp at hl; omega)

theorem be_drop_zero {l : List Int} {k : Nat} (h : l[k]? = some 0) : be (l.drop (k + 1)) = be (l.drop k) := by
  obtain ⟨hk, h⟩ := List.getElem?_eq_some_iff.1 h
  rw [List.drop_eq_getElem_cons hk, h, be_cons_zero]

/-- Bytes of the call's own: the given ones without the zeros ahead. -/
def Trimmed (w : World) (bs : List Int) (e : Ending) (w' : World) : Prop :=
  ∃ l, be l = be bs ∧ NoZero l ∧ Dg 8 l ∧ l.length ≤ bs.length ∧ OwnBytes w l.length l e w'

set_option maxRecDepth 100000 in
theorem c_trim (n c : Nat) (bs : List Int) (A : Option Addr) (w : World) (hn : n < 2147483648) (hc : n ≤ c) (hr : Reads w w.heap.size A n (bs.map (Value.int .u8))) (hd : Dg 8 bs) :
    Calls Try.prog 39 #[.slice A n c] w (Trimmed w bs) := by
  obtain ⟨i0, hi0, hz0, hz1, hz2⟩ := info_parts u8_info
  have hbl : bs.length = n := by have h : (bs.map (Value.int .u8)).length = n := hr.1; simpa using h
  have HR := Lib.hid hr
  have HL := Lib.hid hbl
  clear hr hbl
  go_enter Try.func39, Try.ntmps39
  go_upto_block 0 with fail
  go_cut [3] (fun s3 wx => w = wx ∧ ∃ k : Nat, k ≤ n ∧ s3 = .int .i64 k ∧ be (bs.drop k) = be bs ∧ NoZero (bs.drop k))
  case first =>
    go_wp2_with fail
    go_loop [3] (fun i => ∃ k : Nat, k ≤ n ∧ i = .int .i64 k ∧ be (bs.drop k) = be bs) (fun i => n - (intOf i).toNat)
    case atStart => exact ⟨0, Nat.zero_le _, rfl, rfl⟩
    case round =>
      obtain ⟨k, hk, rfl, hbe⟩ := hrel
      have HBe := Lib.hid hbe
      clear hbe
      by_cases hlt : k < n
      · obtain ⟨ad, hA, _, hcell⟩ := HR.out.2 (by omega)
        subst hA
        obtain ⟨y, hy⟩ : ∃ y, bs[k]? = some y := ⟨bs[k]'(by rw [HL.out]; exact hlt), by simp⟩
        have hm := hcell k (.int .u8 y) (by rw [List.getElem?_map, hy]; rfl)
        have hlt' : (k : Int) < n := by omega
        have HY := Lib.hid hy
        clear hcell hy
        by_cases hy0 : y = 0
        · subst hy0
          go_wp2_with fail
          go_round
          case rel => exact ⟨k + 1, by omega, by go_num, (be_drop_zero HY.out).trans HBe.out⟩
          case measure => simp [intOf]; omega
        · have hyb : (y == 0) = false := by simp [hy0]
          go_wp2_with fail
          go_meet
          refine ⟨rfl, k, hk, rfl, HBe.out, fun z r hz => ?_⟩
          have h1 : (bs.drop k)[0]? = some y := by rw [List.getElem?_drop]; exact HY.out
          rw [hz] at h1
          obtain rfl : z = y := by simpa using h1
          exact hy0
      · have hge : (n : Int) ≤ k := by omega
        go_wp2_with fail
        go_meet
        refine ⟨rfl, k, hk, rfl, HBe.out, fun z r hz => ?_⟩
        rw [List.drop_eq_nil_of_le (by rw [HL.out]; omega)] at hz
        cases hz
  case rest =>
    obtain ⟨rfl, k, hk, rfl, hbe, hnz⟩ := hcut
    have HBe := Lib.hid hbe
    have HNz := Lib.hid hnz
    clear hbe hnz
    obtain ⟨A', hA'⟩ : ∃ A' : Option Addr, A' = if c = k then A else A.map (·.add k) := ⟨_, rfl⟩
    have e20 : ∀ W, (Instr.sliceAt 22 (.slice A n c) (some (.int .i64 k)) none none).run Try.prog W = .ok (.slice A' (n - k) (c - k)) W := fun W => by
      rw [hA']
      exact run_cut_slice (P := Try.prog) Try.underlying22 (by kernel_rfl) A n c (some (k : Int)) none k n rfl rfl hk hc W
    have hr2 : Reads w w.heap.size A' (n - k) ((bs.drop k).map (Value.int .u8)) := by
      rw [hA', List.map_drop]
      by_cases hq : c = k
      · rw [if_pos hq]
        exact ⟨by have := HR.out.1; simp at this ⊢; omega, fun h => by omega⟩
      · rw [if_neg hq]
        exact HR.out.drop k
    have HR2 := Lib.hid hr2
    have HN := Lib.hid (show 0 + (n - k) ≤ 140737488355328 by omega)
    clear hr2 hA'
    go_wp2_with (at_builtin; refine wpList_append_any rfl (.tmp 17) (.tmp 20) _ rfl w.heap.size 5 i0 _ Try.underlying22 hi0 hz0 hz1 hz2 rfl (.slice (some ⟨w.heap.size, 0, none⟩) 0 0) 0 [] rfl (owns_new w _) w.heap.size A' (n - k) (c - k) ((bs.drop k).map (Value.int .u8)) rfl (HR2.out.alloc (Nat.le_refl _) _) ints_one HN.out (by simp) ?_; intro v1 w1 ho hg hat)
    go_ret
    obtain ⟨A2, c', hv, hc', hA2⟩ := own_slice ho
    have hlen : (bs.drop k).length = n - k := by rw [List.length_drop, HL.out]
    rw [Nat.zero_add] at ho hv
    subst hv
    refine ⟨bs.drop k, HBe.out, HNz.out, fun x hx => hd x (List.mem_of_mem_drop hx), by rw [List.length_drop]; omega, A2, c', by rw [hlen]; rfl, by omega, by rw [hlen]; simpa using Reads.of_own ho, hA2, below_grown ((Below.refl _ _).alloc (Nat.le_refl _) _) hg (Nat.le_refl _) fun k hk => ?_⟩
    cases hk
    exact Nat.le_refl _

end Go.Proofs.Ytfeancgmmonebaa.Sx
