/-
  The statement FnReadSignature: what its function gives. Conditions: none; each theorem bears its own.
-/
import Derived.Test.YtfeancgmmonebaaSwq
namespace Go.Proofs.Ytfeancgmmonebaa.Sx
open Go Go.Proofs Go.RowKit

def t_rs : Tail := { n := 72, nt := 47, slots := [(3, .one (.sc (.ptr 0 0))), (4, .one (.sc (.bool (.lit 1)))), (21, .tup [.agg (kcells 8 (List.replicate 32 (some .u8))), .agg (kcells 40 (List.replicate 32 (some .u8))), .sc (.int .i64 (.lit 0))])], mem := [⟨kcells 0 (List.replicate 8 (some .u64)), true⟩] }
def t_rsn : Tail := { n := 0, nt := 47, slots := [(3, .one (.sc (.ptr 0 0))), (4, .one (.sc (.bool (.lit 0)))), (21, .tup [.agg (List.replicate 32 (.int .u8 (.lit 0))), .agg (List.replicate 32 (.int .u8 (.lit 0))), .sc (.int .i64 (.lit 1))])], mem := [⟨List.replicate 8 (.int .u64 (.lit 0)), true⟩] }
def q_rsn : Path := ⟨[], [], [.lit 1]⟩

theorem agg_tup3 {x y : List Int} {z : Int} (nb : List (Nat × Nat)) {pre E : List Int} {n : Nat} (hE : E = pre ++ (x ++ y)) (hn : pre.length = n) (hx : x.length = 32) (hy : y.length = 32) :
    (SV.tup [.agg (kcells n (List.replicate 32 (some .u8))), .agg (kcells (n + 32) (List.replicate 32 (some .u8))), .sc (.int .i64 (.lit z))]).den ⟨E, nb⟩ = .tuple #[.agg (x.map (Value.int .u8)).toArray, .agg (y.map (Value.int .u8)).toArray, .int .i64 z] := by
  have h1 := kcells_at .u8 nb x pre y E n 32 hE hn hx
  have h2 := kcells_at .u8 nb y (pre ++ x) [] E (n + 32) 32 (by simp [hE]) (by simp [hn, hx]) hy
  simp only [SV.den, S1.den, List.map, h1, h2]
  rfl

theorem rs_true {R S : Int} (r0 : 0 ≤ R) (r1 : R < 2 ^ 256) (s0 : 0 ≤ S) (s1 : S < 2 ^ 256) {p : Path} (hp : p ∈ [q_rs0, q_rs1]) (ha : asmHolds (runR [e_ub] p.defs (rsBase R S)) p.asm) :
    resV [.bool] (p.outs.map (·.val (runR [e_ub] p.defs (rsBase R S)))) = .bool true := by
  rcases List.mem_cons.1 hp with rfl | hp
  · rw [rs0 r0 r1 s0 s1]
    have hv : (SI.var 137).val ((((rsBase R S ++ byt R) ++ [1]) ++ byt S) ++ [1]) = 1 := by
      show List.getD _ 137 0 = 1
      rw [List.getD, List.getElem?_append_right (by simp [rsBase_length, byt_length])]
      simp [rsBase_length, byt_length]
    show resV [.bool] [(SI.var 137).val _] = _
    rw [hv]
    rfl
  · obtain rfl : p = q_rs1 := by simpa using hp
    exfalso
    rw [rs1 S r0 r1] at ha
    have := ha (.var 104, false) (by simp [q_rs1])
    have hv : (SI.var 104).val ((rsBase R S ++ byt R) ++ [1]) = 1 := by
      show List.getD _ 104 0 = 1
      rw [List.getD, List.getElem?_append_right (by simp [rsBase_length, byt_length])]
      simp [rsBase_length, byt_length]
    simp only [hv] at this
    cases this

set_option maxRecDepth 100000 in
set_option maxHeartbeats 1000000 in
theorem law_readsig (n c : Nat) (bs : List Int) (A : Option Addr) (w : World) (hm : n ≤ 9223372036854775807) (hc : n ≤ c) (hr : Reads w w.heap.size A n (bs.map (Value.int .u8))) (hd : Dg 8 bs) :
    Calls Try.prog 4 #[.slice A n c] w fun en w' => en = .returned (.bool true) ∧ Below w.heap.size w w' := by
  have HR := Lib.hid hr
  clear hr
  by_cases h10 : (n : Int) ≤ 10000
  · have hn : n < 2147483648 := by omega
    have hS := c_readSig n c bs A w hn hc HR.out hd
    have hI : ∀ W, Below w.heap.size w W → Calls Try.prog 12 #[.slice A n c] W (ImplSig W bs) := fun W hb =>
      impl_readsig n c bs A W hn hc ((HR.out.below hb).more hb.size) hd
    clear hm
    by_cases hok : SigOk bs
    case neg =>
      have hS1 := hS.mono (R' := fun e w' => e = .returned (.tuple #[.agg zero8, .bool false]) ∧ Below w.heap.size w w') fun e w' h => ⟨h.1.elim (fun q => absurd q.1 hok) (fun q => q.2), h.2⟩
      have hI1 : ∀ W, Below w.heap.size w W → Calls Try.prog 12 #[.slice A n c] W fun e w' => e = .returned (.tuple #[.agg zero32, .agg zero32, .int .i64 1]) ∧ Below W.heap.size W w' := fun W hb =>
        (hI W hb).mono fun e w' h => ⟨h.1.elim (fun q => absurd q.1 hok) (fun q => q.2), h.2⟩
      have HS := Lib.hid hS1
      have HI := Lib.hid hI1
      clear hS hS1 hI hI1 hok
      go_enter Try.func4, Try.ntmps4
      go_wp2_with (first
        | (go_at_call 11; refine HS.out.mono ?_; rintro e w1 ⟨rfl, hb1⟩)
        | (go_at_call 12; refine (HI.out _ (hb1.alloc hb1.size _)).mono ?_; rintro e w2 ⟨rfl, hb2⟩; refine Halt.of ?_))
      rename_i K1 hK1 K hK
      show K _ _
      refine hK _ _ ?_
      have hz1 := hb1.size
      have g0 : w2.heap[w1.heap.size]? = some (.cells zero8 34 (0, 0)) := (hb2.block _ (by simp)).trans (heap_alloc_new w1 _)
      have hB : Below w.heap.size w w2 := (hb1.alloc hb1.size _).trans (hb2.mono (by simp; omega))
      refine tail_list mixed (Γ := []) (fun e he => by cases he) (t := t_rsn) (res := [.bool]) (nds := []) (ps := [q_rsn]) (by kernel_rfl)
        (base := []) (bs := [(w1.heap.size, 0)]) rfl rfl (fun _ h => by cases h) rfl rfl ⟨rfl, rfl, rfl, trivial⟩ ?_ ?_ hK1 ?_
      · intro o so hso
        match o with
        | 0 =>
          obtain rfl := Option.some.inj hso
          exact ObjOk.whole (cs := zero8.toList) g0 rfl rfl rfl
        | o + 1 => cases hso
      · intro o o' so so' hoo h1 h2 h3
        match o, o' with
        | 0, 0 => exact absurd rfl hoo
        | o + 1, _ => cases h1
        | _, o' + 1 => cases h2
      · intro p hp _ w' hfr
        obtain rfl : p = q_rsn := by simpa using hp
        refine ⟨rfl, hB.trans (hfr.below (by have := hB.size; omega) fun k j hk ⟨o, so, hso, hw, hk', _⟩ => ?_)⟩
        match o with
        | 0 => have : w1.heap.size = k := hk'; omega
        | o + 1 => cases hso
    case pos =>
      have rb : 0 ≤ sigR bs ∧ sigR bs < 2 ^ 256 := ⟨Int.le_of_lt hok.rR.1, Int.lt_trans hok.rR.2 fn_lt⟩
      have sb : 0 ≤ sigS bs ∧ sigS bs < 2 ^ 256 := ⟨Int.le_of_lt hok.rS.1, Int.lt_trans hok.rS.2 fn_lt⟩
      obtain ⟨r0, r1, r2, r3, hdr⟩ : ∃ d0 d1 d2 d3, dig 64 4 (sigR bs) = [d0, d1, d2, d3] := len4 (dig_length 64 4 _)
      obtain ⟨s0, s1, s2, s3, hds⟩ : ∃ d0 d1 d2 d3, dig 64 4 (sigS bs) = [d0, d1, d2, d3] := len4 (dig_length 64 4 _)
      have hS1 := hS.mono (R' := fun e w' => e = .returned (.tuple #[.agg #[.int .u64 r0, .int .u64 r1, .int .u64 r2, .int .u64 r3, .int .u64 s0, .int .u64 s1, .int .u64 s2, .int .u64 s3], .bool true]) ∧ Below w.heap.size w w') fun e w' h => ⟨h.1.elim (fun q => by rw [q.2, hdr, hds]; rfl) (fun q => absurd hok q.1), h.2⟩
      have hI1 : ∀ W, Below w.heap.size w W → Calls Try.prog 12 #[.slice A n c] W fun e w' => e = .returned (.tuple #[.agg ((byt (sigR bs)).map (Value.int .u8)).toArray, .agg ((byt (sigS bs)).map (Value.int .u8)).toArray, .int .i64 0]) ∧ Below W.heap.size W w' := fun W hb =>
        (hI W hb).mono fun e w' h => ⟨h.1.elim (fun q => q.2) (fun q => absurd hok q.1), h.2⟩
      have HS := Lib.hid hS1
      have HI := Lib.hid hI1
      have HRb := Lib.hid rb
      have HSb := Lib.hid sb
      have HDr := Lib.hid hdr
      have HDs := Lib.hid hds
      clear hS hS1 hI hI1 hok rb sb hdr hds
      go_enter Try.func4, Try.ntmps4
      go_wp2_with (first
        | (go_at_call 11; refine HS.out.mono ?_; rintro e w1 ⟨rfl, hb1⟩)
        | (go_at_call 12; refine (HI.out _ (hb1.alloc hb1.size _)).mono ?_; rintro e w2 ⟨rfl, hb2⟩; refine Halt.of ?_))
      rename_i K1 hK1 K hK
      show K _ _
      refine hK _ _ ?_
      have hz1 := hb1.size
      have g0 : w2.heap[w1.heap.size]? = some (.cells #[.int .u64 r0, .int .u64 r1, .int .u64 r2, .int .u64 r3, .int .u64 s0, .int .u64 s1, .int .u64 s2, .int .u64 s3] 34 (0, 0)) := (hb2.block _ (by simp)).trans (heap_alloc_new w1 _)
      have hB : Below w.heap.size w w2 := (hb1.alloc hb1.size _).trans (hb2.mono (by simp; omega))
      have hl := rsBase_length (sigR bs) (sigS bs)
      have hp8 : (dig 64 4 (sigR bs) ++ dig 64 4 (sigS bs)).length = 8 := by simp [dig_length]
      have ht := agg_tup3 (z := 0) [(w1.heap.size, 0)] (x := byt (sigR bs)) (y := byt (sigS bs)) (E := rsBase (sigR bs) (sigS bs)) (pre := dig 64 4 (sigR bs) ++ dig 64 4 (sigS bs)) (n := 8) rfl hp8 (byt_length _) (byt_length _)
      have hk := kcells_at .u64 [(w1.heap.size, 0)] (dig 64 4 (sigR bs) ++ dig 64 4 (sigS bs)) [] (byt (sigR bs) ++ byt (sigS bs)) (rsBase (sigR bs) (sigS bs)) 0 8 rfl rfl hp8
      refine tail_list mixed (Γ := [e_ub]) (fun e he => by obtain rfl := List.mem_singleton.1 he; exact m_ub) (t := t_rs) (res := [.bool]) (nds := []) (ps := [q_rs0, q_rs1]) (by kernel_rfl)
        (base := rsBase (sigR bs) (sigS bs)) (bs := [(w1.heap.size, 0)]) hl rfl (fun _ h => by cases h) rfl rfl ⟨rfl, rfl, (by exact congrArg some ht.symm), trivial⟩ ?_ ?_ hK1 ?_
      · intro o so hso
        match o with
        | 0 =>
          obtain rfl := Option.some.inj hso
          refine ObjOk.whole (cs := [.int .u64 r0, .int .u64 r1, .int .u64 r2, .int .u64 r3, .int .u64 s0, .int .u64 s1, .int .u64 s2, .int .u64 s3]) g0 rfl rfl ?_
          exact hk.trans (by rw [HDr.out, HDs.out]; rfl)
        | o + 1 => cases hso
      · intro o o' so so' hoo h1 h2 h3
        match o, o' with
        | 0, 0 => exact absurd rfl hoo
        | o + 1, _ => cases h1
        | _, o' + 1 => cases h2
      · intro p hp hasm w' hfr
        refine ⟨congrArg Ending.returned (rs_true HRb.out.1 HRb.out.2 HSb.out.1 HSb.out.2 hp hasm), hB.trans (hfr.below (by have := hB.size; omega) fun k j hk ⟨o, so, hso, hw, hk', _⟩ => ?_)⟩
        match o with
        | 0 => have : w1.heap.size = k := hk'; omega
        | o + 1 => cases hso
  · go_enter Try.func4, Try.ntmps4
    go_wp2_with fail
    all_goals (go_ret; exact ⟨rfl, Below.refl _ _⟩)

end Go.Proofs.Ytfeancgmmonebaa.Sx
