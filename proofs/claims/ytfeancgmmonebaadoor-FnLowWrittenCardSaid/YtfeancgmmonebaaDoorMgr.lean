/-
  The reference's own reading of a signature's bytes. Conditions: none; each theorem bears its own.
-/
import Derived.Test.YtfeancgmmonebaaDoorMgq
import Derived.Test.YtfeancgmmonebaaDoorMgp
namespace Go.Proofs.YtfeancgmmonebaaDoor.Sx
open Go Go.Proofs Go.RowKit

theorem c_readDer (n c : Nat) (l : List Int) (A : Option Addr) (w : World) (hn : n < 2147483648) (hc : n ≤ c) (hr : Reads w w.heap.size A n (l.map (Value.int .u8))) (hd : Dg 8 l) :
    Calls Tryd.prog 12 #[.slice A n c] w (DerRes w n l) := by
  have hl : l.length = n := by have h : (l.map (Value.int .u8)).length = n := hr.1; simpa using h
  by_cases h3 : n < 3
  · exact readDer_short n c l A w h3 hl
  · obtain ⟨ad, rfl, _, _⟩ := hr.2 (by omega)
    exact readDer_long n c (l.getD 1 0).toNat l ad w (by omega) hn hc hr hd (by have := (hd.getD 1).1; omega)

theorem c_inrange {V : Int} (v0 : 0 ≤ V) (v1 : V < 2 ^ 256) (w : World) :
    Calls Tryd.prog 13 #[.agg ((dig 64 4 V).map (Value.int .u64)).toArray] w fun en w' => en = .returned (.bool (decide (0 < V ∧ V < fn))) ∧ Below w.heap.size w w' :=
  m_inrange.pure (by kernel_rfl) (base := dig 64 4 V) (out := [b01 (decide (0 < V ∧ V < fn))]) (dig_length 64 4 _) rfl (fun _ => ⟨dig_length 64 4 _, dig_dg 64 4 V⟩) (by show F_inrange _ = _; unfold F_inrange; rw [num_dig 64 4 V v0 v1]) (args := [.agg ((dig 64 4 V).map (Value.int .u64)).toArray])
    (by
      show [(SV.one (.agg (kcells 0 (List.replicate 4 (some .u64))))).den ⟨dig 64 4 V, []⟩] = _
      rw [agg_at .u64 [] (l := dig 64 4 V) (pre := []) (post := []) (n := 0) (by simp) rfl (dig_length 64 4 _)])
    (fun nb => by
      show Value.bool (List.getD (dig 64 4 V ++ fit 1 [b01 (decide (0 < V ∧ V < fn))]) 4 0 != 0) = _
      rw [List.getD, List.getElem?_append_right (by rw [dig_length]; exact Nat.le_refl _), dig_length]
      show Value.bool (b01 (decide (0 < V ∧ V < fn)) != 0) = _
      rw [b01_bool]) w

def sk1 (bs : List Int) : Nat := ((bs.drop 2).getD 1 0).toNat
def sl3 (bs : List Int) : List Int := (bs.drop 2).drop (2 + sk1 bs)
def sk2 (bs : List Int) : Nat := ((sl3 bs).getD 1 0).toNat
def sigR (bs : List Int) : Int := be (((bs.drop 2).drop 2).take (sk1 bs))
def sigS (bs : List Int) : Int := be (((sl3 bs).drop 2).take (sk2 bs))

/-- The bytes are a signature, as strictly as can be. -/
structure SigOk (bs : List Int) : Prop where
  n8 : 8 ≤ bs.length
  n72 : bs.length ≤ 72
  x0 : bs.getD 0 0 = 48
  x1 : bs.getD 1 0 = bs.length - 2
  d1 : DerN (bs.drop 2)
  d2 : DerN (sl3 bs)
  all : (sl3 bs).length = 2 + sk2 bs
  rR : 0 < sigR bs ∧ sigR bs < fn
  rS : 0 < sigS bs ∧ sigS bs < fn

abbrev zero8 : Array Value := #[.int .u64 0, .int .u64 0, .int .u64 0, .int .u64 0, .int .u64 0, .int .u64 0, .int .u64 0, .int .u64 0]

def SigRes (w : World) (bs : List Int) (e : Ending) (w' : World) : Prop :=
  ((SigOk bs ∧ e = .returned (.tuple #[.agg ((dig 64 4 (sigR bs) ++ dig 64 4 (sigS bs)).map (Value.int .u64)).toArray, .bool true])) ∨ (¬ SigOk bs ∧ e = .returned (.tuple #[.agg zero8, .bool false]))) ∧ Below w.heap.size w w'

theorem results_cell1 {fn : Func} {p u : Tmp} {ty : TypeId} (h : fn.results = #[.cell p ty, .tmp u]) (tmps : Array Value) (P : Program) (w : World) {a : Addr} {x : Value} (hp : tmps.getD p undef = .pointer (some a)) (hl : (loadVar ty a).run P w = .ok x w) :
    (results fn tmps).run P w = .ok (.tuple #[x, tmps.getD u undef]) w := by
  have hp' : tmps[p]?.getD undef = .pointer (some a) := by simpa using hp
  simp only [results, h]
  simp [Result.andThen, hp', asAddr, hl]

theorem run_loadAtAgg {P : Program} {t : TypeId} {n : Nat} {w : World} {g : Nat} {T : TypeId} {cs : List Value} (ha : isAggB P t = some true) (hz : szOf P t = some n) (hg : w.heap[g]? = some (.cells cs.toArray T (0, 0))) (hl : cs.length = n) :
    (Instr.loadAt t (.pointer (some ⟨g, 0, none⟩))).run P w = .ok (.agg cs.toArray) w := by
  simp [Instr.loadAt, Instr.sureAddr, run_loadAgg ha hz hg hl]

set_option maxRecDepth 100000 in
theorem readSig_len (n c : Nat) (bs : List Int) (A : Option Addr) (w : World) (hn : n < 8 ∨ (72 < n ∧ n < 2147483648)) (hl : bs.length = n) :
    Calls Tryd.prog 5 #[.slice A n c] w (SigRes w bs) := by
  have HL := Lib.hid hl
  clear hl
  rcases hn with hn | ⟨hn, hn'⟩
  · go_enter Tryd.func5, Tryd.ntmps5
    go_wp2_with fail
    (try simp only [Exit.inBlock, Exit.then])
    refine bodyPost_ret (results_cell1 rfl _ _ _ rfl (run_loadAgg (cs := zero8.toList) (by kernel_rfl) (by kernel_rfl) (heap_alloc_new w _) rfl)) rfl ?_
    exact ⟨.inr ⟨fun q => by have := q.n8; have := HL.out; omega, rfl⟩, (Below.refl _ _).alloc (Nat.le_refl _) _⟩
  · go_enter Tryd.func5, Tryd.ntmps5
    go_wp2_with fail
    (try simp only [Exit.inBlock, Exit.then])
    refine bodyPost_ret (results_cell1 rfl _ _ _ rfl (run_loadAgg (cs := zero8.toList) (by kernel_rfl) (by kernel_rfl) (heap_alloc_new w _) rfl)) rfl ?_
    exact ⟨.inr ⟨fun q => by have := q.n72; have := HL.out; omega, rfl⟩, (Below.refl _ _).alloc (Nat.le_refl _) _⟩

set_option maxRecDepth 100000 in
set_option maxHeartbeats 2000000 in
theorem readSig_fit (n c : Nat) (bs : List Int) (ad : Addr) (w : World) (hn8 : 8 ≤ n) (hn72 : n ≤ 72) (hc : n ≤ c) (hr : Reads w w.heap.size (some ad) n (bs.map (Value.int .u8))) (hd : Dg 8 bs) :
    Calls Tryd.prog 5 #[.slice (some ad) n c] w (SigRes w bs) := by
  have HL : Hid (bs.length = n) := by
    show bs.length = n
    have h : (bs.map (Value.int .u8)).length = n := hr.1
    simpa using h
  obtain ⟨x0, hx0⟩ : ∃ x, x = bs.getD 0 0 := ⟨_, rfl⟩
  obtain ⟨x1, hx1⟩ : ∃ x, x = bs.getD 1 0 := ⟨_, rfl⟩
  have k0 : w.cell? ad = some (.int .u8 x0) := by rw [hx0]; have := hr.cell (j := 0) (by omega); rwa [show ad.add 0 = ad by unfold Addr.add; simp] at this
  have k1 : w.cell? ⟨ad.block, ad.off + 1, none⟩ = some (.int .u8 x1) := by rw [hx1]; have := hr.cell (j := 1) (by omega); simpa [Addr.add] using this
  have hb1 : 0 ≤ x1 ∧ x1 < 256 := by rw [hx1]; exact hd.getD 1
  obtain ⟨hb1, hb1'⟩ := hb1
  have HX0 := Lib.hid hx0
  have HX1 := Lib.hid hx1
  have HR := Lib.hid hr
  clear hx0 hx1 hr
  obtain ⟨q1, hq1⟩ : ∃ q : Bool, q = decide (x0 ≠ 48 ∨ x1 ≠ n - 2) := ⟨_, rfl⟩
  have HQ1 := Lib.hid hq1
  clear hq1
  go_enter Tryd.func5, Tryd.ntmps5
  go_upto_region 1 with fail
  have hs0 : (w.alloc (.cells #[.int .u64 0, .int .u64 0, .int .u64 0, .int .u64 0, .int .u64 0, .int .u64 0, .int .u64 0, .int .u64 0] 27)).heap.size = w.heap.size + 1 := by simp
  have hb0 : Below w.heap.size w (w.alloc (.cells #[.int .u64 0, .int .u64 0, .int .u64 0, .int .u64 0, .int .u64 0, .int .u64 0, .int .u64 0, .int .u64 0] 27)) := (Below.refl _ _).alloc (Nat.le_refl _) _
  have hg0 : (w.alloc (.cells #[.int .u64 0, .int .u64 0, .int .u64 0, .int .u64 0, .int .u64 0, .int .u64 0, .int .u64 0, .int .u64 0] 27)).heap[w.heap.size]? = some (.cells zero8 27 (0, 0)) := heap_alloc_new w _
  generalize w.alloc (.cells #[.int .u64 0, .int .u64 0, .int .u64 0, .int .u64 0, .int .u64 0, .int .u64 0, .int .u64 0, .int .u64 0] 27) = W0 at hs0 hb0 hg0 ⊢
  obtain ⟨_, ead, had, _⟩ := HR.out.2 (by omega)
  obtain rfl := Option.some.inj ead
  have k0 : W0.cell? ad = some (.int .u8 x0) := (hb0.cell had).trans k0
  have k1 : W0.cell? ⟨ad.block, ad.off + 1, none⟩ = some (.int .u8 x1) := (hb0.cell (by exact had)).trans k1
  have HS0 := Lib.hid hs0
  have HB0 := Lib.hid hb0
  have HG0 := Lib.hid hg0
  clear hs0 hb0 hg0 had ead
  go_cut [31] (fun s31 wx => W0 = wx ∧ s31 = .bool q1)
  case first =>
    go_wp2_with fail
    all_goals (go_meet; refine ⟨rfl, congrArg Value.bool ?_⟩; rw [HQ1.out]; symm)
    all_goals (rw [Bool.eq_iff_iff]; simp; omega)
  case rest =>
    obtain ⟨rfl, rfl⟩ := hcut
    clear k0 k1
    cases q1
    case true =>
      go_wp2_with ((with_reducible refine wpList_store_row rfl _ (.tmp 2) (.tmp 32) rfl w.heap.size zero8 ?_ ?_ _ zero8 HG0.out ?_ ?_ ?_ ?_); exact rfl; exact rfl; kernel_rfl; exact rfl; kernel_rfl; skip)
      (try simp only [Exit.inBlock, Exit.then])
      refine bodyPost_ret (results_cell1 rfl _ _ _ rfl (run_loadAgg (cs := zero8.toList) (by kernel_rfl) (by kernel_rfl) (setRow_heap _ _ _ _ _ _ HG0.out) rfl)) rfl ?_
      refine ⟨.inr ⟨fun q => ?_, rfl⟩, below_setRow HB0.out (Nat.le_refl _) _⟩
      have h1 := of_decide_eq_true HQ1.out.symm
      have h2 := q.x0
      have h3 := q.x1
      rw [← HX0.out] at h2
      rw [← HX1.out, HL.out] at h3
      omega
    case false =>
      have hp1 : ¬ (x0 ≠ 48 ∨ x1 ≠ n - 2) := of_decide_eq_false HQ1.out.symm
      have HP1 := Lib.hid hp1
      clear hp1 HQ1
      obtain ⟨l2, hl2⟩ : ∃ l2, l2 = bs.drop 2 := ⟨_, rfl⟩
      obtain ⟨A2, hA2⟩ : ∃ A2 : Option Addr, A2 = some (ad.add 2) := ⟨_, rfl⟩
      obtain ⟨c2, hc2⟩ : ∃ c2, c2 = c - 2 := ⟨_, rfl⟩
      obtain ⟨n2, hn2⟩ : ∃ n2, n2 = n - 2 := ⟨_, rfl⟩
      have e35 : ∀ W, (Instr.sliceAt 22 (.slice (some ad) n c) (some (.int .i64 2)) none none).run Tryd.prog W = .ok (.slice A2 n2 c2) W := fun W => by
        have := run_cut_slice (P := Tryd.prog) Tryd.underlying22 (by kernel_rfl) (some ad) n c (some 2) none 2 n rfl rfl (by omega) hc W
        rw [if_neg (by omega), ← hc2, ← hn2] at this
        rw [hA2]
        exact this
      have hr2 : Reads W0 w.heap.size A2 n2 (l2.map (Value.int .u8)) := by
        rw [hA2, hn2, hl2, List.map_drop]
        exact (HR.out.drop 2).below HB0.out
      have hd2 : Dg 8 l2 := fun x hx => hd x (List.mem_of_mem_drop (by rw [← hl2]; exact hx))
      have hD1 := c_readDer n2 c2 l2 A2 W0 (by omega) (by omega) (hr2.more (by have := HS0.out; omega)) hd2
      have HL2 := Lib.hid hl2
      have HNn := Lib.hid hn2
      have hn2c : n2 ≤ c2 := by omega
      have hn2n : n2 ≤ n := by omega
      clear hr2 hA2 hn2 hc2
      by_cases d1 : DerN l2
      case neg =>
        have hD1' := hD1.mono (R' := fun e w' => e = .returned (.tuple #[.agg zero4, .slice none 0 0, .bool false]) ∧ Below W0.heap.size W0 w') fun e w' h => ⟨h.1.elim (fun q => absurd q.1 d1) (fun q => q.2), h.2⟩
        have HD1 := Lib.hid hD1'
        have HN := Lib.hid d1
        clear hD1 hD1' d1 hl2
        go_wp2_with (first
          | (go_at_call 12; refine HD1.out.mono ?_; rintro e w1 ⟨rfl, hb1⟩
             have HG1 : Hid (∀ o, (w1.alloc o).heap[w.heap.size]? = some (.cells zero8 27 (0, 0))) := fun o => (heap_alloc_old _ _ (by have := hb1.size; have := HS0.out; omega)).trans ((hb1.block _ (by have := HS0.out; omega)).trans HG0.out))
          | ((with_reducible refine wpList_store_row rfl _ (.tmp 2) (.tmp 42) rfl w.heap.size zero8 ?_ ?_ _ zero8 (HG1.out _) ?_ ?_ ?_ ?_); exact rfl; exact rfl; kernel_rfl; exact rfl; kernel_rfl; skip))
        (try simp only [Exit.inBlock, Exit.then])
        refine bodyPost_ret (results_cell1 rfl _ _ _ rfl (run_loadAgg (cs := zero8.toList) (by kernel_rfl) (by kernel_rfl) (setRow_heap _ _ _ _ _ _ (HG1.out _)) rfl)) rfl ?_
        exact ⟨.inr ⟨fun q => HN.out (by rw [HL2.out]; exact q.d1), rfl⟩, below_setRow ((HB0.out.trans (hb1.mono (by have := HS0.out; omega))).alloc (by have := hb1.size; have := HS0.out; omega) _) (Nat.le_refl _) _⟩
      case pos =>
        obtain ⟨r0, r1, r2, r3, hdr⟩ : ∃ d0 d1 d2 d3, dig 64 4 (sigR bs) = [d0, d1, d2, d3] := len4 (dig_length 64 4 _)
        obtain ⟨m3, hm3⟩ : ∃ m3, m3 = n2 - (2 + sk1 bs) := ⟨_, rfl⟩
        have hm3n : m3 ≤ n := by omega
        have hl3 : (sl3 bs).length = m3 := by have := HL.out; have := HNn.out; unfold sl3; simp; omega
        have hD1' := hD1.mono (R' := fun e w' => ∃ A3 c3, e = .returned (.tuple #[.agg #[.int .u64 r0, .int .u64 r1, .int .u64 r2, .int .u64 r3], .slice A3 m3 c3, .bool true]) ∧ m3 ≤ c3 ∧ Reads W0 W0.heap.size A3 m3 ((sl3 bs).map (Value.int .u8)) ∧ Below W0.heap.size W0 w') fun e w' h => by
          rcases h.1 with q | q
          · obtain ⟨_, k, A3, c3, hk, he, h1, h2⟩ := q
            have hk' : k = sk1 bs := by rw [hk, hl2]; rfl
            subst hk'
            refine ⟨A3, c3, ?_, by rw [hm3]; exact h1, ?_, h.2⟩
            · rw [he, hl2, show be (((bs.drop 2).drop 2).take (sk1 bs)) = sigR bs from rfl, hdr, hm3]
              rfl
            · rw [hm3]
              rw [hl2] at h2
              exact h2
          · exact absurd d1 q.1
        have hRb : 0 ≤ sigR bs ∧ sigR bs < 2 ^ 256 := ⟨(num_bounds (Dg.reverse (fun x hx => hd x (List.mem_of_mem_drop (List.mem_of_mem_drop (List.mem_of_mem_take hx))) : Dg 8 (((bs.drop 2).drop 2).take (sk1 bs))))).1, by have := d1.big; rw [hl2] at this; exact this⟩
        have hinR : ∀ W, Calls Tryd.prog 13 #[.agg #[.int .u64 r0, .int .u64 r1, .int .u64 r2, .int .u64 r3]] W fun en w' => en = .returned (.bool (decide (0 < sigR bs ∧ sigR bs < fn))) ∧ Below W.heap.size W w' := fun W => by
          have := c_inrange hRb.1 hRb.2 W
          rw [hdr] at this
          exact this
        have HD1 := Lib.hid hD1'
        have HN := Lib.hid d1
        have HDr := Lib.hid hdr
        have HL3 := Lib.hid hl3
        have HInR := Lib.hid hinR
        clear hD1 hD1' d1 hl2 hdr hm3 hl3 hRb hinR
        go_upto_region 6 with (go_at_call 12; refine HD1.out.mono ?_; rintro e w1 ⟨A3, c3, rfl, hc3, hr3, hb1⟩)
        have hs1 := hb1.size
        obtain ⟨g4, hg4⟩ : ∃ g4, g4 = w1.heap.size := ⟨_, rfl⟩
        have hh1 : (w1.alloc (.cells #[.int .u64 r0, .int .u64 r1, .int .u64 r2, .int .u64 r3] 25)).heap.size = w1.heap.size + 1 := by simp
        have hh2 : Below w.heap.size w (w1.alloc (.cells #[.int .u64 r0, .int .u64 r1, .int .u64 r2, .int .u64 r3] 25)) := (HB0.out.trans (hb1.mono (by have := HS0.out; omega))).alloc (by have := HS0.out; omega) _
        have hh3 : (w1.alloc (.cells #[.int .u64 r0, .int .u64 r1, .int .u64 r2, .int .u64 r3] 25)).heap[w1.heap.size]? = some (.cells #[.int .u64 r0, .int .u64 r1, .int .u64 r2, .int .u64 r3] 25 (0, 0)) := heap_alloc_new w1 _
        have hh4 : (w1.alloc (.cells #[.int .u64 r0, .int .u64 r1, .int .u64 r2, .int .u64 r3] 25)).heap[w.heap.size]? = some (.cells zero8 27 (0, 0)) := (heap_alloc_old _ _ (by have := HS0.out; omega)).trans ((hb1.block _ (by have := HS0.out; omega)).trans HG0.out)
        have hh5 : Reads (w1.alloc (.cells #[.int .u64 r0, .int .u64 r1, .int .u64 r2, .int .u64 r3] 25)) W0.heap.size A3 m3 ((sl3 bs).map (Value.int .u8)) := (hr3.below hb1).alloc hs1 _
        generalize w1.alloc (.cells #[.int .u64 r0, .int .u64 r1, .int .u64 r2, .int .u64 r3] 25) = W1 at hh1 hh2 hh3 hh4 hh5 ⊢
        have hs0 := HS0.out
        rw [← hg4] at hh1 hh3 ⊢
        have hg4w : w.heap.size < g4 := by omega
        have hD2 := c_readDer m3 c3 (sl3 bs) A3 W1 (by omega) hc3 (hh5.more (by omega)) (fun x hx => hd x (List.mem_of_mem_drop (List.mem_of_mem_drop hx)))
        have HH1 := Lib.hid hh1
        have HH2 := Lib.hid hh2
        have HH3 := Lib.hid hh3
        have HH4 := Lib.hid hh4
        clear hh1 hh2 hh3 hh4 hh5 hr3 hb1 hs1 hg4 hs0 e35
        by_cases d2 : DerN (sl3 bs)
        case neg =>
          have hD2' := hD2.mono (R' := fun e w' => e = .returned (.tuple #[.agg zero4, .slice none 0 0, .bool false]) ∧ Below W1.heap.size W1 w') fun e w' h => ⟨h.1.elim (fun q => absurd q.1 d2) (fun q => q.2), h.2⟩
          have HD2 := Lib.hid hD2'
          have HN2 := Lib.hid d2
          clear hD2 hD2' d2
          go_wp2_with (first
            | (go_at_call 12; refine HD2.out.mono ?_; rintro e w2 ⟨rfl, hb2⟩
               have HG1 : Hid (∀ o, (w2.alloc o).heap[w.heap.size]? = some (.cells zero8 27 (0, 0))) := fun o => (heap_alloc_old _ _ (by have := hb2.size; have := HH1.out; omega)).trans ((hb2.block _ (by have := HH1.out; omega)).trans HH4.out))
            | ((with_reducible refine wpList_store_row rfl _ (.tmp 2) (.tmp 66) rfl w.heap.size zero8 ?_ ?_ _ zero8 (HG1.out _) ?_ ?_ ?_ ?_); exact rfl; exact rfl; kernel_rfl; exact rfl; kernel_rfl; skip))
          (try simp only [Exit.inBlock, Exit.then])
          refine bodyPost_ret (results_cell1 rfl _ _ _ rfl (run_loadAgg (cs := zero8.toList) (by kernel_rfl) (by kernel_rfl) (setRow_heap _ _ _ _ _ _ (HG1.out _)) rfl)) rfl ?_
          exact ⟨.inr ⟨fun q => HN2.out q.d2, rfl⟩, below_setRow ((HH2.out.trans (hb2.mono (by have := HH1.out; omega))).alloc (by have := hb2.size; have := HH1.out; omega) _) (Nat.le_refl _) _⟩
        case pos =>
          obtain ⟨s0, s1, s2, s3, hds⟩ : ∃ d0 d1 d2 d3, dig 64 4 (sigS bs) = [d0, d1, d2, d3] := len4 (dig_length 64 4 _)
          obtain ⟨m4, hm4⟩ : ∃ m4, m4 = m3 - (2 + sk2 bs) := ⟨_, rfl⟩
          have hD2' := hD2.mono (R' := fun e w' => ∃ A4 c4, e = .returned (.tuple #[.agg #[.int .u64 s0, .int .u64 s1, .int .u64 s2, .int .u64 s3], .slice A4 m4 c4, .bool true]) ∧ Below W1.heap.size W1 w') fun e w' h => by
            rcases h.1 with q | q
            · obtain ⟨_, k, A4, c4, hk, he, _, _⟩ := q
              have hk' : k = sk2 bs := by rw [hk]; rfl
              subst hk'
              refine ⟨A4, c4, ?_, h.2⟩
              rw [he, show be (((sl3 bs).drop 2).take (sk2 bs)) = sigS bs from rfl, hds, hm4]
              rfl
            · exact absurd d2 q.1
          have hSb : 0 ≤ sigS bs ∧ sigS bs < 2 ^ 256 := ⟨(num_bounds (Dg.reverse (fun x hx => hd x (List.mem_of_mem_drop (List.mem_of_mem_drop (List.mem_of_mem_drop (List.mem_of_mem_take hx)))) : Dg 8 (((sl3 bs).drop 2).take (sk2 bs))))).1, d2.big⟩
          have hinS : ∀ W, Calls Tryd.prog 13 #[.agg #[.int .u64 s0, .int .u64 s1, .int .u64 s2, .int .u64 s3]] W fun en w' => en = .returned (.bool (decide (0 < sigS bs ∧ sigS bs < fn))) ∧ Below W.heap.size W w' := fun W => by
            have := c_inrange hSb.1 hSb.2 W
            rw [hds] at this
            exact this
          have hfit2 : 2 + sk2 bs ≤ m3 := by
            have h1 := d2.fit
            have h2 := d2.len
            have h3 := HL3.out
            have h4 := (Dg.getD (w := 8) (fun x hx => hd x (List.mem_of_mem_drop (List.mem_of_mem_drop hx)) : Dg 8 (sl3 bs)) 1).1
            unfold sk2
            omega
          have hall : (sl3 bs).length = 2 + sk2 bs ↔ m4 = 0 := by have h3 := HL3.out; omega
          have HD2 := Lib.hid hD2'
          have HN2 := Lib.hid d2
          have HDs := Lib.hid hds
          have HAll := Lib.hid hall
          have HInS := Lib.hid hinS
          clear hD2 hD2' d2 hds hm4 hSb hinS hfit2 hall
          go_upto_region 7 with (go_at_call 12; refine HD2.out.mono ?_; rintro e w2 ⟨A4, c4, rfl, hb2⟩)
          have hs1 := hb2.size
          obtain ⟨g7, hg7⟩ : ∃ g7, g7 = w2.heap.size := ⟨_, rfl⟩
          have hj := HH1.out
          have hh1 : (w2.alloc (.cells #[.int .u64 s0, .int .u64 s1, .int .u64 s2, .int .u64 s3] 25)).heap.size = w2.heap.size + 1 := by simp
          have hh2 : Below w.heap.size w (w2.alloc (.cells #[.int .u64 s0, .int .u64 s1, .int .u64 s2, .int .u64 s3] 25)) := (HH2.out.trans (hb2.mono (by omega))).alloc (by omega) _
          have hh3 : (w2.alloc (.cells #[.int .u64 s0, .int .u64 s1, .int .u64 s2, .int .u64 s3] 25)).heap[w2.heap.size]? = some (.cells #[.int .u64 s0, .int .u64 s1, .int .u64 s2, .int .u64 s3] 25 (0, 0)) := heap_alloc_new w2 _
          have hh4 : (w2.alloc (.cells #[.int .u64 s0, .int .u64 s1, .int .u64 s2, .int .u64 s3] 25)).heap[w.heap.size]? = some (.cells zero8 27 (0, 0)) := (heap_alloc_old _ _ (by omega)).trans ((hb2.block _ (by omega)).trans HH4.out)
          have hh5 : (w2.alloc (.cells #[.int .u64 s0, .int .u64 s1, .int .u64 s2, .int .u64 s3] 25)).heap[g4]? = some (.cells #[.int .u64 r0, .int .u64 r1, .int .u64 r2, .int .u64 r3] 25 (0, 0)) := (heap_alloc_old _ _ (by omega)).trans ((hb2.block _ (by omega)).trans HH3.out)
          generalize w2.alloc (.cells #[.int .u64 s0, .int .u64 s1, .int .u64 s2, .int .u64 s3] 25) = W2 at hh1 hh2 hh3 hh4 hh5 ⊢
          rw [← hg7] at hh1 hh3 ⊢
          have hg7w : g4 < g7 := by omega
          have hg7s : g7 < W2.heap.size := by omega
          have G2 := Lib.hid hh4
          have G4 := Lib.hid hh5
          have G7 := Lib.hid hh3
          have BB := Lib.hid hh2
          clear hh1 hh2 hh3 hh4 hh5 hb2 hs1 hg7 hj HH1 HH2 HH3 HH4 HD2 HD1
          by_cases hm0 : m4 = 0
          case neg =>
            have hm0' : (0 : Int) < m4 := by omega
            have HM := Lib.hid hm0
            clear hm0
            go_wp2_with ((with_reducible refine wpList_store_row rfl _ (.tmp 2) (.tmp 66) rfl w.heap.size zero8 ?_ ?_ _ zero8 G2.out ?_ ?_ ?_ ?_); exact rfl; exact rfl; kernel_rfl; exact rfl; kernel_rfl; skip)
            (try simp only [Exit.inBlock, Exit.then])
            refine bodyPost_ret (results_cell1 rfl _ _ _ rfl (run_loadAgg (cs := zero8.toList) (by kernel_rfl) (by kernel_rfl) (setRow_heap _ _ _ _ _ _ G2.out) rfl)) rfl ?_
            exact ⟨.inr ⟨fun q => HM.out (HAll.out.1 q.all), rfl⟩, below_setRow BB.out (Nat.le_refl _) _⟩
          case pos =>
            subst hm0
            by_cases hrR : 0 < sigR bs ∧ sigR bs < fn
            case neg =>
              have hinR : ∀ W, Calls Tryd.prog 13 #[.agg #[.int .u64 r0, .int .u64 r1, .int .u64 r2, .int .u64 r3]] W fun en w' => en = .returned (.bool false) ∧ Below W.heap.size W w' := fun W => by
                have := HInR.out W
                rwa [decide_eq_false hrR] at this
              have HInR' := Lib.hid hinR
              have HNr := Lib.hid hrR
              clear hinR hrR
              go_wp2_with (first
                | ((with_reducible refine (show wpList _ _ _ ((⟨some 57, _, _, _, _, _⟩ : Oper) :: _) _ _ from ?_)); refine wpList_runw (by go_simp) (load_op (run_loadAtAgg (cs := [.int .u64 r0, .int .u64 r1, .int .u64 r2, .int .u64 r3]) (by kernel_rfl) (by kernel_rfl) G4.out rfl)) ?_)
                | (go_at_call 13; refine (HInR'.out _).mono ?_; rintro e w3 ⟨rfl, hb3⟩
                   have G2' := Lib.hid ((hb3.block _ (by omega)).trans G2.out))
                | ((with_reducible refine wpList_store_row rfl _ (.tmp 2) (.tmp 66) rfl w.heap.size zero8 ?_ ?_ _ zero8 G2'.out ?_ ?_ ?_ ?_); exact rfl; exact rfl; kernel_rfl; exact rfl; kernel_rfl; skip))
              (try simp only [Exit.inBlock, Exit.then])
              refine bodyPost_ret (results_cell1 rfl _ _ _ rfl (run_loadAgg (cs := zero8.toList) (by kernel_rfl) (by kernel_rfl) (setRow_heap _ _ _ _ _ _ G2'.out) rfl)) rfl ?_
              exact ⟨.inr ⟨fun q => HNr.out q.rR, rfl⟩, below_setRow (BB.out.trans (hb3.mono (by omega))) (Nat.le_refl _) _⟩
            case pos =>
              have hinR : ∀ W, Calls Tryd.prog 13 #[.agg #[.int .u64 r0, .int .u64 r1, .int .u64 r2, .int .u64 r3]] W fun en w' => en = .returned (.bool true) ∧ Below W.heap.size W w' := fun W => by
                have := HInR.out W
                rwa [decide_eq_true hrR] at this
              have HInR' := Lib.hid hinR
              have HRr := Lib.hid hrR
              clear hinR hrR
              by_cases hrS : 0 < sigS bs ∧ sigS bs < fn
              case neg =>
                have hinS : ∀ W, Calls Tryd.prog 13 #[.agg #[.int .u64 s0, .int .u64 s1, .int .u64 s2, .int .u64 s3]] W fun en w' => en = .returned (.bool false) ∧ Below W.heap.size W w' := fun W => by
                  have := HInS.out W
                  rwa [decide_eq_false hrS] at this
                have HInS' := Lib.hid hinS
                have HNs := Lib.hid hrS
                clear hinS hrS
                go_wp2_with (first
                  | ((with_reducible refine (show wpList _ _ _ ((⟨some 57, _, _, _, _, _⟩ : Oper) :: _) _ _ from ?_)); refine wpList_runw (by go_simp) (load_op (run_loadAtAgg (cs := [.int .u64 r0, .int .u64 r1, .int .u64 r2, .int .u64 r3]) (by kernel_rfl) (by kernel_rfl) G4.out rfl)) ?_)
                  | ((with_reducible refine (show wpList _ _ _ ((⟨some 62, _, _, _, _, _⟩ : Oper) :: _) _ _ from ?_)); refine wpList_runw (by go_simp) (load_op (run_loadAtAgg (cs := [.int .u64 s0, .int .u64 s1, .int .u64 s2, .int .u64 s3]) (by kernel_rfl) (by kernel_rfl) G7'.out rfl)) ?_)
                  | (go_at_call 13; with_reducible refine (HInR'.out _).mono ?_; rintro e w3 ⟨rfl, hb3⟩
                     have G2' := Lib.hid ((hb3.block _ (by omega)).trans G2.out)
                     have G7' := Lib.hid ((hb3.block _ (by omega)).trans G7.out)
                     have hs3 := hb3.size)
                  | (go_at_call 13; with_reducible refine (HInS'.out _).mono ?_; rintro e w4 ⟨rfl, hb4⟩
                     have G2'' := Lib.hid ((hb4.block _ (by omega)).trans G2'.out))
                  | ((with_reducible refine wpList_store_row rfl _ (.tmp 2) (.tmp 66) rfl w.heap.size zero8 ?_ ?_ _ zero8 G2''.out ?_ ?_ ?_ ?_); exact rfl; exact rfl; kernel_rfl; exact rfl; kernel_rfl; skip))
                (try simp only [Exit.inBlock, Exit.then])
                refine bodyPost_ret (results_cell1 rfl _ _ _ rfl (run_loadAgg (cs := zero8.toList) (by kernel_rfl) (by kernel_rfl) (setRow_heap _ _ _ _ _ _ G2''.out) rfl)) rfl ?_
                exact ⟨.inr ⟨fun q => HNs.out q.rS, rfl⟩, below_setRow ((BB.out.trans (hb3.mono (by omega))).trans (hb4.mono (by omega))) (Nat.le_refl _) _⟩
              case pos =>
                have hinS : ∀ W, Calls Tryd.prog 13 #[.agg #[.int .u64 s0, .int .u64 s1, .int .u64 s2, .int .u64 s3]] W fun en w' => en = .returned (.bool true) ∧ Below W.heap.size W w' := fun W => by
                  have := HInS.out W
                  rwa [decide_eq_true hrS] at this
                have HInS' := Lib.hid hinS
                have HRs := Lib.hid hrS
                clear hinS hrS
                go_wp2_with (first
                  | ((with_reducible refine (show wpList _ _ _ ((⟨some 57, _, _, _, _, _⟩ : Oper) :: _) _ _ from ?_)); refine wpList_runw (by go_simp) (load_op (run_loadAtAgg (cs := [.int .u64 r0, .int .u64 r1, .int .u64 r2, .int .u64 r3]) (by kernel_rfl) (by kernel_rfl) G4.out rfl)) ?_)
                  | ((with_reducible refine (show wpList _ _ _ ((⟨some 62, _, _, _, _, _⟩ : Oper) :: _) _ _ from ?_)); refine wpList_runw (by go_simp) (load_op (run_loadAtAgg (cs := [.int .u64 s0, .int .u64 s1, .int .u64 s2, .int .u64 s3]) (by kernel_rfl) (by kernel_rfl) G7'.out rfl)) ?_)
                  | ((with_reducible refine (show wpList _ _ _ ((⟨some 67, _, _, _, _, _⟩ : Oper) :: _) _ _ from ?_)); refine wpList_runw (by go_simp) (load_op (run_loadAtAgg (cs := [.int .u64 r0, .int .u64 r1, .int .u64 r2, .int .u64 r3]) (by kernel_rfl) (by kernel_rfl) G4''.out rfl)) ?_)
                  | ((with_reducible refine (show wpList _ _ _ ((⟨some 68, _, _, _, _, _⟩ : Oper) :: _) _ _ from ?_)); refine wpList_runw (by go_simp) (load_op (run_loadAtAgg (cs := [.int .u64 s0, .int .u64 s1, .int .u64 s2, .int .u64 s3]) (by kernel_rfl) (by kernel_rfl) G7''.out rfl)) ?_)
                  | (go_at_call 13; with_reducible refine (HInR'.out _).mono ?_; rintro e w3 ⟨rfl, hb3⟩
                     have G2' := Lib.hid ((hb3.block _ (by omega)).trans G2.out)
                     have G4' := Lib.hid ((hb3.block _ (by omega)).trans G4.out)
                     have G7' := Lib.hid ((hb3.block _ (by omega)).trans G7.out)
                     have hs3 := hb3.size)
                  | (go_at_call 13; with_reducible refine (HInS'.out _).mono ?_; rintro e w4 ⟨rfl, hb4⟩
                     have G2'' := Lib.hid ((hb4.block _ (by omega)).trans G2'.out)
                     have G4'' := Lib.hid ((hb4.block _ (by omega)).trans G4'.out)
                     have G7'' := Lib.hid ((hb4.block _ (by omega)).trans G7'.out))
                  | ((with_reducible refine wpList_store_row rfl _ (.tmp 2) (.tmp 69) rfl w.heap.size #[.int .u64 r0, .int .u64 r1, .int .u64 r2, .int .u64 r3, .int .u64 s0, .int .u64 s1, .int .u64 s2, .int .u64 s3] ?_ ?_ _ zero8 G2''.out ?_ ?_ ?_ ?_); exact rfl; exact rfl; kernel_rfl; exact rfl; kernel_rfl; skip))
                (try simp only [Exit.inBlock, Exit.then])
                refine bodyPost_ret (results_cell1 rfl _ _ _ rfl (run_loadAgg (cs := [.int .u64 r0, .int .u64 r1, .int .u64 r2, .int .u64 r3, .int .u64 s0, .int .u64 s1, .int .u64 s2, .int .u64 s3]) (by kernel_rfl) (by kernel_rfl) (setRow_heap _ _ _ _ _ _ G2''.out) rfl)) rfl ?_
                have hok : SigOk bs := by
                  have h1 := HP1.out
                  have h2 := HL.out
                  refine ⟨by omega, by omega, by rw [← HX0.out]; omega, by rw [← HX1.out]; omega, by rw [← HL2.out]; exact HN.out, HN2.out, HAll.out.2 (by trivial), HRr.out, HRs.out⟩
                refine ⟨.inl ⟨hok, ?_⟩, below_setRow ((BB.out.trans (hb3.mono (by omega))).trans (hb4.mono (by omega))) (Nat.le_refl _) _⟩
                rw [HDr.out, HDs.out]
                rfl

end Go.Proofs.YtfeancgmmonebaaDoor.Sx

/-
  ParseDERSignature over bytes. Conditions: none; each theorem bears its own.
-/
namespace Go.Proofs.YtfeancgmmonebaaDoor.Sx
open Go Go.Proofs Go.RowKit

theorem getD_drop (l : List Int) (k j : Nat) : (l.drop k).getD j 0 = l.getD (k + j) 0 := by simp [List.getD, List.getElem?_drop]

theorem sl3_getD (bs : List Int) (j : Nat) : (sl3 bs).getD j 0 = bs.getD (4 + sk1 bs + j) 0 := by
  unfold sl3
  rw [getD_drop, getD_drop]
  congr 1
  omega

theorem sigR_eq (bs : List Int) : sigR bs = be ((bs.drop 4).take (sk1 bs)) := by
  unfold sigR
  rw [List.drop_drop]

theorem sigS_eq (bs : List Int) : sigS bs = be ((bs.drop (4 + sk1 bs + 2)).take (sk2 bs)) := by
  unfold sigS sl3
  rw [List.drop_drop, List.drop_drop, show 2 + (2 + sk1 bs + 2) = 4 + sk1 bs + 2 by omega]

theorem bit_at {bs : List Int} (hd : Dg 8 bs) (j : Nat) : bit128 (bs.getD j 0) := bit128_of (hd.getD j).1 (hd.getD j).2

theorem addr_pos (a : Addr) {n : Nat} (h : 0 < n) : a.add n = ⟨a.block, a.off + n, none⟩ := by
  unfold Addr.add
  rw [if_neg (by omega)]

/-- The places of the bytes. -/
theorem derCells {w : World} {ad : Addr} {n : Nat} {bs : List Int} (hn : 8 ≤ n) (hr : Reads w w.heap.size (some ad) n (bs.map (Value.int .u8))) (hd : Dg 8 bs) :
    DerCells w ad n (sk1 bs) (sk2 bs) (bs.getD 0 0) (bs.getD 1 0) (bs.getD 2 0) (bs.getD 4 0) (bs.getD 5 0) (bs.getD (4 + sk1 bs) 0) (bs.getD (6 + sk1 bs) 0) (bs.getD (7 + sk1 bs) 0) := by
  have e1 : ((sk1 bs : Nat) : Int) = bs.getD 3 0 := by
    unfold sk1
    rw [getD_drop, show 2 + 1 = 3 from rfl]
    have := (hd.getD 3).1
    omega
  have e2 : ((sk2 bs : Nat) : Int) = bs.getD (5 + sk1 bs) 0 := by
    unfold sk2
    rw [sl3_getD, show 4 + sk1 bs + 1 = 5 + sk1 bs by omega]
    have := (hd.getD (5 + sk1 bs)).1
    omega
  refine ⟨?_, ?_, ?_, ?_, ?_, ?_, ?_, ?_, ?_, ?_, (hd.getD 1).1, (hd.getD 1).2, ?_, ?_⟩
  · have := hr.cell (j := 0) (by omega)
    rwa [show ad.add 0 = ad by unfold Addr.add; simp] at this
  · have := hr.cell (j := 1) (by omega)
    simpa [Addr.add] using this
  · have := hr.cell (j := 2) (by omega)
    simpa [Addr.add] using this
  · rw [e1]
    have := hr.cell (j := 3) (by omega)
    simpa [Addr.add] using this
  · have := hr.cell (j := 4) (by omega)
    simpa [Addr.add] using this
  · have := hr.cell (j := 5) (by omega)
    simpa [Addr.add] using this
  · intro h
    exact hr.cell h
  · intro h
    rw [e2]
    have := hr.cell h
    rw [addr_pos _ (by omega), show ad.off + (5 + sk1 bs) = ad.off + (4 + sk1 bs + 1) by omega] at this
    exact this
  · intro h
    have := hr.cell h
    rw [addr_pos _ (by omega), show ad.off + (6 + sk1 bs) = ad.off + (4 + sk1 bs + 1 + 1) by omega] at this
    exact this
  · intro h
    have := hr.cell h
    rw [addr_pos _ (by omega), show ad.off + (7 + sk1 bs) = ad.off + (4 + sk1 bs + 1 + 1 + 1) by omega] at this
    exact this
  · have := (hd.getD 3).2
    omega
  · have := (hd.getD (5 + sk1 bs)).2
    omega

theorem derAt_iff {bs : List Int} {n : Nat} (hl : bs.length = n) (h8 : 8 ≤ n) (h72 : n ≤ 72) (htot : n = 6 + sk1 bs + sk2 bs) (hr0 : 0 < sk1 bs) (hs0 : 0 < sk2 bs) (hd : Dg 8 bs) :
    DerAt n (sk1 bs) (sk2 bs) (bs.getD 0 0) (bs.getD 1 0) (bs.getD 2 0) (bs.getD 4 0) (bs.getD 5 0) (bs.getD (4 + sk1 bs) 0) (bs.getD (6 + sk1 bs) 0) (bs.getD (7 + sk1 bs) 0) (sigR bs) (sigS bs) ↔ SigOk bs := by
  have e1 : ((sk1 bs : Nat) : Int) = (bs.drop 2).getD 1 0 := by
    have := (Dg.getD (w := 8) (fun x hx => hd x (List.mem_of_mem_drop hx) : Dg 8 (bs.drop 2)) 1).1
    unfold sk1
    omega
  have e2 : ((sk2 bs : Nat) : Int) = (sl3 bs).getD 1 0 := by
    have := (Dg.getD (w := 8) (fun x hx => hd x (List.mem_of_mem_drop (List.mem_of_mem_drop hx)) : Dg 8 (sl3 bs)) 1).1
    unfold sk2
    omega
  have l3 : (sl3 bs).length = 2 + sk2 bs := by unfold sl3; simp; omega
  have f2 : (bs.drop 2).getD 0 0 = bs.getD 2 0 := getD_drop bs 2 0
  have f4 : (bs.drop 2).getD 2 0 = bs.getD 4 0 := getD_drop bs 2 2
  have f5 : (bs.drop 2).getD 3 0 = bs.getD 5 0 := getD_drop bs 2 3
  have g0 : (sl3 bs).getD 0 0 = bs.getD (4 + sk1 bs) 0 := sl3_getD bs 0
  have g2 : (sl3 bs).getD 2 0 = bs.getD (6 + sk1 bs) 0 := by rw [sl3_getD]; congr 1; omega
  have g3 : (sl3 bs).getD 3 0 = bs.getD (7 + sk1 bs) 0 := by rw [sl3_getD]; congr 1; omega
  have t1 : ((bs.drop 2).getD 1 0).toNat = sk1 bs := rfl
  have t2 : ((sl3 bs).getD 1 0).toNat = sk2 bs := rfl
  have b1 : be (((bs.drop 2).drop 2).take (sk1 bs)) = sigR bs := rfl
  have b2 : be (((sl3 bs).drop 2).take (sk2 bs)) = sigS bs := rfl
  have hfn : fn < 2 ^ 256 := by decide
  constructor
  · rintro ⟨a0, a1, a2, a3, a4, a5, a6, a7, a8, a9, a10, a11, a12, a13, a14⟩
    refine ⟨by omega, by omega, a0, by omega, ⟨by simp; omega, by rw [f2]; exact a2, by rw [← e1]; omega, by rw [← e1]; simp; omega, by rw [f4]; exact a6, by rw [← e1, f4, f5]; omega, ?_⟩, ⟨by omega, by rw [g0]; exact a3, by rw [← e2]; omega, by rw [← e2]; omega, by rw [g2]; exact a9, by rw [← e2, g2, g3]; omega, ?_⟩, l3, ⟨a11, a12⟩, ⟨a13, a14⟩⟩
    · rw [t1, b1]
      omega
    · rw [t2, b2]
      omega
  · intro q
    have d1 := q.d1
    have d2 := q.d2
    have p1 := d1.pad
    have p2 := d2.pad
    rw [← e1, f4, f5] at p1
    rw [← e2, g2, g3] at p2
    refine ⟨q.x0, by rw [q.x1, hl], by rw [← f2]; exact d1.x0, by rw [← g0]; exact d2.x0, htot, hr0, by rw [← f4]; exact d1.y0, by omega, hs0, by rw [← g2]; exact d2.y0, by omega, q.rR.1, q.rR.2, q.rS.1, q.rS.2⟩

theorem sigOk_fit {bs : List Int} {n : Nat} (hl : bs.length = n) (hd : Dg 8 bs) (q : SigOk bs) : n = 6 + sk1 bs + sk2 bs ∧ 0 < sk1 bs ∧ 0 < sk2 bs := by
  have e1 : ((sk1 bs : Nat) : Int) = (bs.drop 2).getD 1 0 := by
    have := (Dg.getD (w := 8) (fun x hx => hd x (List.mem_of_mem_drop hx) : Dg 8 (bs.drop 2)) 1).1
    unfold sk1
    omega
  have e2 : ((sk2 bs : Nat) : Int) = (sl3 bs).getD 1 0 := by
    have := (Dg.getD (w := 8) (fun x hx => hd x (List.mem_of_mem_drop (List.mem_of_mem_drop hx)) : Dg 8 (sl3 bs)) 1).1
    unfold sk2
    omega
  have h1 := q.d1.x1
  have h2 := q.d2.x1
  have h3 := q.d1.fit
  have h4 := q.d2.len
  have h5 := q.all
  rw [← e1] at h1 h3
  rw [← e2] at h2
  have h6 : (sl3 bs).length = n - 2 - (2 + sk1 bs) := by unfold sl3; simp; omega
  simp at h3
  omega

theorem parse_der (n c : Nat) (bs : List Int) (A : Option Addr) (w : World) (hn : n < 2147483648) (hc : n ≤ c) (hr : Reads w w.heap.size A n (bs.map (Value.int .u8))) (hd : Dg 8 bs) :
    Calls Tryd.prog 21 #[.slice A n c] w (DerPost (SigOk bs) (sigR bs) (sigS bs) w) := by
  have hl : bs.length = n := by have h : (bs.map (Value.int .u8)).length = n := hr.1; simpa using h
  by_cases h8 : n < 8 ∨ 72 < n
  · refine (der_short n c A w (by omega)).mono ?_
    rintro e w' ⟨⟨t, x, rfl⟩, hb⟩
    exact ⟨.inr ⟨fun q => by have := q.n8; have := q.n72; omega, t, x, rfl⟩, hb⟩
  · obtain ⟨ad, rfl, _, _⟩ := hr.2 (by omega)
    have C := derCells (by omega) hr hd
    by_cases hfit : n = 6 + sk1 bs + sk2 bs ∧ 0 < sk1 bs ∧ 0 < sk2 bs
    · have hR : Rest w w.heap.size (.slice (some (ad.add 4)) (sk1 bs) (c - 4)) (sigR bs) := by
        refine ⟨some (ad.add 4), sk1 bs, c - 4, (bs.drop 4).take (sk1 bs), rfl, by omega, by omega, ?_, fun x hx => hd x (List.mem_of_mem_drop (List.mem_of_mem_take hx)), (sigR_eq bs).symm⟩
        rw [List.map_take, List.map_drop]
        exact (hr.drop 4).take (by omega)
      have hS : Rest w w.heap.size (.slice (some (ad.add (4 + sk1 bs + 2))) (sk2 bs) (c - (4 + sk1 bs + 2))) (sigS bs) := by
        refine ⟨some (ad.add (4 + sk1 bs + 2)), sk2 bs, c - (4 + sk1 bs + 2), (bs.drop (4 + sk1 bs + 2)).take (sk2 bs), rfl, by omega, by omega, ?_, fun x hx => hd x (List.mem_of_mem_drop (List.mem_of_mem_take hx)), (sigS_eq bs).symm⟩
        rw [List.map_take, List.map_drop]
        exact (hr.drop (4 + sk1 bs + 2)).take (by omega)
      refine (der_main n c (sk1 bs) (sk2 bs) ad w _ _ _ _ _ _ _ _ (sigR bs) (sigS bs) C (by omega) (by omega) hc hfit.1 hfit.2.1 hfit.2.2 (bit_at hd _) (bit_at hd _) (bit_at hd _) (bit_at hd _) hR hS).mono ?_
      rintro e w' ⟨h, hb⟩
      rw [derAt_iff hl (by omega) (by omega) hfit.1 hfit.2.1 hfit.2.2 hd] at h
      exact ⟨h, hb⟩
    · refine (der_bad n c (sk1 bs) (sk2 bs) ad w _ _ _ _ _ _ _ _ C (by omega) (by omega) (by omega)).mono ?_
      rintro e w' ⟨⟨t, x, rfl⟩, hb⟩
      exact ⟨.inr ⟨fun q => hfit (sigOk_fit hl hd q), t, x, rfl⟩, hb⟩

end Go.Proofs.YtfeancgmmonebaaDoor.Sx

/-
  A region of which the kit's walk stands at the head, run by the executor with what follows it. Conditions: none; each theorem bears its own.
-/
namespace Go.Proofs.YtfeancgmmonebaaDoor.Sx
open Go Go.Proofs Go.RowKit

def ekRet : EK → Bool
  | .ret => true
  | _ => false

def tailRunS (P : Program) (Γ : List Entry) (t : Tail) (c1 c2 : Code) (rs : List ResultVar) (res : List RSh) : Option (List Need × List Path) :=
  if t.ok then
    match exec P Γ 4000 c1 t.st with
    | some (n1, ss) => match thenAll (exec P Γ 4000 c2) ss with
      | some (n2, outs) => if outs.all (fun x => ekRet x.1) then match tailPaths P rs res outs with
        | some ps => some (n1 ++ n2, ps)
        | none => none
        else none
      | none => none
    | none => none
  else none

theorem tail_seq {P : Program} {Γ : List Entry} (hmix : P.follows .mixedOrders = true) (hΓ : ∀ e ∈ Γ, Meets P e) {t : Tail} {c1 c2 : Code} {fn : Func} {res : List RSh} {nds : List Need} {ps : List Path}
    (h : tailRunS P Γ t c1 c2 fn.results.toList res = some (nds, ps)) {base : List Int} {bs : List (Nat × Nat)} (hb : base.length = t.n) (hbs : bs.length = t.mem.length) (hn : ∀ nd ∈ nds, nd.holds Γ base) {a : Act} (ha : a.tmps.size = t.nt) (hd : a.defers = [])
    (hs : slotsOk ⟨base, bs⟩ a.tmps t.slots) {w : World} (hm : MemOk w ⟨base, bs⟩ t.mem) (hdis : Dis ⟨base, bs⟩ t.mem) {R : Ending → World → Prop} {K : Act → World → Prop} {Q' : Exit → Act → World → Prop} (hK : ∀ a w, c2.wp P Q' a w → K a w) (hQ : ∀ a w, bodyPost P fn R .ret a w → Q' .ret a w)
    (hR : ∀ p ∈ ps, asmHolds (runR Γ p.defs base) p.asm → ∀ w', Fr (WOf ⟨base, bs⟩ t.mem) w w' → R (.returned (resV res (p.outs.map (·.val (runR Γ p.defs base))))) w') :
    c1.wp P (Exit.then K Q') a w := by
  unfold tailRunS at h
  split at h
  case isFalse => cases h
  rename_i hok
  split at h
  case h_2 => cases h
  rename_i n1 ss hrun
  split at h
  case h_2 => cases h
  rename_i n2 outs hex
  split at h
  case isFalse => cases h
  rename_i hall
  split at h
  case h_2 => cases h
  rename_i ps' hps
  simp only [Option.some.injEq, Prod.mk.injEq] at h
  obtain ⟨rfl, rfl⟩ := h
  have hret : ∀ x ∈ outs, x.1 = .ret := fun x hx => by
    have := List.all_eq_true.1 hall x hx
    cases hk : x.1 <;> simp [hk, ekRet] at this <;> rfl
  have hend : ∀ x ∈ outs, ∀ ρ' a' w', RelA Γ base ρ' x.2 a' → RelM (WOf ⟨base, bs⟩ t.mem) w bs ρ' x.2 w' → Q' x.1.ex a' w' := fun x hx ρ' a' w' hA hM => by
    have h1 := tail_end hps hR x hx ρ' a' w' hA hM
    rw [hret x hx] at h1 ⊢
    exact hQ _ _ h1
  refine exec_sound hmix hΓ 4000 c1 _ t.st ⟨base, bs⟩ a w n1 ss hrun (fun nd hnd => hn nd (by simp [hnd])) (Tail.relA hok hb hbs ha hd hs) (Tail.relM hok hm hdis) fun x hx ρ' a' w' hA hM => ?_
  rcases thenAll_spec hex x hx with ⟨hx1, n3, o3, g1, g2, g3⟩ | ⟨hne, hmem⟩
  · rw [hx1]
    exact hK _ _ (exec_sound hmix hΓ 4000 c2 _ x.2 ρ' a' w' n3 o3 g1 (fun nd hnd => hn nd (by simp [g2 nd hnd])) hA hM fun y hy => hend y (g3 y hy))
  · have h1 := hend x hmem ρ' a' w' hA hM
    rw [hret x hmem] at h1 ⊢
    exact h1

end Go.Proofs.YtfeancgmmonebaaDoor.Sx

/-
  A signature's numbers, and impl.ReadSignature. Conditions: none; each theorem bears its own.
-/
namespace Go.Proofs.YtfeancgmmonebaaDoor.Sx
open Go Go.Proofs Go.RowKit

/-- The 32 bytes of a number. -/
def byt (V : Int) : List Int := (dig 8 32 V).reverse
theorem byt_length (V : Int) : (byt V).length = 32 := by simp [byt, dig_length]

theorem vars_at {A l B E : List Int} {i n : Nat} (hE : E = A ++ (l ++ B)) (ha : A.length = i) (hl : l.length = n) : (vars i n).map (·.val E) = l := by
  rw [vars_val, hE, List.drop_left' ha, fit_append hl]

theorem sigR_F (R S : Int) : e_sigR.F (dig 32 8 R ++ dig 32 8 S) = dig 32 8 R := by
  obtain ⟨x0, x1, x2, x3, x4, x5, x6, x7, hx⟩ := len8 (dig_length 32 8 R)
  obtain ⟨y0, y1, y2, y3, y4, y5, y6, y7, hy⟩ := len8 (dig_length 32 8 S)
  rw [hx, hy]
  rfl

theorem sigS_F (R S : Int) : e_sigS.F (dig 32 8 R ++ dig 32 8 S) = dig 32 8 S := by
  obtain ⟨x0, x1, x2, x3, x4, x5, x6, x7, hx⟩ := len8 (dig_length 32 8 R)
  obtain ⟨y0, y1, y2, y3, y4, y5, y6, y7, hy⟩ := len8 (dig_length 32 8 S)
  rw [hx, hy]
  rfl

theorem p_numbers_eq : p_numbers = ⟨[.app 2 (vars 24 8) 32, .app 2 (vars 16 8) 32, .app 1 (vars 0 16) 8, .app 0 (vars 0 16) 8], [], vars 32 64⟩ := by kernel_rfl

theorem numbers_F {R S : Int} (r0 : 0 ≤ R) (r1 : R < 2 ^ 256) (s0 : 0 ≤ S) (s1 : S < 2 ^ 256) : e_numbers.F (dig 32 8 R ++ dig 32 8 S) = byt R ++ byt S := by
  have l1 := dig_length 32 8 R
  have l2 := dig_length 32 8 S
  obtain ⟨E, hE⟩ : ∃ E, E = dig 32 8 R ++ dig 32 8 S := ⟨_, rfl⟩
  have lE : E.length = 16 := by rw [hE]; simp [dig_length]
  show p_numbers.out G_numbers _ = _
  rw [p_numbers_eq, ← hE]
  show (vars 32 64).map (·.val (runR G_numbers [.app 2 (vars 24 8) 32, .app 2 (vars 16 8) 32, .app 1 (vars 0 16) 8, .app 0 (vars 0 16) 8] E)) = _
  have t1 : runR G_numbers [.app 0 (vars 0 16) 8] E = E ++ dig 32 8 R := by
    show E ++ fit 8 (e_sigR.F ((vars 0 16).map (·.val E))) = _
    rw [vars_at (E := E) (i := 0) (A := []) (l := E) (B := []) (by simp) rfl lE, hE, sigR_F, fit_eq l1]
  have t2 : runR G_numbers [.app 1 (vars 0 16) 8, .app 0 (vars 0 16) 8] E = (E ++ dig 32 8 R) ++ dig 32 8 S := by
    show runR G_numbers [.app 0 (vars 0 16) 8] E ++ fit 8 (e_sigS.F ((vars 0 16).map (·.val (runR G_numbers [.app 0 (vars 0 16) 8] E)))) = _
    rw [t1, vars_at (E := E ++ dig 32 8 R) (i := 0) (A := []) (l := E) (B := dig 32 8 R) (by simp) rfl lE, hE, sigS_F, fit_eq l2]
  have t3 : runR G_numbers [.app 2 (vars 16 8) 32, .app 1 (vars 0 16) 8, .app 0 (vars 0 16) 8] E = ((E ++ dig 32 8 R) ++ dig 32 8 S) ++ byt R := by
    show runR G_numbers [.app 1 (vars 0 16) 8, .app 0 (vars 0 16) 8] E ++ fit 32 (e_sbytes.F ((vars 16 8).map (·.val (runR G_numbers [.app 1 (vars 0 16) 8, .app 0 (vars 0 16) 8] E)))) = _
    rw [t2, vars_at (A := E) (l := dig 32 8 R) (B := dig 32 8 S) (by simp) lE l1, sbytes_spec r0 r1]
    exact congrArg _ (fit_eq (byt_length R))
  have t4 : runR G_numbers [.app 2 (vars 24 8) 32, .app 2 (vars 16 8) 32, .app 1 (vars 0 16) 8, .app 0 (vars 0 16) 8] E = (((E ++ dig 32 8 R) ++ dig 32 8 S) ++ byt R) ++ byt S := by
    show runR G_numbers [.app 2 (vars 16 8) 32, .app 1 (vars 0 16) 8, .app 0 (vars 0 16) 8] E ++ fit 32 (e_sbytes.F ((vars 24 8).map (·.val (runR G_numbers [.app 2 (vars 16 8) 32, .app 1 (vars 0 16) 8, .app 0 (vars 0 16) 8] E)))) = _
    rw [t3, vars_at (A := E ++ dig 32 8 R) (l := dig 32 8 S) (B := byt R) (by simp) (by simp [lE, l1]) l2, sbytes_spec s0 s1]
    exact congrArg _ (fit_eq (byt_length S))
  rw [t4]
  exact vars_at (A := (E ++ dig 32 8 R) ++ dig 32 8 S) (l := byt R ++ byt S) (B := []) (by simp) (by simp [lE, l1, l2]) (by simp [byt_length])

theorem agg_tup {x y : List Int} (nb : List (Nat × Nat)) {pre E : List Int} {n : Nat} (hE : E = pre ++ (x ++ y)) (hn : pre.length = n) (hx : x.length = 32) (hy : y.length = 32) :
    (SV.tup [.agg (kcells n (List.replicate 32 (some .u8))), .agg (kcells (n + 32) (List.replicate 32 (some .u8)))]).den ⟨E, nb⟩ = .tuple #[.agg (x.map (Value.int .u8)).toArray, .agg (y.map (Value.int .u8)).toArray] := by
  have h1 := kcells_at .u8 nb x pre y E n 32 hE hn hx
  have h2 := kcells_at .u8 nb y (pre ++ x) [] E (n + 32) 32 (by simp [hE]) (by simp [hn, hx]) hy
  simp only [SV.den, S1.den, List.map, h1, h2]

/-- The numbers of a signature in memory. -/
theorem c_numbers {b o : Nat} {R S : Int} {w : World} (r0 : 0 ≤ R) (r1 : R < 2 ^ 256) (s0 : 0 ≤ S) (s1 : S < 2 ^ 256) (hc : ∀ (j : Nat) v, ((dig 32 8 R ++ dig 32 8 S).map (Value.int .u32))[j]? = some v → w.cell? ⟨b, o + j, none⟩ = some v) :
    Calls Tryd.prog 22 #[.pointer (some ⟨b, o, none⟩)] w fun en w' => en = .returned (.tuple #[.agg ((byt R).map (Value.int .u8)).toArray, .agg ((byt S).map (Value.int .u8)).toArray]) ∧ Below w.heap.size w w' := by
  have hl : (dig 32 8 R ++ dig 32 8 S).length = 16 := by simp [dig_length]
  refine (m_numbers.calls (by kernel_rfl) (base := dig 32 8 R ++ dig 32 8 S) (bs := [(b, o)]) (w := w) (by rw [hl]; rfl) rfl (fun h => by cases h) ?_ ?_).mono ?_
  · intro k so hso
    match k with
    | 0 =>
      obtain rfl := Option.some.inj hso
      have hk := kcells_at .u32 [(b, o)] (dig 32 8 R ++ dig 32 8 S) [] [] (dig 32 8 R ++ dig 32 8 S) 0 16 (by simp) rfl hl
      refine ⟨?_, fun j c hj => ?_, fun h => by cases h⟩
      · obtain ⟨x0, x1, x2, x3, x4, x5, x6, x7, hx⟩ := len8 (dig_length 32 8 R)
        have := hc 0 (.int .u32 x0) (by rw [hx]; rfl)
        exact World.block_lt_of_cell? _ _ this
      · exact hc j _ (by rw [← hk, List.getElem?_map, hj]; rfl)
    | k + 1 => cases hso
  · intro k k' so so' hoo h1 h2 h3
    match k, k' with
    | 0, 0 => exact absurd rfl hoo
    | k + 1, _ => cases h1
    | _, k' + 1 => cases h2
  · rintro en w' ⟨nb, hnb, _, _, hen, _, hfr⟩
    refine ⟨?_, hfr.below (Nat.le_refl _) ?_⟩
    · have hE : e_numbers.env (dig 32 8 R ++ dig 32 8 S) [(b, o)] nb = ⟨(dig 32 8 R ++ dig 32 8 S) ++ (byt R ++ byt S), [(b, o)] ++ nb⟩ := by
        unfold Entry.env
        rw [numbers_F r0 r1 s0 s1]
        show (⟨_ ++ fit 64 _, _⟩ : En) = _
        rw [fit_eq (by simp [byt_length])]
      rw [hE] at hen
      rw [hen]
      exact congrArg Ending.returned (agg_tup _ rfl hl (byt_length R) (byt_length S))
    · rintro k j hk ⟨q, so, hso, hw, _⟩
      match q with
      | 0 =>
        obtain rfl := Option.some.inj hso
        cases hw
      | q + 1 => cases hso

end Go.Proofs.YtfeancgmmonebaaDoor.Sx
