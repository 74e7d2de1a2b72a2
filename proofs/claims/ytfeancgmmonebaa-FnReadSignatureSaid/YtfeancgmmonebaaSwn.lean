/-
  impl.ReadSignature. Conditions: none; each theorem bears its own.
-/
import Derived.Test.YtfeancgmmonebaaSwm
import Derived.Test.YtfeancgmmonebaaSzp
namespace Go.Proofs.Ytfeancgmmonebaa.Sx
open Go Go.Proofs Go.RowKit

def ImplSig (w : World) (bs : List Int) (e : Ending) (w' : World) : Prop :=
  ((SigOk bs ∧ e = .returned (.tuple #[.agg ((byt (sigR bs)).map (Value.int .u8)).toArray, .agg ((byt (sigS bs)).map (Value.int .u8)).toArray, .int .i64 0])) ∨
    (¬ SigOk bs ∧ e = .returned (.tuple #[.agg zero32, .agg zero32, .int .i64 1]))) ∧ Below w.heap.size w w'

def t_rsbad : Tail := { n := 0, nt := 23, slots := [(2, .one (.sc (.ptr 0 0))), (3, .one (.sc (.ptr 1 0)))], mem := [⟨List.replicate 32 (.int .u8 (.lit 0)), true⟩, ⟨List.replicate 32 (.int .u8 (.lit 0)), true⟩] }
def p_rsbad : Path := ⟨[], [], List.replicate 64 (.lit 0) ++ [.lit 1]⟩

def t_rsok : Tail := { n := 64, nt := 23, slots := [(2, .one (.sc (.ptr 0 0))), (3, .one (.sc (.ptr 1 0))), (18, .tup [.agg (kcells 0 (List.replicate 32 (some .u8))), .agg (kcells 32 (List.replicate 32 (some .u8)))])], mem := [⟨List.replicate 32 (.int .u8 (.lit 0)), true⟩, ⟨List.replicate 32 (.int .u8 (.lit 0)), true⟩] }
def p_rsok : Path := ⟨[], [], vars 0 64 ++ [.lit 0]⟩

theorem resV_two {x y : List Int} {z : Int} (hx : x.length = 32) (hy : y.length = 32) :
    resV [.agg (List.replicate 32 (some .u8)), .agg (List.replicate 32 (some .u8)), .int .i64] ((x ++ y) ++ [z]) = .tuple #[.agg (x.map (Value.int .u8)).toArray, .agg (y.map (Value.int .u8)).toArray, .int .i64 z] := by
  have h1 := kcells_at .u8 [] x [] (y ++ [z]) ((x ++ y) ++ [z]) 0 32 (by simp) rfl hx
  have h2 := kcells_at .u8 [] y x [z] ((x ++ y) ++ [z]) 32 32 (by simp) hx hy
  show Value.tuple (List.map (S1.den ⟨(x ++ y) ++ [z], []⟩) [.agg (kcells 0 (List.replicate 32 (some .u8))), .agg (kcells 32 (List.replicate 32 (some .u8))), .sc (.int .i64 (.var 64))]).toArray = _
  simp only [List.map, S1.den, h1, h2]
  show Value.tuple #[_, _, .int .i64 (List.getD ((x ++ y) ++ [z]) 64 0)] = _
  rw [List.getD, List.getElem?_append_right (by simp [hx, hy])]
  simp [hx, hy]

set_option maxRecDepth 100000 in
theorem impl_readsig (n c : Nat) (bs : List Int) (A : Option Addr) (w : World) (hn : n < 2147483648) (hc : n ≤ c) (hr : Reads w w.heap.size A n (bs.map (Value.int .u8))) (hd : Dg 8 bs) :
    Calls Try.prog 12 #[.slice A n c] w (ImplSig w bs) := by
  obtain ⟨W0, hW0⟩ : ∃ W0, W0 = (w.alloc (.cells zero32 24)).alloc (.cells zero32 24) := ⟨_, rfl⟩
  have hWs : W0.heap.size = w.heap.size + 2 := by rw [hW0]; simp
  have hWb : Below w.heap.size w W0 := by rw [hW0]; exact ((Below.refl _ _).alloc (Nat.le_refl _) _).alloc (by simp) _
  have hg0 : W0.heap[w.heap.size]? = some (.cells zero32 24 (0, 0)) := by
    rw [hW0]
    exact (heap_alloc_old _ _ (by simp)).trans (heap_alloc_new w _)
  have hg1 : W0.heap[w.heap.size + 1]? = some (.cells zero32 24 (0, 0)) := by
    have h := heap_alloc_new (w.alloc (.cells zero32 24)) (.cells zero32 24)
    rw [show (w.alloc (.cells zero32 24)).heap.size = w.heap.size + 1 by simp] at h
    rw [hW0]
    exact h
  have hP := parse_der n c bs A W0 hn hc ((hr.below hWb).more (by omega)) hd
  have HW0 := Lib.hid hW0
  have HWs := Lib.hid hWs
  have HWb := Lib.hid hWb
  have HG0 := Lib.hid hg0
  have HG1 := Lib.hid hg1
  clear hW0 hWs hWb hg0 hg1 hr
  by_cases hok : SigOk bs
  case neg =>
    have hP1 := hP.mono (R' := fun e w' => (∃ t x, e = .returned (.tuple #[.pointer none, .iface t x])) ∧ Below W0.heap.size W0 w') fun e w' h => ⟨h.1.elim (fun q => absurd q.1 hok) (fun q => q.2), h.2⟩
    have HP := Lib.hid hP1
    have HN := Lib.hid hok
    clear hP hP1 hok
    go_enter Try.func12, Try.ntmps12
    go_upto_region 3 with (go_at_call 26; refine Calls.mono (by have := HW0.out; subst this; exact HP.out) ?_; rintro e w1 ⟨⟨t, x, rfl⟩, hb1⟩)
    rw [← HW0.out] at hb1
    rename_i K1 hK1 K hK
    have hws := HWs.out
    have g0 : w1.heap[w.heap.size]? = some (.cells zero32 24 (0, 0)) := (hb1.block _ (by omega)).trans HG0.out
    have g1 : w1.heap[w.heap.size + 1]? = some (.cells zero32 24 (0, 0)) := (hb1.block _ (by omega)).trans HG1.out
    refine tail_seq mixed (Γ := []) (fun e he => by cases he) (t := t_rsbad) (res := [.agg (List.replicate 32 (some .u8)), .agg (List.replicate 32 (some .u8)), .int .i64]) (nds := []) (ps := [p_rsbad]) (by kernel_rfl)
      (base := []) (bs := [(w.heap.size, 0), (w.heap.size + 1, 0)]) rfl rfl (fun _ h => by cases h) rfl rfl ⟨rfl, rfl, trivial⟩ ?_ ?_ hK (fun a w h => h) ?_
    · intro o so hso
      match o with
      | 0 =>
        obtain rfl := Option.some.inj hso
        exact ObjOk.whole (cs := zero32.toList) g0 rfl rfl rfl
      | 1 =>
        obtain rfl := Option.some.inj hso
        exact ObjOk.whole (cs := zero32.toList) g1 rfl rfl rfl
      | o + 2 => cases hso
    · intro o o' so so' hoo h1 h2 h3
      match o, o' with
      | 0, 1 => exact .inl (by show w.heap.size ≠ w.heap.size + 1; omega)
      | 1, 0 => exact .inl (by show w.heap.size + 1 ≠ w.heap.size; omega)
      | 0, 0 => exact absurd rfl hoo
      | 1, 1 => exact absurd rfl hoo
      | o + 2, _ => cases h1
      | _, o' + 2 => cases h2
    · intro p hp _ w' hfr
      obtain rfl : p = p_rsbad := by simpa using hp
      refine ⟨.inr ⟨HN.out, rfl⟩, ?_⟩
      have h1 : Below w.heap.size w1 w' := hfr.below (by have := hb1.size; omega) fun k j hk ⟨o, so, hso, hw, hk', _⟩ => by
        match o with
        | 0 => have : w.heap.size = k := hk'; omega
        | 1 => have : w.heap.size + 1 = k := hk'; omega
        | o + 2 => cases hso
      exact (HWb.out.trans (hb1.mono (by omega))).trans h1
  case pos =>
    have rb : 0 ≤ sigR bs ∧ sigR bs < 2 ^ 256 := ⟨Int.le_of_lt hok.rR.1, Int.lt_trans hok.rR.2 fn_lt⟩
    have sb : 0 ≤ sigS bs ∧ sigS bs < 2 ^ 256 := ⟨Int.le_of_lt hok.rS.1, Int.lt_trans hok.rS.2 fn_lt⟩
    have hP1 := hP.mono (R' := fun e w' => (∃ b o, e = .returned (.tuple #[.pointer (some ⟨b, o, none⟩), .nilIface]) ∧ W0.heap.size ≤ b ∧ ∀ (j : Nat) v, ((dig 32 8 (sigR bs) ++ dig 32 8 (sigS bs)).map (Value.int .u32))[j]? = some v → w'.cell? ⟨b, o + j, none⟩ = some v) ∧ Below W0.heap.size W0 w') fun e w' h => ⟨h.1.elim (fun q => q.2) (fun q => absurd hok q.1), h.2⟩
    have HP := Lib.hid hP1
    have HN := Lib.hid hok
    have HRb := Lib.hid rb
    have HSb := Lib.hid sb
    clear hP hP1 hok rb sb
    go_enter Try.func12, Try.ntmps12
    go_wp2_with (first
      | (go_at_call 26; refine Calls.mono (by have := HW0.out; subst this; exact HP.out) ?_; rintro e w1 ⟨⟨b, o, rfl, hbl, hcells⟩, hb1⟩
         have HCl := Lib.hid hcells
         clear hcells)
      | (go_at_call 27; refine (c_numbers HRb.out.1 HRb.out.2 HSb.out.1 HSb.out.2 HCl.out).mono ?_; rintro e w2 ⟨rfl, hb2⟩; refine Halt.of ?_))
    rename_i K1 hK1 K hK
    show K _ _
    refine hK _ _ ?_
    rw [← HW0.out] at hb1 hbl
    have hws := HWs.out
    have hz1 := hb1.size
    have g0 : w2.heap[w.heap.size]? = some (.cells zero32 24 (0, 0)) := (hb2.block _ (by omega)).trans ((hb1.block _ (by omega)).trans HG0.out)
    have g1 : w2.heap[w.heap.size + 1]? = some (.cells zero32 24 (0, 0)) := (hb2.block _ (by omega)).trans ((hb1.block _ (by omega)).trans HG1.out)
    have hl : (byt (sigR bs) ++ byt (sigS bs)).length = 64 := by simp [byt_length]
    have ht := agg_tup [(w.heap.size, 0), (w.heap.size + 1, 0)] (x := byt (sigR bs)) (y := byt (sigS bs)) (E := byt (sigR bs) ++ byt (sigS bs)) (pre := []) (n := 0) rfl rfl (byt_length _) (byt_length _)
    refine tail_list mixed (Γ := []) (fun e he => by cases he) (t := t_rsok) (res := [.agg (List.replicate 32 (some .u8)), .agg (List.replicate 32 (some .u8)), .int .i64]) (nds := []) (ps := [p_rsok]) (by kernel_rfl)
      (base := byt (sigR bs) ++ byt (sigS bs)) (bs := [(w.heap.size, 0), (w.heap.size + 1, 0)]) hl rfl (fun _ h => by cases h) rfl rfl ⟨rfl, rfl, (by exact congrArg some ht.symm), trivial⟩ ?_ ?_ hK1 ?_
    · intro o so hso
      match o with
      | 0 =>
        obtain rfl := Option.some.inj hso
        exact ObjOk.whole (cs := zero32.toList) g0 rfl rfl rfl
      | 1 =>
        obtain rfl := Option.some.inj hso
        exact ObjOk.whole (cs := zero32.toList) g1 rfl rfl rfl
      | o + 2 => cases hso
    · intro o o' so so' hoo h1 h2 h3
      match o, o' with
      | 0, 1 => exact .inl (by show w.heap.size ≠ w.heap.size + 1; omega)
      | 1, 0 => exact .inl (by show w.heap.size + 1 ≠ w.heap.size; omega)
      | 0, 0 => exact absurd rfl hoo
      | 1, 1 => exact absurd rfl hoo
      | o + 2, _ => cases h1
      | _, o' + 2 => cases h2
    · intro p hp _ w' hfr
      obtain rfl : p = p_rsok := by simpa using hp
      refine ⟨.inl ⟨HN.out, ?_⟩, ?_⟩
      · have ho : p_rsok.outs.map (·.val (runR [] p_rsok.defs (byt (sigR bs) ++ byt (sigS bs)))) = (byt (sigR bs) ++ byt (sigS bs)) ++ [0] := by
          show (vars 0 64 ++ [SI.lit 0]).map (·.val (byt (sigR bs) ++ byt (sigS bs))) = _
          rw [List.map_append, vars_at (E := byt (sigR bs) ++ byt (sigS bs)) (i := 0) (A := []) (l := byt (sigR bs) ++ byt (sigS bs)) (B := []) (by simp) rfl hl]
          rfl
        rw [ho]
        exact congrArg Ending.returned (resV_two (byt_length _) (byt_length _))
      · have h1 : Below w.heap.size w2 w' := hfr.below (by have := hb2.size; omega) fun k j hk ⟨o, so, hso, hw, hk', _⟩ => by
          match o with
          | 0 => have : w.heap.size = k := hk'; omega
          | 1 => have : w.heap.size + 1 = k := hk'; omega
          | o + 2 => cases hso
        exact (HWb.out.trans ((hb1.trans (hb2.mono hz1)).mono (by omega))).trans h1

end Go.Proofs.Ytfeancgmmonebaa.Sx
