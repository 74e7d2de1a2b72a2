/-
  Bytes of any length as a number: the reference's own reading of them. Conditions: none; each theorem bears its own.
-/
import Derived.Test.YtfeancgmmonebaaSzn
import Derived.Test.YtfeancgmmonebaaSyg
namespace Go.Proofs.Ytfeancgmmonebaa.Sx
open Go Go.Proofs Go.RowKit

theorem resV_agg (k : IntKind) {xs : List Int} {m : Nat} (h : xs.length = m) : resV [.agg (List.replicate m (some k))] xs = .agg (xs.map (Value.int k)).toArray :=
  agg_at k [] (pre := []) (post := []) (n := 0) (by simp) rfl h

/-- Behind the copy: the array is loaded, its number told. -/
def t_n256 : Tail := { n := 32, nt := 17, slots := [(2, .one (.sc (.ptr 0 0))), (3, .one (.sc (.ptr 1 0)))], mem := [⟨List.replicate 4 (.int .u64 (.lit 0)), true⟩, ⟨kcells 0 (List.replicate 32 (some .u8)), false⟩] }
def p_n256 : Path := ⟨[.app 0 (vars 0 32) 4], [], vars 32 4⟩

theorem out_n256 {base : List Int} (hl : base.length = 32) (hd : Dg 8 base) : p_n256.outs.map (·.val (runR [e_uof] p_n256.defs base)) = dig 64 4 (be base) := by
  show (vars 32 4).map (·.val (base ++ fit 4 (e_uof.F ((vars 0 32).map (·.val base))))) = _
  have h0 : (vars 0 32).map (·.val base) = base := vars_all [e_uof] [] hl
  rw [h0, uof_spec hl hd, fit_eq (dig_length 64 4 _)]
  have := vars_last [e_uof] [] (a := base) (l := dig 64 4 (be base)) (i := 32) hl (dig_length 64 4 _)
  exact this

/-- The walk stands still here. -/
def Halt (p : Prop) : Prop := p
theorem Halt.of {p : Prop} (h : Halt p) : p := h

section
variable {P : Program} {w w' : World} {ops : Array Oper} {rest : List Oper} {o : Oper} {a : Act} {Q : Exit → Act → World → Prop} {v : Value}
/-- An operation whose run is known. -/
theorem wpList_run (hgd : o.guard = none) (hrun : (execOp a.eval o).run P w = .ok (.value v) w') (h : wpList P ops Q rest (a.put o.dst v) w') : wpList P ops Q (o :: rest) a w := by
  refine wpList_plain hgd fun K hK => ?_
  unfold Oper.wp
  rw [hrun]
  exact hK _ _ h
end

abbrev zero4 : Array Value := #[.int .u64 0, .int .u64 0, .int .u64 0, .int .u64 0]

theorem zeros_at (w : World) (x : Obj) (m : Nat) (T : TypeId) : ((w.alloc x).alloc (.cells (List.replicate m (Value.int .u8 0)).toArray T)).heap[w.heap.size + 1]? = some (.cells (List.replicate m (Value.int .u8 0)).toArray T (0, 0)) := by
  have h := heap_alloc_new (w.alloc x) (.cells (List.replicate m (Value.int .u8 0)).toArray T)
  rw [show (w.alloc x).heap.size = w.heap.size + 1 by simp] at h
  exact h

set_option maxRecDepth 100000 in
theorem n256_short (n c : Nat) (bs : List Int) (A : Option Addr) (w : World) (hn : n ≤ 32) (hr : Reads w w.heap.size A n (bs.map (Value.int .u8))) (hd : Dg 8 bs) :
    Calls Try.prog 7 #[.slice A n c] w fun en w' => en = .returned (.agg ((dig 64 4 (be bs)).map (Value.int .u64)).toArray) ∧ Below w.heap.size w w' := by
  have H1 : Hid (Reads w w.heap.size A n (bs.map (Value.int .u8))) := hr
  clear hr
  obtain ⟨ad, had⟩ : ∃ ad : Addr, ad = if 32 = 32 - n then (⟨w.heap.size + 1, 0, none⟩ : Addr) else (⟨w.heap.size + 1, 0, none⟩ : Addr).add (32 - n) := ⟨_, rfl⟩
  have q3 : ∀ W, (Instr.sliceAt 24 (.pointer (some ⟨w.heap.size + 1, 0, none⟩)) (some (.int .i64 (32 - n))) none none).run Try.prog W = .ok (.slice (some ad) n n) W := fun W => by
    have := run_cut_arr Try.underlying24 (by kernel_rfl) ⟨w.heap.size + 1, 0, none⟩ (some (32 - (n : Int))) none (32 - n) 32 (by show (32 - (n : Int)) = _; omega) rfl (by omega) (by omega) W
    rw [← had, show 32 - (32 - n) = n by omega] at this
    exact this
  have HA := Lib.hid had
  clear had
  obtain ⟨xs, hxs⟩ : ∃ xs, xs = bs.map (Value.int .u8) := ⟨_, rfl⟩
  have hbl : bs.length = n := by have h : (bs.map (Value.int .u8)).length = n := H1.out.1; simpa using h
  have hxl : xs.length = n := by rw [hxs]; simp [hbl]
  have hx1 : Hid (∀ v ∈ xs, v.oneCell' = true) := by
    show ∀ v ∈ xs, v.oneCell' = true
    intro v hv
    rw [hxs] at hv
    obtain ⟨z, _, rfl⟩ := List.mem_map.1 hv
    rfl
  obtain ⟨W0, hW0⟩ : ∃ W0, W0 = w.alloc (.cells zero4 27) := ⟨_, rfl⟩
  have hWs : W0.heap.size = w.heap.size + 1 := by rw [hW0]; simp
  have hWb : Below w.heap.size w W0 := by rw [hW0]; exact (Below.refl _ _).alloc (Nat.le_refl _) _
  have hWr : W0.heap[w.heap.size]? = some (.cells zero4 27 (0, 0)) := by rw [hW0]; exact heap_alloc_new w _
  have hpos : Hid (∀ x, 0 < xs.length → some ad = some ⟨w.heap.size + 1, 32 - n, none⟩ ∧ ∃ ad', A = some ad' ∧ ∀ j v, xs[j]? = some v → (W0.alloc x).cell? (ad'.add j) = some v) := fun x h0 => by
    have hr3 : Reads (W0.alloc x) w.heap.size A n xs := by rw [hxs]; exact Reads.below H1 (hWb.alloc hWb.size _)
    obtain ⟨ad', e, _, hc'⟩ := hr3.2 (by omega)
    refine ⟨?_, ad', e, hc'⟩
    rw [HA.out, if_neg (by omega), addr_add, Nat.zero_add]
  have hfit : Hid (32 - n + xs.length ≤ (List.replicate 32 (Value.int .u8 0)).length) := by show _ ≤ _; simp only [List.length_replicate]; omega
  have hn1 : Hid (xs.length = Nat.min n n) := hxl.trans (Nat.min_self n).symm
  have HW0 := Lib.hid hW0
  have HWs := Lib.hid hWs
  have HWr := Lib.hid hWr
  have HX := Lib.hid hxs
  have HL := Lib.hid hxl
  have HB := Lib.hid hbl
  clear hxs hxl hbl hW0 hWs hWr
  go_enter Try.func7, Try.ntmps7
  go_wp2_with (refine wpList_copy_splice rfl (.tmp 12) (.tmp 13) _ _ rfl _ Try.underlying22 (by kernel_rfl) _ _ _ _ _ _ rfl rfl (w.heap.size + 1) (32 - n) (List.replicate 32 (Value.int .u8 0)) _ (by exact zeros_at w _ 32 _) xs hn1 (by have := HW0.out; subst this; exact hpos.out _) hfit hx1 (w.heap.size + 1) W0 (by have := HW0.out; subst this; exact (Below.refl _ _).alloc (by simp) _) (Nat.le_refl _) ?_; intro w3 g3 hb3; refine Halt.of ?_)
  rename_i hle K hK
  refine Halt.of (p := wpList _ _ _ [] _ _) (wpList_nil (hK _ _ ?_))
  have hpl : (List.replicate (32 - n) (0 : Int) ++ bs).length = 32 := by
    have h1 := HB.out
    simp only [List.length_append, List.length_replicate, h1]
    omega
  have g3' : w3.heap[w.heap.size + 1]? = some (.cells ((List.replicate (32 - n) (0 : Int) ++ bs).map (Value.int .u8)).toArray 24 (0, 0)) := by
    have h : w3.heap[w.heap.size + 1]? = some (.cells (splice (List.replicate 32 (Value.int .u8 0)) (32 - n) xs).toArray 24 (0, 0)) := g3
    rw [splice_pad hn HL.out] at h
    rw [h, HX.out]
    simp
  have g2 : w3.heap[w.heap.size]? = some (.cells zero4 27 (0, 0)) := (hb3.block w.heap.size (by omega)).trans HWr.out
  refine tail_sound mixed (Γ := [e_uof]) (fun e he => by simp only [List.mem_cons, List.not_mem_nil, or_false] at he; subst he; exact m_uof) (t := t_n256) (res := [.agg (List.replicate 4 (some .u64))]) (nds := []) (ps := [p_n256]) (by kernel_rfl)
    (base := List.replicate (32 - n) (0 : Int) ++ bs) (bs := [(w.heap.size, 0), (w.heap.size + 1, 0)]) hpl rfl (fun _ h => by cases h) rfl rfl ⟨rfl, rfl, trivial⟩ ?_ ?_ ?_
  · intro o so hso
    match o with
    | 0 =>
      obtain rfl := Option.some.inj hso
      exact ObjOk.whole (cs := zero4.toList) g2 rfl rfl rfl
    | 1 =>
      obtain rfl := Option.some.inj hso
      exact ObjOk.whole g3' rfl rfl (kcells_at .u8 _ _ [] [] _ 0 32 (by simp) rfl hpl)
    | o + 2 => cases hso
  · intro o o' so so' hoo h1 h2 h3
    match o, o' with
    | 0, 1 => exact .inl (by show w.heap.size ≠ w.heap.size + 1; omega)
    | 1, 0 => exact .inl (by show w.heap.size + 1 ≠ w.heap.size; omega)
    | 0, 0 => exact absurd rfl hoo
    | 1, 1 => exact absurd rfl hoo
    | o + 2, _ => cases h1
    | _, o' + 2 => cases h2
  · intro p hp _ w' hfr
    obtain rfl : p = p_n256 := by simpa using hp
    rw [out_n256 hpl (pad_dg hd), be_pad]
    refine ⟨congrArg Ending.returned (resV_agg .u64 (dig_length 64 4 _)), ?_⟩
    have h1 : Below w.heap.size w3 w' := hfr.below (by have := hb3.size; have := HWs.out; omega) fun k j hk ⟨o, so, hso, hw, hk', _⟩ => by
      match o with
      | 0 => have : w.heap.size = k := hk'; omega
      | 1 => have : w.heap.size + 1 = k := hk'; omega
      | o + 2 => cases hso
    exact (hWb.trans (hb3.mono (by omega))).trans h1

theorem splice_all {m : Nat} {xs : List Value} (hx : xs.length = m) : splice (List.replicate m (Value.int .u8 0)) 0 xs = xs := by
  have := splice_pad (m := m) (k := m) (Nat.le_refl _) hx
  rw [Nat.sub_self] at this
  simpa using this

set_option maxRecDepth 100000 in
theorem n256_long (n c : Nat) (bs : List Int) (A : Option Addr) (w : World) (hn : 32 < n) (hc : n ≤ c) (hr : Reads w w.heap.size A n (bs.map (Value.int .u8))) (hd : Dg 8 bs) :
    Calls Try.prog 7 #[.slice A n c] w fun en w' => en = .returned (.agg ((dig 64 4 (be (bs.take 32))).map (Value.int .u64)).toArray) ∧ Below w.heap.size w w' := by
  have H1 : Hid (Reads w w.heap.size A n (bs.map (Value.int .u8))) := hr
  clear hr
  obtain ⟨xs, hxs⟩ : ∃ xs, xs = (bs.map (Value.int .u8)).take 32 := ⟨_, rfl⟩
  have hbl : bs.length = n := by have h : (bs.map (Value.int .u8)).length = n := H1.out.1; simpa using h
  have hxl : xs.length = 32 := by rw [hxs]; simp [hbl]; omega
  have hx1 : Hid (∀ v ∈ xs, v.oneCell' = true) := by
    show ∀ v ∈ xs, v.oneCell' = true
    intro v hv
    rw [hxs] at hv
    obtain ⟨z, _, rfl⟩ := List.mem_map.1 (List.mem_of_mem_take hv)
    rfl
  obtain ⟨W0, hW0⟩ : ∃ W0, W0 = w.alloc (.cells zero4 27) := ⟨_, rfl⟩
  have hWs : W0.heap.size = w.heap.size + 1 := by rw [hW0]; simp
  have hWb : Below w.heap.size w W0 := by rw [hW0]; exact (Below.refl _ _).alloc (Nat.le_refl _) _
  have hWr : W0.heap[w.heap.size]? = some (.cells zero4 27 (0, 0)) := by rw [hW0]; exact heap_alloc_new w _
  have hpos : Hid (∀ x, 0 < xs.length → (some ⟨w.heap.size + 1, 0, none⟩ : Option Addr) = some ⟨w.heap.size + 1, 0, none⟩ ∧ ∃ ad', A = some ad' ∧ ∀ j v, xs[j]? = some v → (W0.alloc x).cell? (ad'.add j) = some v) := fun x h0 => by
    have hr3 : Reads (W0.alloc x) w.heap.size A 32 xs := by rw [hxs]; exact (Reads.below H1 (hWb.alloc hWb.size _)).take (by omega)
    obtain ⟨ad', e, _, hc'⟩ := hr3.2 (by omega)
    exact ⟨rfl, ad', e, hc'⟩
  have hfit : Hid (0 + xs.length ≤ (List.replicate 32 (Value.int .u8 0)).length) := by show _ ≤ _; simp only [List.length_replicate]; omega
  have hn1 : Hid (xs.length = Nat.min 32 32) := hxl
  have HW0 := Lib.hid hW0
  have HWs := Lib.hid hWs
  have HWr := Lib.hid hWr
  have HX := Lib.hid hxs
  have HL := Lib.hid hxl
  have HB := Lib.hid hbl
  clear hxs hxl hbl hW0 hWs hWr
  go_enter Try.func7, Try.ntmps7
  go_wp2_with (refine wpList_copy_splice rfl (.tmp 12) (.tmp 13) _ _ rfl _ Try.underlying22 (by kernel_rfl) _ _ _ _ _ _ rfl rfl (w.heap.size + 1) 0 (List.replicate 32 (Value.int .u8 0)) _ (by exact zeros_at w _ 32 _) xs hn1 (by have := HW0.out; subst this; exact hpos.out _) hfit hx1 (w.heap.size + 1) W0 (by have := HW0.out; subst this; exact (Below.refl _ _).alloc (by simp) _) (Nat.le_refl _) ?_; intro w3 g3 hb3; refine Halt.of ?_)
  rename_i hle K hK
  refine Halt.of (p := wpList _ _ _ [] _ _) (wpList_nil (hK _ _ ?_))
  have hpl : (bs.take 32).length = 32 := by
    have h1 := HB.out
    simp only [List.length_take, h1]
    omega
  have g3' : w3.heap[w.heap.size + 1]? = some (.cells ((bs.take 32).map (Value.int .u8)).toArray 24 (0, 0)) := by
    have h : w3.heap[w.heap.size + 1]? = some (.cells (splice (List.replicate 32 (Value.int .u8 0)) 0 xs).toArray 24 (0, 0)) := g3
    rw [splice_all (HL.out)] at h
    rw [h, HX.out, List.map_take]
  have g2 : w3.heap[w.heap.size]? = some (.cells zero4 27 (0, 0)) := (hb3.block w.heap.size (by omega)).trans HWr.out
  refine tail_sound mixed (Γ := [e_uof]) (fun e he => by simp only [List.mem_cons, List.not_mem_nil, or_false] at he; subst he; exact m_uof) (t := t_n256) (res := [.agg (List.replicate 4 (some .u64))]) (nds := []) (ps := [p_n256]) (by kernel_rfl)
    (base := bs.take 32) (bs := [(w.heap.size, 0), (w.heap.size + 1, 0)]) hpl rfl (fun _ h => by cases h) rfl rfl ⟨rfl, rfl, trivial⟩ ?_ ?_ ?_
  · intro o so hso
    match o with
    | 0 =>
      obtain rfl := Option.some.inj hso
      exact ObjOk.whole (cs := zero4.toList) g2 rfl rfl rfl
    | 1 =>
      obtain rfl := Option.some.inj hso
      exact ObjOk.whole g3' rfl rfl (kcells_at .u8 _ _ [] [] _ 0 32 (by simp) rfl hpl)
    | o + 2 => cases hso
  · intro o o' so so' hoo h1 h2 h3
    match o, o' with
    | 0, 1 => exact .inl (by show w.heap.size ≠ w.heap.size + 1; omega)
    | 1, 0 => exact .inl (by show w.heap.size + 1 ≠ w.heap.size; omega)
    | 0, 0 => exact absurd rfl hoo
    | 1, 1 => exact absurd rfl hoo
    | o + 2, _ => cases h1
    | _, o' + 2 => cases h2
  · intro p hp _ w' hfr
    obtain rfl : p = p_n256 := by simpa using hp
    rw [out_n256 hpl (hd.take 32)]
    refine ⟨congrArg Ending.returned (resV_agg .u64 (dig_length 64 4 _)), ?_⟩
    have h1 : Below w.heap.size w3 w' := hfr.below (by have := hb3.size; have := HWs.out; omega) fun k j hk ⟨o, so, hso, hw, hk', _⟩ => by
      match o with
      | 0 => have : w.heap.size = k := hk'; omega
      | 1 => have : w.heap.size + 1 = k := hk'; omega
      | o + 2 => cases hso
    exact (hWb.trans (hb3.mono (by omega))).trans h1

/-- Number256, of bytes however many. -/
theorem n256_calls (n c : Nat) (bs : List Int) (A : Option Addr) (w : World) (hc : n ≤ c) (hr : Reads w w.heap.size A n (bs.map (Value.int .u8))) (hd : Dg 8 bs) :
    Calls Try.prog 7 #[.slice A n c] w fun en w' => en = .returned (.agg ((dig 64 4 (be (bs.take 32))).map (Value.int .u64)).toArray) ∧ Below w.heap.size w w' := by
  rcases Nat.lt_or_ge 32 n with h | h
  · exact n256_long n c bs A w h hc hr hd
  · have hl : bs.length = n := by simpa using hr.1
    rw [List.take_of_length_le (by omega)]
    exact n256_short n c bs A w h hr hd

end Go.Proofs.Ytfeancgmmonebaa.Sx
