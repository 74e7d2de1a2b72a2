/-
  Reading a signature's bytes: numbers and their calls. Conditions: none; each theorem bears its own.
-/
import Derived.Test.YtfeancgmmonebaaSwe
import Derived.Deep.DeepCutAuto
import Derived.Deep.CutBlock
namespace Go.Proofs.Ytfeancgmmonebaa.Sx
open Go Go.Proofs Go.RowKit

theorem c_sisz {g : Nat} {T : TypeId} {V : Int} {w : World} (hg : w.heap[g]? = some (.cells ((dig 32 8 V).map (Value.int .u32)).toArray T (0, 0))) (v0 : 0 ≤ V) (v1 : V < 2 ^ 256) :
    Calls Try.prog 41 #[.pointer (some ⟨g, 0, none⟩)] w fun en w' => en = .returned (.bool (decide (V = 0))) ∧ Below w.heap.size w w' := by
  have hF := sisz_spec v0 v1
  refine (m_sisz.calls (by kernel_rfl) (base := dig 32 8 V) (bs := [(g, 0)]) (w := w) (by rw [dig_length]; rfl) rfl (fun h => by cases h) ?_ ?_).mono ?_
  · intro o so hso
    match o with
    | 0 =>
      obtain rfl := Option.some.inj hso
      exact ObjOk.whole hg rfl rfl (kcells_at .u32 _ (dig 32 8 V) [] [] _ 0 8 (by simp) rfl (dig_length 32 8 _))
    | o + 1 => cases hso
  · intro o o' so so' hoo h1 h2 h3
    match o, o' with
    | 0, 0 => exact absurd rfl hoo
    | o + 1, _ => cases h1
    | _, o' + 1 => cases h2
  · rintro en w' ⟨nb, hnb, _, _, hen, _, hfr⟩
    refine ⟨?_, hfr.below (Nat.le_refl _) ?_⟩
    · have hE : e_sisz.env (dig 32 8 V) [(g, 0)] nb = ⟨dig 32 8 V ++ [b01 (decide (V = 0))], [(g, 0)] ++ nb⟩ := by
        unfold Entry.env
        rw [hF]
        rfl
      rw [hE] at hen
      rw [hen]
      show Ending.returned (Value.bool (List.getD _ 8 0 != 0)) = _
      rw [List.getD, List.getElem?_append_right (by simp [dig_length])]
      simp [dig_length, b01_bool]
    · rintro k j hk ⟨o, so, hso, hw, _⟩
      match o with
      | 0 =>
        obtain rfl := Option.some.inj hso
        cases hw
      | o + 1 => cases hso

/-- A new signature of both numbers. -/
theorem c_newsig {g h : Nat} {T T' : TypeId} {R S : Int} {w : World} (hg : w.heap[g]? = some (.cells ((dig 32 8 R).map (Value.int .u32)).toArray T (0, 0))) (hh : w.heap[h]? = some (.cells ((dig 32 8 S).map (Value.int .u32)).toArray T' (0, 0))) (hne : g ≠ h) :
    Calls Try.prog 29 #[.pointer (some ⟨g, 0, none⟩), .pointer (some ⟨h, 0, none⟩)] w fun en w' =>
      (∃ b o, en = .returned (.pointer (some ⟨b, o, none⟩)) ∧ w.heap.size ≤ b ∧ ∀ (j : Nat) v, ((dig 32 8 R ++ dig 32 8 S).map (Value.int .u32))[j]? = some v → w'.cell? ⟨b, o + j, none⟩ = some v) ∧ Below w.heap.size w w' := by
  refine (m_newsig.calls (by kernel_rfl) (base := dig 32 8 R ++ dig 32 8 S) (bs := [(g, 0), (h, 0)]) (w := w) (by simp [dig_length]; rfl) rfl (fun h => by cases h) ?_ ?_).mono ?_
  · intro o so hso
    match o with
    | 0 =>
      obtain rfl := Option.some.inj hso
      exact ObjOk.whole hg rfl rfl (kcells_at .u32 _ (dig 32 8 R) [] _ _ 0 8 rfl rfl (dig_length 32 8 _))
    | 1 =>
      obtain rfl := Option.some.inj hso
      exact ObjOk.whole hh rfl rfl (kcells_at .u32 _ (dig 32 8 S) (dig 32 8 R) [] _ 8 8 (by simp) (dig_length 32 8 _) (dig_length 32 8 _))
    | o + 2 => cases hso
  · intro o o' so so' hoo h1 h2 h3
    match o, o' with
    | 0, 1 => exact .inl hne
    | 1, 0 => exact .inl hne.symm
    | 0, 0 => exact absurd rfl hoo
    | 1, 1 => exact absurd rfl hoo
    | o + 2, _ => cases h1
    | _, o' + 2 => cases h2
  · rintro en w' ⟨nb, hnb, hnew, _, hen, hm', hfr⟩
    obtain ⟨b, rfl⟩ : ∃ b, nb = [b] := List.length_eq_one_iff.1 (by have h : 2 + nb.length = 3 := hnb; omega)
    have hF : e_newsig.F (dig 32 8 R ++ dig 32 8 S) = dig 32 8 R ++ dig 32 8 S := by
      obtain ⟨x0, x1, x2, x3, x4, x5, x6, x7, hx⟩ := len8 (dig_length 32 8 R)
      obtain ⟨y0, y1, y2, y3, y4, y5, y6, y7, hy⟩ := len8 (dig_length 32 8 S)
      rw [hx, hy]
      rfl
    have hE : e_newsig.env (dig 32 8 R ++ dig 32 8 S) [(g, 0), (h, 0)] [b] = ⟨(dig 32 8 R ++ dig 32 8 S) ++ (dig 32 8 R ++ dig 32 8 S), [(g, 0), (h, 0), b]⟩ := by
      unfold Entry.env
      rw [hF]
      show (⟨_ ++ fit 16 _, _⟩ : En) = _
      rw [fit_eq (by simp [dig_length])]
      rfl
    rw [hE] at hen hm'
    refine ⟨⟨b.1, b.2, by rw [hen]; rfl, hnew b (by simp), fun j v hj => ?_⟩, hfr.below (Nat.le_refl _) ?_⟩
    · have hob := hm' 2 ⟨kcells 16 (List.replicate 16 (some .u32)), true⟩ rfl
      have hc := kcells_at .u32 [(g, 0), (h, 0), b] (dig 32 8 R ++ dig 32 8 S) (dig 32 8 R ++ dig 32 8 S) [] ((dig 32 8 R ++ dig 32 8 S) ++ (dig 32 8 R ++ dig 32 8 S)) 16 16 (by simp) (by simp [dig_length]) (by simp [dig_length])
      rw [← hc, List.getElem?_map, Option.map_eq_some_iff] at hj
      obtain ⟨c, hj, rfl⟩ := hj
      exact hob.cell j c hj
    · rintro k j hk ⟨o, so, hso, hw, _⟩
      match o with
      | 0 =>
        obtain rfl := Option.some.inj hso
        cases hw
      | 1 =>
        obtain rfl := Option.some.inj hso
        cases hw
      | o + 2 => cases hso

theorem be_big {y : Int} {r : List Int} (hd : Dg 8 (y :: r)) (hy : y ≠ 0) (hl : 32 ≤ r.length) : 2 ^ 256 ≤ be (y :: r) := by
  have h0 := hd y (by simp)
  have hr := num_bounds (Dg.reverse (Dg.tail hd))
  show (2 : Int) ^ 256 ≤ num 8 (y :: r).reverse
  rw [List.reverse_cons, num_app, List.length_reverse]
  have h1 : num 8 [y] = y := by simp [num]
  rw [h1]
  have h2 : (2 : Int) ^ 256 ≤ 2 ^ (8 * r.length) := by
    have := Nat.pow_le_pow_right (n := 2) (by omega) (show 256 ≤ 8 * r.length by omega)
    exact_mod_cast this
  have h3 : (1 : Int) * 2 ^ (8 * r.length) ≤ 2 ^ (8 * r.length) * y := by
    rw [Int.mul_comm]
    exact Int.mul_le_mul_of_nonneg_left (by omega) (by omega)
  have := hr.1
  omega

/-- Bytes with nothing ahead; what is left, and its number. -/
def Trim (w : World) (B : Nat) (v : Value) (V : Int) : Prop :=
  ∃ (A : Option Addr) (m c : Nat) (l : List Int), v = .slice A m c ∧ m ≤ c ∧ m ≤ 72 ∧ Reads w B A m (l.map (Value.int .u8)) ∧ Dg 8 l ∧ be l = V ∧ (32 < m → 2 ^ 256 ≤ V)

def lenOf : Value → Nat
  | .slice _ n _ => n
  | _ => 0

/-- SetByteSlice into a new number. -/
theorem c_setnew {w0 w : World} {A : Option Addr} {m c : Nat} {l : List Int} (T : TypeId) (hb : Below w0.heap.size w0 w) (hc : m ≤ c) (hm : m ≤ 32) (hr : Reads w0 w0.heap.size A m (l.map (Value.int .u8))) (hd : Dg 8 l) :
    Calls Try.prog 37 #[.pointer (some ⟨w.heap.size, 0, none⟩), .slice A m c] (w.alloc (.cells ((List.replicate 8 (0 : Int)).map (Value.int .u32)).toArray T)) fun en w' =>
      en = .returned (.bool (decide (fn ≤ be l))) ∧ w'.heap[w.heap.size]? = some (.cells ((dig 32 8 (be l % fn)).map (Value.int .u32)).toArray T (0, 0)) ∧ (∀ k, k < w.heap.size → w'.heap[k]? = w.heap[k]?) ∧ w.heap.size < w'.heap.size ∧ Below w0.heap.size w0 w' := by
  have hr1 := ((hr.below hb).alloc hb.size (.cells ((List.replicate 8 (0 : Int)).map (Value.int .u32)).toArray T)).more (B' := (w.alloc (.cells ((List.replicate 8 (0 : Int)).map (Value.int .u32)).toArray T)).heap.size) (by have := hb.size; simp; omega)
  have hlen : l.length = m := by have := hr.1; simpa using this
  refine (sbs_calls w.heap.size m c _ (List.replicate 8 0) l A _ (by simp) (zeros_dg 32 8) (heap_alloc_new w (.cells ((List.replicate 8 (0 : Int)).map (Value.int .u32)).toArray T)) (by omega) hc hr1 hd).mono ?_
  rintro en w' ⟨h1, h2, h3⟩
  rw [List.take_of_length_le (by omega)] at h1 h2
  have hs := h3.size
  simp at hs
  refine ⟨h1, h2, fun k hk => (h3.block k (by simp; omega) (by omega)).trans (heap_alloc_old _ _ hk), by omega, h3.below (hb.alloc hb.size _) (Nat.le_refl _) hb.size⟩

end Go.Proofs.Ytfeancgmmonebaa.Sx
