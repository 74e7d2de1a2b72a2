/-
  Reading a signature of BIP 340: the calls. Conditions: none; each theorem bears its own.
-/
import Derived.Test.YtfeancgmmonebaaSwa
import Derived.Test.YtfeancgmmonebaaSwb
namespace Go.Proofs.Ytfeancgmmonebaa.Sx
open Go Go.Proofs Go.RowKit

theorem Reads.drop {w : World} {B n : Nat} {A : Option Addr} {xs : List Value} (h : Reads w B A n xs) (k : Nat) : Reads w B (A.map (·.add k)) (n - k) (xs.drop k) := by
  refine ⟨by simp [h.1], fun hk0 => ?_⟩
  obtain ⟨ad, rfl, hb, hc⟩ := h.2 (by omega)
  refine ⟨ad.add k, rfl, by rw [block_of_add]; exact hb, fun j u hu => ?_⟩
  rw [add_of_add]
  exact hc (k + j) u (by rwa [List.getElem?_drop] at hu)

/-- It gives an error, or (where 'ok' holds) a pointer and no error. -/
def ErrOr (ok : Prop) (w : World) (e : Ending) (w' : World) : Prop :=
  ((ok ∧ ∃ a, e = .returned (.tuple #[.pointer (some a), .nilIface])) ∨ (¬ ok ∧ ∃ t x, e = .returned (.tuple #[.pointer none, .iface t x]))) ∧ Below w.heap.size w w'

def AnAgg (w : World) (e : Ending) (w' : World) : Prop := (∃ x, e = .returned (.agg x)) ∧ Below w.heap.size w w'

theorem c_serr (k d : ByteArray) (w : World) : Calls Try.prog 35 #[.string k, .string d] w (AnAgg w) := by
  go_enter Try.func35, Try.ntmps35
  go_wp2_with fail
  exact bodyPost_ret (v := .agg #[.iface 71 (.string k), .string d]) (by simp [results, Try.results35, go_sem]) rfl ⟨⟨_, rfl⟩, (Below.refl _ _).alloc (Nat.le_refl _) _⟩

theorem c_one_nil (w : World) : Calls Try.prog 23 #[.nilIface] w fun e w' => e = .returned (.int .i64 0) ∧ w = w' := by
  go_enter Try.func23, Try.ntmps23
  go_wp2_with fail
  go_ret
  exact ⟨rfl, rfl⟩

theorem c_one_err (t : TypeId) (x : Value) (w : World) : Calls Try.prog 23 #[.iface t x] w fun e w' => e = .returned (.int .i64 1) ∧ w = w' := by
  go_enter Try.func23, Try.ntmps23
  go_wp2_with fail
  go_ret
  exact ⟨rfl, rfl⟩

/-- The bytes are a signature of BIP 340, by their form. -/
def SchnorrOk (n : Nat) (bs : List Int) : Prop := n = 64 ∧ be (bs.take 32) < fp

theorem c_newsch {g h : Nat} {T T' : TypeId} {V1 V2 : Int} {w : World} (hg : w.heap[g]? = some (.cells ((dig 26 10 V1).map (Value.int .u32)).toArray T (0, 0))) (hh : w.heap[h]? = some (.cells ((dig 32 8 V2).map (Value.int .u32)).toArray T' (0, 0))) (hne : g ≠ h) :
    Calls Try.prog 38 #[.pointer (some ⟨g, 0, none⟩), .pointer (some ⟨h, 0, none⟩)] w fun en w' => (∃ a, en = .returned (.pointer (some a))) ∧ Below w.heap.size w w' := by
  refine (m_newsch.calls (by kernel_rfl) (base := dig 26 10 V1 ++ dig 32 8 V2) (bs := [(g, 0), (h, 0)]) (w := w) (by simp [dig_length]; rfl) rfl (fun h => by cases h) ?_ ?_).mono ?_
  · intro o so hso
    match o with
    | 0 =>
      obtain rfl := Option.some.inj hso
      exact ObjOk.whole hg rfl rfl (kcells_at .u32 _ (dig 26 10 V1) [] _ _ 0 10 rfl rfl (dig_length 26 10 _))
    | 1 =>
      obtain rfl := Option.some.inj hso
      exact ObjOk.whole hh rfl rfl (kcells_at .u32 _ (dig 32 8 V2) (dig 26 10 V1) [] _ 10 8 (by simp) (dig_length 26 10 _) (dig_length 32 8 _))
    | o + 2 => cases hso
  · intro o o' so so' hoo h1 h2 h3
    match o, o' with
    | 0, 1 => exact .inl hne
    | 1, 0 => exact .inl hne.symm
    | 0, 0 => exact absurd rfl hoo
    | 1, 1 => exact absurd rfl hoo
    | o + 2, _ => cases h1
    | _, o' + 2 => cases h2
  · rintro en w' ⟨nb, hnb, _, _, hen, _, hfr⟩
    refine ⟨⟨_, hen⟩, hfr.below (Nat.le_refl _) ?_⟩
    rintro k j hk ⟨o, so, hso, hw, _⟩
    match o with
    | 0 =>
      obtain rfl := Option.some.inj hso
      cases hw
    | 1 =>
      obtain rfl := Option.some.inj hso
      cases hw
    | o + 2 => cases hso

set_option maxRecDepth 100000 in
theorem parse_schnorr (n c : Nat) (bs : List Int) (A : Option Addr) (w : World) (hn : n < 2147483648) (hc : n ≤ c) (hr : Reads w w.heap.size A n (bs.map (Value.int .u8))) (hd : Dg 8 bs) :
    Calls Try.prog 21 #[.slice A n c] w (ErrOr (SchnorrOk n bs) w) := by
  have HR := Lib.hid hr
  clear hr
  rcases Nat.lt_trichotomy n 64 with h | h | h
  · have hno : Hid (¬ SchnorrOk n bs) := fun q => by have := q.1; omega
    go_enter Try.func21, Try.ntmps21
    go_wp2_with (refine (c_serr _ _ _).mono ?_; rintro e w1 ⟨⟨x, rfl⟩, hb1⟩)
    go_ret2
    exact ⟨.inr ⟨hno.out, _, _, rfl⟩, hb1⟩
  · subst h
    obtain ⟨ad, rfl, _, _⟩ := HR.out.2 (by omega)
    have q1 : ∀ W, (Instr.sliceAt 22 (.slice (some ad) 64 c) (some (.int .i64 0)) (some (.int .i64 32)) none).run Try.prog W = .ok (.slice (some ad) 32 c) W := fun W => by
      have := run_cut_slice (P := Try.prog) Try.underlying22 (by kernel_rfl) (some ad) 64 c (some 0) (some 32) 0 32 rfl rfl (by omega) (by omega) W
      rw [if_neg (by omega)] at this
      simpa [Addr.add] using this
    have q2 : ∀ W, (Instr.sliceAt 22 (.slice (some ad) 64 c) (some (.int .i64 32)) (some (.int .i64 64)) none).run Try.prog W = .ok (.slice (some (ad.add 32)) 32 (c - 32)) W := fun W => by
      have := run_cut_slice (P := Try.prog) Try.underlying22 (by kernel_rfl) (some ad) 64 c (some 32) (some 64) 32 64 rfl rfl (by omega) (by omega) W
      rw [if_neg (by omega)] at this
      simpa using this
    obtain ⟨Z10, hZ10⟩ : ∃ Z, Z = ((List.replicate 10 (0 : Int)).map (Value.int .u32)).toArray := ⟨_, rfl⟩
    have hF : Calls Try.prog 36 #[.pointer (some ⟨w.heap.size, 0, none⟩), .slice (some ad) 32 c] (w.alloc (.cells ((List.replicate 10 (0 : Int)).map (Value.int .u32)).toArray 75)) fun en w' =>
        en = .returned (.bool (decide (fp ≤ be (bs.take 32)))) ∧ w'.heap[w.heap.size]? = some (.cells ((dig 26 10 (be (bs.take 32))).map (Value.int .u32)).toArray 75 (0, 0)) ∧ Only w.heap.size (w.alloc (.cells ((List.replicate 10 (0 : Int)).map (Value.int .u32)).toArray 75)) w' := by
      have hr1 := (((HR.out.alloc (Nat.le_refl _) (.cells ((List.replicate 10 (0 : Int)).map (Value.int .u32)).toArray 75)).more (B' := (w.alloc (.cells ((List.replicate 10 (0 : Int)).map (Value.int .u32)).toArray 75)).heap.size) (by simp)).take (k := 32) (by omega))
      rw [← List.map_take] at hr1
      have := fbs_calls w.heap.size 32 c _ (List.replicate 10 0) (bs.take 32) (some ad) _ (by simp) (zeros_dg 32 10) (heap_alloc_new w (.cells ((List.replicate 10 (0 : Int)).map (Value.int .u32)).toArray 75)) (by omega) (by omega) hr1 (hd.take 32)
      rw [List.take_take, Nat.min_self] at this
      exact this
    have hS : ∀ w2, Below w.heap.size w w2 → Calls Try.prog 37 #[.pointer (some ⟨w2.heap.size, 0, none⟩), .slice (some (ad.add 32)) 32 (c - 32)] (w2.alloc (.cells ((List.replicate 8 (0 : Int)).map (Value.int .u32)).toArray 78)) fun en w' =>
        (∃ b, en = .returned (.bool b)) ∧ (∃ V, w'.heap[w2.heap.size]? = some (.cells ((dig 32 8 V).map (Value.int .u32)).toArray 78 (0, 0))) ∧ Only w2.heap.size (w2.alloc (.cells ((List.replicate 8 (0 : Int)).map (Value.int .u32)).toArray 78)) w' := fun w2 hb => by
      have hr1 := ((((HR.out.below hb).alloc hb.size (.cells ((List.replicate 8 (0 : Int)).map (Value.int .u32)).toArray 78)).more (B' := (w2.alloc (.cells ((List.replicate 8 (0 : Int)).map (Value.int .u32)).toArray 78)).heap.size) (by have := hb.size; simp; omega)).drop 32)
      rw [← List.map_drop] at hr1
      exact (sbs_calls w2.heap.size 32 (c - 32) _ (List.replicate 8 0) (bs.drop 32) (some (ad.add 32)) _ (by simp) (zeros_dg 32 8) (heap_alloc_new w2 (.cells ((List.replicate 8 (0 : Int)).map (Value.int .u32)).toArray 78)) (by omega) (by omega) hr1 (fun x hx => hd x (List.mem_of_mem_drop hx))).mono fun e w' h => ⟨⟨_, h.1⟩, ⟨_, h.2.1⟩, h.2.2⟩
    have HF := Lib.hid hF
    have HS := Lib.hid hS
    clear hF hS hZ10
    by_cases hV : fp ≤ be (bs.take 32)
    · have hno : Hid (¬ SchnorrOk 64 bs) := fun q => by have := q.2; omega
      have hdec : Hid (decide (fp ≤ be (bs.take 32)) = true) := decide_eq_true hV
      clear hV
      go_enter Try.func21, Try.ntmps21
      go_wp2_with (first
        | (refine Calls.mono HF.out ?_; rintro e w1 ⟨rfl, g1, ho1⟩; rw [hdec.out])
        | (refine (c_serr _ _ _).mono ?_; rintro e w2 ⟨⟨x, rfl⟩, hb2⟩))
      go_ret2
      exact ⟨.inr ⟨hno.out, _, _, rfl⟩, (ho1.below ((Below.refl _ _).alloc (Nat.le_refl _) _) (Nat.le_refl _) (Nat.le_refl _)).trans (hb2.mono (by have := ho1.size; simp at this; omega))⟩
    · have hok : Hid (SchnorrOk 64 bs) := ⟨rfl, by omega⟩
      have hdec : Hid (decide (fp ≤ be (bs.take 32)) = false) := decide_eq_false hV
      clear hV
      go_enter Try.func21, Try.ntmps21
      go_wp2_with (first
        | (refine Calls.mono HF.out ?_; rintro e w1 ⟨rfl, g1, ho1⟩; rw [hdec.out]
           have G1 := Lib.hid g1
           clear g1
           have HB1 : Below w.heap.size w w1 := ho1.below ((Below.refl _ _).alloc (Nat.le_refl _) _) (Nat.le_refl _) (Nat.le_refl _))
        | (refine Calls.mono (HS.out _ HB1) ?_; rintro e w2 ⟨⟨b, rfl⟩, ⟨V, g2⟩, ho2⟩
           have G2 := Lib.hid g2
           clear g2)
        | (refine Calls.mono (c_newsch ((ho2.block w.heap.size (by have := ho1.size; simp at this; simp; omega) (by have := ho1.size; simp at this; omega)).trans ((heap_alloc_old _ _ (by have := ho1.size; simp at this; omega)).trans G1.out)) G2.out (by have := ho1.size; simp at this; omega)) ?_
           rintro e w3 ⟨⟨p, rfl⟩, hb3⟩))
      go_ret2
      exact ⟨.inl ⟨hok.out, p, rfl⟩, (ho2.below (HB1.alloc HB1.size _) (Nat.le_refl _) HB1.size).trans (hb3.mono (by have := ho2.size; have := HB1.size; simp at *; omega))⟩
  · have hno : Hid (¬ SchnorrOk n bs) := fun q => by have := q.1; omega
    go_enter Try.func21, Try.ntmps21
    go_wp2_with (refine (c_serr _ _ _).mono ?_; rintro e w1 ⟨⟨x, rfl⟩, hb1⟩)
    go_ret2
    exact ⟨.inr ⟨hno.out, _, _, rfl⟩, hb1⟩

set_option maxRecDepth 100000 in
theorem read_schnorr (n c : Nat) (bs : List Int) (A : Option Addr) (w : World) (hn : n < 2147483648) (hr : Reads w w.heap.size A n (bs.map (Value.int .u8))) (hd : Dg 8 bs) :
    Calls Try.prog 10 #[.slice A n c] w fun e w' => ((SchnorrOk n bs ∧ e = .returned (.int .i64 0)) ∨ (¬ SchnorrOk n bs ∧ e = .returned (.int .i64 1))) ∧ Below w.heap.size w w' := by
  have hC := c_copied n c bs A w (by omega) hr
  have HC := Lib.hid hC
  have HN := Lib.hid hn
  have hP : ∀ A1 c1 w1, n ≤ c1 → Reads w1 w1.heap.size A1 n (bs.map (Value.int .u8)) → Calls Try.prog 21 #[.slice A1 n c1] w1 (ErrOr (SchnorrOk n bs) w1) := fun A1 c1 w1 h1 h2 => parse_schnorr n c1 bs A1 w1 hn h1 h2 hd
  have HP := Lib.hid hP
  clear hC hP hn hr
  by_cases hok : SchnorrOk n bs
  · have HO := Lib.hid hok
    clear hok
    go_enter Try.func10, Try.ntmps10
    go_wp2_with (first
      | (refine HC.out.mono ?_; rintro e w1 ⟨A1, c1, rfl, hc1, hr1, hA1, hb1⟩)
      | (refine (HP.out _ _ _ (by omega) hr1).mono ?_; rintro e w2 ⟨h2, hb2⟩; obtain ⟨p, rfl⟩ : ∃ a, e = .returned (.tuple #[.pointer (some a), .nilIface]) := by
          rcases h2 with h2 | h2
          · exact h2.2
          · exact absurd HO.out h2.1
         clear h2)
      | (refine (c_one_nil _).mono ?_; rintro e w3 ⟨rfl, rfl⟩))
    go_ret
    exact ⟨.inl ⟨HO.out, rfl⟩, hb1.trans (hb2.mono hb1.size)⟩
  · have HO := Lib.hid hok
    clear hok
    go_enter Try.func10, Try.ntmps10
    go_wp2_with (first
      | (refine HC.out.mono ?_; rintro e w1 ⟨A1, c1, rfl, hc1, hr1, hA1, hb1⟩)
      | (refine (HP.out _ _ _ (by omega) hr1).mono ?_; rintro e w2 ⟨h2, hb2⟩; obtain ⟨t, x, rfl⟩ : ∃ t x, e = .returned (.tuple #[.pointer none, .iface t x]) := by
          rcases h2 with h2 | h2
          · exact absurd h2.1 HO.out
          · exact h2.2
         clear h2)
      | (refine (c_one_err _ _ _).mono ?_; rintro e w3 ⟨rfl, rfl⟩))
    go_ret
    exact ⟨.inr ⟨HO.out, rfl⟩, hb1.trans (hb2.mono hb1.size)⟩

end Go.Proofs.Ytfeancgmmonebaa.Sx
