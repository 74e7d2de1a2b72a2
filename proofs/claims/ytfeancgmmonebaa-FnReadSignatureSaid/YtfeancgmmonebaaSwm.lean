/-
  A signature's numbers, and impl.ReadSignature. Conditions: none; each theorem bears its own.
-/
import Derived.Test.YtfeancgmmonebaaSwl
namespace Go.Proofs.Ytfeancgmmonebaa.Sx
open Go Go.Proofs Go.RowKit

/-- The 32 bytes of a number. -/
def byt (V : Int) : List Int := (dig 8 32 V).reverse
theorem byt_length (V : Int) : (byt V).length = 32 := by simp [byt, dig_length]

theorem vars_at {A l B E : List Int} {i n : Nat} (hE : E = A ++ (l ++ B)) (ha : A.length = i) (hl : l.length = n) : (vars i n).map (·.val E) = l := by
  rw [vars_val, hE, List.drop_left' ha, fit_append hl]

theorem sigR_F (R S : Int) : e_sigR.F (dig 32 8 R ++ dig 32 8 S) = dig 32 8 R := by
  obtain ⟨x0, x1, x2, x3, x4, x5, x6, x7, hx⟩ := len8 (dig_length 32 8 R)
  obtain ⟨y0, y1, y2, y3, y4, y5, y6, y7, hy⟩ := len8 (dig_length 32 8 S)
  rw [hx, hy]
  rfl

theorem sigS_F (R S : Int) : e_sigS.F (dig 32 8 R ++ dig 32 8 S) = dig 32 8 S := by
  obtain ⟨x0, x1, x2, x3, x4, x5, x6, x7, hx⟩ := len8 (dig_length 32 8 R)
  obtain ⟨y0, y1, y2, y3, y4, y5, y6, y7, hy⟩ := len8 (dig_length 32 8 S)
  rw [hx, hy]
  rfl

theorem p_numbers_eq : p_numbers = ⟨[.app 2 (vars 24 8) 32, .app 2 (vars 16 8) 32, .app 1 (vars 0 16) 8, .app 0 (vars 0 16) 8], [], vars 32 64⟩ := by kernel_rfl

theorem numbers_F {R S : Int} (r0 : 0 ≤ R) (r1 : R < 2 ^ 256) (s0 : 0 ≤ S) (s1 : S < 2 ^ 256) : e_numbers.F (dig 32 8 R ++ dig 32 8 S) = byt R ++ byt S := by
  have l1 := dig_length 32 8 R
  have l2 := dig_length 32 8 S
  obtain ⟨E, hE⟩ : ∃ E, E = dig 32 8 R ++ dig 32 8 S := ⟨_, rfl⟩
  have lE : E.length = 16 := by rw [hE]; simp [dig_length]
  show p_numbers.out G_numbers _ = _
  rw [p_numbers_eq, ← hE]
  show (vars 32 64).map (·.val (runR G_numbers [.app 2 (vars 24 8) 32, .app 2 (vars 16 8) 32, .app 1 (vars 0 16) 8, .app 0 (vars 0 16) 8] E)) = _
  have t1 : runR G_numbers [.app 0 (vars 0 16) 8] E = E ++ dig 32 8 R := by
    show E ++ fit 8 (e_sigR.F ((vars 0 16).map (·.val E))) = _
    rw [vars_at (E := E) (i := 0) (A := []) (l := E) (B := []) (by simp) rfl lE, hE, sigR_F, fit_eq l1]
  have t2 : runR G_numbers [.app 1 (vars 0 16) 8, .app 0 (vars 0 16) 8] E = (E ++ dig 32 8 R) ++ dig 32 8 S := by
    show runR G_numbers [.app 0 (vars 0 16) 8] E ++ fit 8 (e_sigS.F ((vars 0 16).map (·.val (runR G_numbers [.app 0 (vars 0 16) 8] E)))) = _
    rw [t1, vars_at (E := E ++ dig 32 8 R) (i := 0) (A := []) (l := E) (B := dig 32 8 R) (by simp) rfl lE, hE, sigS_F, fit_eq l2]
  have t3 : runR G_numbers [.app 2 (vars 16 8) 32, .app 1 (vars 0 16) 8, .app 0 (vars 0 16) 8] E = ((E ++ dig 32 8 R) ++ dig 32 8 S) ++ byt R := by
    show runR G_numbers [.app 1 (vars 0 16) 8, .app 0 (vars 0 16) 8] E ++ fit 32 (e_sbytes.F ((vars 16 8).map (·.val (runR G_numbers [.app 1 (vars 0 16) 8, .app 0 (vars 0 16) 8] E)))) = _
    rw [t2, vars_at (A := E) (l := dig 32 8 R) (B := dig 32 8 S) (by simp) lE l1, sbytes_spec r0 r1]
    exact congrArg _ (fit_eq (byt_length R))
  have t4 : runR G_numbers [.app 2 (vars 24 8) 32, .app 2 (vars 16 8) 32, .app 1 (vars 0 16) 8, .app 0 (vars 0 16) 8] E = (((E ++ dig 32 8 R) ++ dig 32 8 S) ++ byt R) ++ byt S := by
    show runR G_numbers [.app 2 (vars 16 8) 32, .app 1 (vars 0 16) 8, .app 0 (vars 0 16) 8] E ++ fit 32 (e_sbytes.F ((vars 24 8).map (·.val (runR G_numbers [.app 2 (vars 16 8) 32, .app 1 (vars 0 16) 8, .app 0 (vars 0 16) 8] E)))) = _
    rw [t3, vars_at (A := E ++ dig 32 8 R) (l := dig 32 8 S) (B := byt R) (by simp) (by simp [lE, l1]) l2, sbytes_spec s0 s1]
    exact congrArg _ (fit_eq (byt_length S))
  rw [t4]
  exact vars_at (A := (E ++ dig 32 8 R) ++ dig 32 8 S) (l := byt R ++ byt S) (B := []) (by simp) (by simp [lE, l1, l2]) (by simp [byt_length])

theorem agg_tup {x y : List Int} (nb : List (Nat × Nat)) {pre E : List Int} {n : Nat} (hE : E = pre ++ (x ++ y)) (hn : pre.length = n) (hx : x.length = 32) (hy : y.length = 32) :
    (SV.tup [.agg (kcells n (List.replicate 32 (some .u8))), .agg (kcells (n + 32) (List.replicate 32 (some .u8)))]).den ⟨E, nb⟩ = .tuple #[.agg (x.map (Value.int .u8)).toArray, .agg (y.map (Value.int .u8)).toArray] := by
  have h1 := kcells_at .u8 nb x pre y E n 32 hE hn hx
  have h2 := kcells_at .u8 nb y (pre ++ x) [] E (n + 32) 32 (by simp [hE]) (by simp [hn, hx]) hy
  simp only [SV.den, S1.den, List.map, h1, h2]

/-- The numbers of a signature in memory. -/
theorem c_numbers {b o : Nat} {R S : Int} {w : World} (r0 : 0 ≤ R) (r1 : R < 2 ^ 256) (s0 : 0 ≤ S) (s1 : S < 2 ^ 256) (hc : ∀ (j : Nat) v, ((dig 32 8 R ++ dig 32 8 S).map (Value.int .u32))[j]? = some v → w.cell? ⟨b, o + j, none⟩ = some v) :
    Calls Try.prog 27 #[.pointer (some ⟨b, o, none⟩)] w fun en w' => en = .returned (.tuple #[.agg ((byt R).map (Value.int .u8)).toArray, .agg ((byt S).map (Value.int .u8)).toArray]) ∧ Below w.heap.size w w' := by
  have hl : (dig 32 8 R ++ dig 32 8 S).length = 16 := by simp [dig_length]
  refine (m_numbers.calls (by kernel_rfl) (base := dig 32 8 R ++ dig 32 8 S) (bs := [(b, o)]) (w := w) (by rw [hl]; rfl) rfl (fun h => by cases h) ?_ ?_).mono ?_
  · intro k so hso
    match k with
    | 0 =>
      obtain rfl := Option.some.inj hso
      have hk := kcells_at .u32 [(b, o)] (dig 32 8 R ++ dig 32 8 S) [] [] (dig 32 8 R ++ dig 32 8 S) 0 16 (by simp) rfl hl
      refine ⟨?_, fun j c hj => ?_, fun h => by cases h⟩
      · obtain ⟨x0, x1, x2, x3, x4, x5, x6, x7, hx⟩ := len8 (dig_length 32 8 R)
        have := hc 0 (.int .u32 x0) (by rw [hx]; rfl)
        exact World.block_lt_of_cell? _ _ this
      · exact hc j _ (by rw [← hk, List.getElem?_map, hj]; rfl)
    | k + 1 => cases hso
  · intro k k' so so' hoo h1 h2 h3
    match k, k' with
    | 0, 0 => exact absurd rfl hoo
    | k + 1, _ => cases h1
    | _, k' + 1 => cases h2
  · rintro en w' ⟨nb, hnb, _, _, hen, _, hfr⟩
    refine ⟨?_, hfr.below (Nat.le_refl _) ?_⟩
    · have hE : e_numbers.env (dig 32 8 R ++ dig 32 8 S) [(b, o)] nb = ⟨(dig 32 8 R ++ dig 32 8 S) ++ (byt R ++ byt S), [(b, o)] ++ nb⟩ := by
        unfold Entry.env
        rw [numbers_F r0 r1 s0 s1]
        show (⟨_ ++ fit 64 _, _⟩ : En) = _
        rw [fit_eq (by simp [byt_length])]
      rw [hE] at hen
      rw [hen]
      exact congrArg Ending.returned (agg_tup _ rfl hl (byt_length R) (byt_length S))
    · rintro k j hk ⟨q, so, hso, hw, _⟩
      match q with
      | 0 =>
        obtain rfl := Option.some.inj hso
        cases hw
      | q + 1 => cases hso

end Go.Proofs.Ytfeancgmmonebaa.Sx
