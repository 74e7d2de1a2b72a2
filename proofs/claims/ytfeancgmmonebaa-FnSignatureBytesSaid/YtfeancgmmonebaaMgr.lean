/-
  ParseDERSignature over bytes. Conditions: none; each theorem bears its own.
-/
import Derived.Test.YtfeancgmmonebaaMgp
import Derived.Test.YtfeancgmmonebaaMgq
import Derived.Laws.OwnMore
namespace Go.Proofs.Ytfeancgmmonebaa.Sx
open Go Go.Proofs Go.RowKit

theorem getD_drop (l : List Int) (k j : Nat) : (l.drop k).getD j 0 = l.getD (k + j) 0 := by simp [List.getD, List.getElem?_drop]

theorem sl3_getD (bs : List Int) (j : Nat) : (sl3 bs).getD j 0 = bs.getD (4 + sk1 bs + j) 0 := by
  unfold sl3
  rw [getD_drop, getD_drop]
  congr 1
  omega

theorem sigR_eq (bs : List Int) : sigR bs = be ((bs.drop 4).take (sk1 bs)) := by
  unfold sigR
  rw [List.drop_drop]

theorem sigS_eq (bs : List Int) : sigS bs = be ((bs.drop (4 + sk1 bs + 2)).take (sk2 bs)) := by
  unfold sigS sl3
  rw [List.drop_drop, List.drop_drop, show 2 + (2 + sk1 bs + 2) = 4 + sk1 bs + 2 by omega]

theorem bit_at {bs : List Int} (hd : Dg 8 bs) (j : Nat) : bit128 (bs.getD j 0) := bit128_of (hd.getD j).1 (hd.getD j).2

theorem addr_pos (a : Addr) {n : Nat} (h : 0 < n) : a.add n = ⟨a.block, a.off + n, none⟩ := by
  unfold Addr.add
  rw [if_neg (by omega)]

/-- The places of the bytes. -/
theorem derCells {w : World} {ad : Addr} {n : Nat} {bs : List Int} (hn : 8 ≤ n) (hr : Reads w w.heap.size (some ad) n (bs.map (Value.int .u8))) (hd : Dg 8 bs) :
    DerCells w ad n (sk1 bs) (sk2 bs) (bs.getD 0 0) (bs.getD 1 0) (bs.getD 2 0) (bs.getD 4 0) (bs.getD 5 0) (bs.getD (4 + sk1 bs) 0) (bs.getD (6 + sk1 bs) 0) (bs.getD (7 + sk1 bs) 0) := by
  have e1 : ((sk1 bs : Nat) : Int) = bs.getD 3 0 := by
    unfold sk1
    rw [getD_drop, show 2 + 1 = 3 from rfl]
    have := (hd.getD 3).1
    omega
  have e2 : ((sk2 bs : Nat) : Int) = bs.getD (5 + sk1 bs) 0 := by
    unfold sk2
    rw [sl3_getD, show 4 + sk1 bs + 1 = 5 + sk1 bs by omega]
    have := (hd.getD (5 + sk1 bs)).1
    omega
  refine ⟨?_, ?_, ?_, ?_, ?_, ?_, ?_, ?_, ?_, ?_, (hd.getD 1).1, (hd.getD 1).2, ?_, ?_⟩
  · have := hr.cell (j := 0) (by omega)
    rwa [show ad.add 0 = ad by unfold Addr.add; simp] at this
  · have := hr.cell (j := 1) (by omega)
    simpa [Addr.add] using this
  · have := hr.cell (j := 2) (by omega)
    simpa [Addr.add] using this
  · rw [e1]
    have := hr.cell (j := 3) (by omega)
    simpa [Addr.add] using this
  · have := hr.cell (j := 4) (by omega)
    simpa [Addr.add] using this
  · have := hr.cell (j := 5) (by omega)
    simpa [Addr.add] using this
  · intro h
    exact hr.cell h
  · intro h
    rw [e2]
    have := hr.cell h
    rw [addr_pos _ (by omega), show ad.off + (5 + sk1 bs) = ad.off + (4 + sk1 bs + 1) by omega] at this
    exact this
  · intro h
    have := hr.cell h
    rw [addr_pos _ (by omega), show ad.off + (6 + sk1 bs) = ad.off + (4 + sk1 bs + 1 + 1) by omega] at this
    exact this
  · intro h
    have := hr.cell h
    rw [addr_pos _ (by omega), show ad.off + (7 + sk1 bs) = ad.off + (4 + sk1 bs + 1 + 1 + 1) by omega] at this
    exact this
  · have := (hd.getD 3).2
    omega
  · have := (hd.getD (5 + sk1 bs)).2
    omega

theorem derAt_iff {bs : List Int} {n : Nat} (hl : bs.length = n) (h8 : 8 ≤ n) (h72 : n ≤ 72) (htot : n = 6 + sk1 bs + sk2 bs) (hr0 : 0 < sk1 bs) (hs0 : 0 < sk2 bs) (hd : Dg 8 bs) :
    DerAt n (sk1 bs) (sk2 bs) (bs.getD 0 0) (bs.getD 1 0) (bs.getD 2 0) (bs.getD 4 0) (bs.getD 5 0) (bs.getD (4 + sk1 bs) 0) (bs.getD (6 + sk1 bs) 0) (bs.getD (7 + sk1 bs) 0) (sigR bs) (sigS bs) ↔ SigOk bs := by
  have e1 : ((sk1 bs : Nat) : Int) = (bs.drop 2).getD 1 0 := by
    have := (Dg.getD (w := 8) (fun x hx => hd x (List.mem_of_mem_drop hx) : Dg 8 (bs.drop 2)) 1).1
    unfold sk1
    omega
  have e2 : ((sk2 bs : Nat) : Int) = (sl3 bs).getD 1 0 := by
    have := (Dg.getD (w := 8) (fun x hx => hd x (List.mem_of_mem_drop (List.mem_of_mem_drop hx)) : Dg 8 (sl3 bs)) 1).1
    unfold sk2
    omega
  have l3 : (sl3 bs).length = 2 + sk2 bs := by unfold sl3; simp; omega
  have f2 : (bs.drop 2).getD 0 0 = bs.getD 2 0 := getD_drop bs 2 0
  have f4 : (bs.drop 2).getD 2 0 = bs.getD 4 0 := getD_drop bs 2 2
  have f5 : (bs.drop 2).getD 3 0 = bs.getD 5 0 := getD_drop bs 2 3
  have g0 : (sl3 bs).getD 0 0 = bs.getD (4 + sk1 bs) 0 := sl3_getD bs 0
  have g2 : (sl3 bs).getD 2 0 = bs.getD (6 + sk1 bs) 0 := by rw [sl3_getD]; congr 1; omega
  have g3 : (sl3 bs).getD 3 0 = bs.getD (7 + sk1 bs) 0 := by rw [sl3_getD]; congr 1; omega
  have t1 : ((bs.drop 2).getD 1 0).toNat = sk1 bs := rfl
  have t2 : ((sl3 bs).getD 1 0).toNat = sk2 bs := rfl
  have b1 : be (((bs.drop 2).drop 2).take (sk1 bs)) = sigR bs := rfl
  have b2 : be (((sl3 bs).drop 2).take (sk2 bs)) = sigS bs := rfl
  have hfn : fn < 2 ^ 256 := by decide
  constructor
  · rintro ⟨a0, a1, a2, a3, a4, a5, a6, a7, a8, a9, a10, a11, a12, a13, a14⟩
    refine ⟨by omega, by omega, a0, by omega, ⟨by simp; omega, by rw [f2]; exact a2, by rw [← e1]; omega, by rw [← e1]; simp; omega, by rw [f4]; exact a6, by rw [← e1, f4, f5]; omega, ?_⟩, ⟨by omega, by rw [g0]; exact a3, by rw [← e2]; omega, by rw [← e2]; omega, by rw [g2]; exact a9, by rw [← e2, g2, g3]; omega, ?_⟩, l3, ⟨a11, a12⟩, ⟨a13, a14⟩⟩
    · rw [t1, b1]
      omega
    · rw [t2, b2]
      omega
  · intro q
    have d1 := q.d1
    have d2 := q.d2
    have p1 := d1.pad
    have p2 := d2.pad
    rw [← e1, f4, f5] at p1
    rw [← e2, g2, g3] at p2
    refine ⟨q.x0, by rw [q.x1, hl], by rw [← f2]; exact d1.x0, by rw [← g0]; exact d2.x0, htot, hr0, by rw [← f4]; exact d1.y0, by omega, hs0, by rw [← g2]; exact d2.y0, by omega, q.rR.1, q.rR.2, q.rS.1, q.rS.2⟩

theorem sigOk_fit {bs : List Int} {n : Nat} (hl : bs.length = n) (hd : Dg 8 bs) (q : SigOk bs) : n = 6 + sk1 bs + sk2 bs ∧ 0 < sk1 bs ∧ 0 < sk2 bs := by
  have e1 : ((sk1 bs : Nat) : Int) = (bs.drop 2).getD 1 0 := by
    have := (Dg.getD (w := 8) (fun x hx => hd x (List.mem_of_mem_drop hx) : Dg 8 (bs.drop 2)) 1).1
    unfold sk1
    omega
  have e2 : ((sk2 bs : Nat) : Int) = (sl3 bs).getD 1 0 := by
    have := (Dg.getD (w := 8) (fun x hx => hd x (List.mem_of_mem_drop (List.mem_of_mem_drop hx)) : Dg 8 (sl3 bs)) 1).1
    unfold sk2
    omega
  have h1 := q.d1.x1
  have h2 := q.d2.x1
  have h3 := q.d1.fit
  have h4 := q.d2.len
  have h5 := q.all
  rw [← e1] at h1 h3
  rw [← e2] at h2
  have h6 : (sl3 bs).length = n - 2 - (2 + sk1 bs) := by unfold sl3; simp; omega
  simp at h3
  omega

theorem parse_der (n c : Nat) (bs : List Int) (A : Option Addr) (w : World) (hn : n < 2147483648) (hc : n ≤ c) (hr : Reads w w.heap.size A n (bs.map (Value.int .u8))) (hd : Dg 8 bs) :
    Calls Try.prog 26 #[.slice A n c] w (DerPost (SigOk bs) (sigR bs) (sigS bs) w) := by
  have hl : bs.length = n := by have h : (bs.map (Value.int .u8)).length = n := hr.1; simpa using h
  by_cases h8 : n < 8 ∨ 72 < n
  · refine (der_short n c A w (by omega)).mono ?_
    rintro e w' ⟨⟨t, x, rfl⟩, hb⟩
    exact ⟨.inr ⟨fun q => by have := q.n8; have := q.n72; omega, t, x, rfl⟩, hb⟩
  · obtain ⟨ad, rfl, _, _⟩ := hr.2 (by omega)
    have C := derCells (by omega) hr hd
    by_cases hfit : n = 6 + sk1 bs + sk2 bs ∧ 0 < sk1 bs ∧ 0 < sk2 bs
    · have hR : Rest w w.heap.size (.slice (some (ad.add 4)) (sk1 bs) (c - 4)) (sigR bs) := by
        refine ⟨some (ad.add 4), sk1 bs, c - 4, (bs.drop 4).take (sk1 bs), rfl, by omega, by omega, ?_, fun x hx => hd x (List.mem_of_mem_drop (List.mem_of_mem_take hx)), (sigR_eq bs).symm⟩
        rw [List.map_take, List.map_drop]
        exact (hr.drop 4).take (by omega)
      have hS : Rest w w.heap.size (.slice (some (ad.add (4 + sk1 bs + 2))) (sk2 bs) (c - (4 + sk1 bs + 2))) (sigS bs) := by
        refine ⟨some (ad.add (4 + sk1 bs + 2)), sk2 bs, c - (4 + sk1 bs + 2), (bs.drop (4 + sk1 bs + 2)).take (sk2 bs), rfl, by omega, by omega, ?_, fun x hx => hd x (List.mem_of_mem_drop (List.mem_of_mem_take hx)), (sigS_eq bs).symm⟩
        rw [List.map_take, List.map_drop]
        exact (hr.drop (4 + sk1 bs + 2)).take (by omega)
      refine (der_main n c (sk1 bs) (sk2 bs) ad w _ _ _ _ _ _ _ _ (sigR bs) (sigS bs) C (by omega) (by omega) hc hfit.1 hfit.2.1 hfit.2.2 (bit_at hd _) (bit_at hd _) (bit_at hd _) (bit_at hd _) hR hS).mono ?_
      rintro e w' ⟨h, hb⟩
      rw [derAt_iff hl (by omega) (by omega) hfit.1 hfit.2.1 hfit.2.2 hd] at h
      exact ⟨h, hb⟩
    · refine (der_bad n c (sk1 bs) (sk2 bs) ad w _ _ _ _ _ _ _ _ C (by omega) (by omega) (by omega)).mono ?_
      rintro e w' ⟨⟨t, x, rfl⟩, hb⟩
      exact ⟨.inr ⟨fun q => hfit (sigOk_fit hl hd q), t, x, rfl⟩, hb⟩

end Go.Proofs.Ytfeancgmmonebaa.Sx

/-
  A region of which the kit's walk stands at the head, run by the executor with what follows it. Conditions: none; each theorem bears its own.
-/
namespace Go.Proofs.Ytfeancgmmonebaa.Sx
open Go Go.Proofs Go.RowKit

def ekRet : EK → Bool
  | .ret => true
  | _ => false

def tailRunS (P : Program) (Γ : List Entry) (t : Tail) (c1 c2 : Code) (rs : List ResultVar) (res : List RSh) : Option (List Need × List Path) :=
  if t.ok then
    match exec P Γ 4000 c1 t.st with
    | some (n1, ss) => match thenAll (exec P Γ 4000 c2) ss with
      | some (n2, outs) => if outs.all (fun x => ekRet x.1) then match tailPaths P rs res outs with
        | some ps => some (n1 ++ n2, ps)
        | none => none
        else none
      | none => none
    | none => none
  else none

theorem tail_seq {P : Program} {Γ : List Entry} (hmix : P.follows .mixedOrders = true) (hΓ : ∀ e ∈ Γ, Meets P e) {t : Tail} {c1 c2 : Code} {fn : Func} {res : List RSh} {nds : List Need} {ps : List Path}
    (h : tailRunS P Γ t c1 c2 fn.results.toList res = some (nds, ps)) {base : List Int} {bs : List (Nat × Nat)} (hb : base.length = t.n) (hbs : bs.length = t.mem.length) (hn : ∀ nd ∈ nds, nd.holds Γ base) {a : Act} (ha : a.tmps.size = t.nt) (hd : a.defers = [])
    (hs : slotsOk ⟨base, bs⟩ a.tmps t.slots) {w : World} (hm : MemOk w ⟨base, bs⟩ t.mem) (hdis : Dis ⟨base, bs⟩ t.mem) {R : Ending → World → Prop} {K : Act → World → Prop} {Q' : Exit → Act → World → Prop} (hK : ∀ a w, c2.wp P Q' a w → K a w) (hQ : ∀ a w, bodyPost P fn R .ret a w → Q' .ret a w)
    (hR : ∀ p ∈ ps, asmHolds (runR Γ p.defs base) p.asm → ∀ w', Fr (WOf ⟨base, bs⟩ t.mem) w w' → R (.returned (resV res (p.outs.map (·.val (runR Γ p.defs base))))) w') :
    c1.wp P (Exit.then K Q') a w := by
  unfold tailRunS at h
  split at h
  case isFalse => cases h
  rename_i hok
  split at h
  case h_2 => cases h
  rename_i n1 ss hrun
  split at h
  case h_2 => cases h
  rename_i n2 outs hex
  split at h
  case isFalse => cases h
  rename_i hall
  split at h
  case h_2 => cases h
  rename_i ps' hps
  simp only [Option.some.injEq, Prod.mk.injEq] at h
  obtain ⟨rfl, rfl⟩ := h
  have hret : ∀ x ∈ outs, x.1 = .ret := fun x hx => by
    have := List.all_eq_true.1 hall x hx
    cases hk : x.1 <;> simp [hk, ekRet] at this <;> rfl
  have hend : ∀ x ∈ outs, ∀ ρ' a' w', RelA Γ base ρ' x.2 a' → RelM (WOf ⟨base, bs⟩ t.mem) w bs ρ' x.2 w' → Q' x.1.ex a' w' := fun x hx ρ' a' w' hA hM => by
    have h1 := tail_end hps hR x hx ρ' a' w' hA hM
    rw [hret x hx] at h1 ⊢
    exact hQ _ _ h1
  refine exec_sound hmix hΓ 4000 c1 _ t.st ⟨base, bs⟩ a w n1 ss hrun (fun nd hnd => hn nd (by simp [hnd])) (Tail.relA hok hb hbs ha hd hs) (Tail.relM hok hm hdis) fun x hx ρ' a' w' hA hM => ?_
  rcases thenAll_spec hex x hx with ⟨hx1, n3, o3, g1, g2, g3⟩ | ⟨hne, hmem⟩
  · rw [hx1]
    exact hK _ _ (exec_sound hmix hΓ 4000 c2 _ x.2 ρ' a' w' n3 o3 g1 (fun nd hnd => hn nd (by simp [g2 nd hnd])) hA hM fun y hy => hend y (g3 y hy))
  · have h1 := hend x hmem ρ' a' w' hA hM
    rw [hret x hmem] at h1 ⊢
    exact h1

end Go.Proofs.Ytfeancgmmonebaa.Sx

/-
  A signature's numbers, and impl.ReadSignature. Conditions: none; each theorem bears its own.
-/
namespace Go.Proofs.Ytfeancgmmonebaa.Sx
open Go Go.Proofs Go.RowKit

/-- The 32 bytes of a number. -/
def byt (V : Int) : List Int := (dig 8 32 V).reverse
theorem byt_length (V : Int) : (byt V).length = 32 := by simp [byt, dig_length]

theorem vars_at {A l B E : List Int} {i n : Nat} (hE : E = A ++ (l ++ B)) (ha : A.length = i) (hl : l.length = n) : (vars i n).map (·.val E) = l := by
  rw [vars_val, hE, List.drop_left' ha, fit_append hl]

theorem sigR_F (R S : Int) : e_sigR.F (dig 32 8 R ++ dig 32 8 S) = dig 32 8 R := by
  obtain ⟨x0, x1, x2, x3, x4, x5, x6, x7, hx⟩ := len8 (dig_length 32 8 R)
  obtain ⟨y0, y1, y2, y3, y4, y5, y6, y7, hy⟩ := len8 (dig_length 32 8 S)
  rw [hx, hy]
  rfl

theorem sigS_F (R S : Int) : e_sigS.F (dig 32 8 R ++ dig 32 8 S) = dig 32 8 S := by
  obtain ⟨x0, x1, x2, x3, x4, x5, x6, x7, hx⟩ := len8 (dig_length 32 8 R)
  obtain ⟨y0, y1, y2, y3, y4, y5, y6, y7, hy⟩ := len8 (dig_length 32 8 S)
  rw [hx, hy]
  rfl

theorem p_numbers_eq : p_numbers = ⟨[.app 2 (vars 24 8) 32, .app 2 (vars 16 8) 32, .app 1 (vars 0 16) 8, .app 0 (vars 0 16) 8], [], vars 32 64⟩ := by kernel_rfl

theorem numbers_F {R S : Int} (r0 : 0 ≤ R) (r1 : R < 2 ^ 256) (s0 : 0 ≤ S) (s1 : S < 2 ^ 256) : e_numbers.F (dig 32 8 R ++ dig 32 8 S) = byt R ++ byt S := by
  have l1 := dig_length 32 8 R
  have l2 := dig_length 32 8 S
  obtain ⟨E, hE⟩ : ∃ E, E = dig 32 8 R ++ dig 32 8 S := ⟨_, rfl⟩
  have lE : E.length = 16 := by rw [hE]; simp [dig_length]
  show p_numbers.out G_numbers _ = _
  rw [p_numbers_eq, ← hE]
  show (vars 32 64).map (·.val (runR G_numbers [.app 2 (vars 24 8) 32, .app 2 (vars 16 8) 32, .app 1 (vars 0 16) 8, .app 0 (vars 0 16) 8] E)) = _
  have t1 : runR G_numbers [.app 0 (vars 0 16) 8] E = E ++ dig 32 8 R := by
    show E ++ fit 8 (e_sigR.F ((vars 0 16).map (·.val E))) = _
    rw [vars_at (E := E) (i := 0) (A := []) (l := E) (B := []) (by simp) rfl lE, hE, sigR_F, fit_eq l1]
  have t2 : runR G_numbers [.app 1 (vars 0 16) 8, .app 0 (vars 0 16) 8] E = (E ++ dig 32 8 R) ++ dig 32 8 S := by
    show runR G_numbers [.app 0 (vars 0 16) 8] E ++ fit 8 (e_sigS.F ((vars 0 16).map (·.val (runR G_numbers [.app 0 (vars 0 16) 8] E)))) = _
    rw [t1, vars_at (E := E ++ dig 32 8 R) (i := 0) (A := []) (l := E) (B := dig 32 8 R) (by simp) rfl lE, hE, sigS_F, fit_eq l2]
  have t3 : runR G_numbers [.app 2 (vars 16 8) 32, .app 1 (vars 0 16) 8, .app 0 (vars 0 16) 8] E = ((E ++ dig 32 8 R) ++ dig 32 8 S) ++ byt R := by
    show runR G_numbers [.app 1 (vars 0 16) 8, .app 0 (vars 0 16) 8] E ++ fit 32 (e_sbytes.F ((vars 16 8).map (·.val (runR G_numbers [.app 1 (vars 0 16) 8, .app 0 (vars 0 16) 8] E)))) = _
    rw [t2, vars_at (A := E) (l := dig 32 8 R) (B := dig 32 8 S) (by simp) lE l1, sbytes_spec r0 r1]
    exact congrArg _ (fit_eq (byt_length R))
  have t4 : runR G_numbers [.app 2 (vars 24 8) 32, .app 2 (vars 16 8) 32, .app 1 (vars 0 16) 8, .app 0 (vars 0 16) 8] E = (((E ++ dig 32 8 R) ++ dig 32 8 S) ++ byt R) ++ byt S := by
    show runR G_numbers [.app 2 (vars 16 8) 32, .app 1 (vars 0 16) 8, .app 0 (vars 0 16) 8] E ++ fit 32 (e_sbytes.F ((vars 24 8).map (·.val (runR G_numbers [.app 2 (vars 16 8) 32, .app 1 (vars 0 16) 8, .app 0 (vars 0 16) 8] E)))) = _
    rw [t3, vars_at (A := E ++ dig 32 8 R) (l := dig 32 8 S) (B := byt R) (by simp) (by simp [lE, l1]) l2, sbytes_spec s0 s1]
    exact congrArg _ (fit_eq (byt_length S))
  rw [t4]
  exact vars_at (A := (E ++ dig 32 8 R) ++ dig 32 8 S) (l := byt R ++ byt S) (B := []) (by simp) (by simp [lE, l1, l2]) (by simp [byt_length])

theorem agg_tup {x y : List Int} (nb : List (Nat × Nat)) {pre E : List Int} {n : Nat} (hE : E = pre ++ (x ++ y)) (hn : pre.length = n) (hx : x.length = 32) (hy : y.length = 32) :
    (SV.tup [.agg (kcells n (List.replicate 32 (some .u8))), .agg (kcells (n + 32) (List.replicate 32 (some .u8)))]).den ⟨E, nb⟩ = .tuple #[.agg (x.map (Value.int .u8)).toArray, .agg (y.map (Value.int .u8)).toArray] := by
  have h1 := kcells_at .u8 nb x pre y E n 32 hE hn hx
  have h2 := kcells_at .u8 nb y (pre ++ x) [] E (n + 32) 32 (by simp [hE]) (by simp [hn, hx]) hy
  simp only [SV.den, S1.den, List.map, h1, h2]

/-- The numbers of a signature in memory. -/
theorem c_numbers {b o : Nat} {R S : Int} {w : World} (r0 : 0 ≤ R) (r1 : R < 2 ^ 256) (s0 : 0 ≤ S) (s1 : S < 2 ^ 256) (hc : ∀ (j : Nat) v, ((dig 32 8 R ++ dig 32 8 S).map (Value.int .u32))[j]? = some v → w.cell? ⟨b, o + j, none⟩ = some v) :
    Calls Try.prog 27 #[.pointer (some ⟨b, o, none⟩)] w fun en w' => en = .returned (.tuple #[.agg ((byt R).map (Value.int .u8)).toArray, .agg ((byt S).map (Value.int .u8)).toArray]) ∧ Below w.heap.size w w' := by
  have hl : (dig 32 8 R ++ dig 32 8 S).length = 16 := by simp [dig_length]
  refine (m_numbers.calls (by kernel_rfl) (base := dig 32 8 R ++ dig 32 8 S) (bs := [(b, o)]) (w := w) (by rw [hl]; rfl) rfl (fun h => by cases h) ?_ ?_).mono ?_
  · intro k so hso
    match k with
    | 0 =>
      obtain rfl := Option.some.inj hso
      have hk := kcells_at .u32 [(b, o)] (dig 32 8 R ++ dig 32 8 S) [] [] (dig 32 8 R ++ dig 32 8 S) 0 16 (by simp) rfl hl
      refine ⟨?_, fun j c hj => ?_, fun h => by cases h⟩
      · obtain ⟨x0, x1, x2, x3, x4, x5, x6, x7, hx⟩ := len8 (dig_length 32 8 R)
        have := hc 0 (.int .u32 x0) (by rw [hx]; rfl)
        exact World.block_lt_of_cell? _ _ this
      · exact hc j _ (by rw [← hk, List.getElem?_map, hj]; rfl)
    | k + 1 => cases hso
  · intro k k' so so' hoo h1 h2 h3
    match k, k' with
    | 0, 0 => exact absurd rfl hoo
    | k + 1, _ => cases h1
    | _, k' + 1 => cases h2
  · rintro en w' ⟨nb, hnb, _, _, hen, _, hfr⟩
    refine ⟨?_, hfr.below (Nat.le_refl _) ?_⟩
    · have hE : e_numbers.env (dig 32 8 R ++ dig 32 8 S) [(b, o)] nb = ⟨(dig 32 8 R ++ dig 32 8 S) ++ (byt R ++ byt S), [(b, o)] ++ nb⟩ := by
        unfold Entry.env
        rw [numbers_F r0 r1 s0 s1]
        show (⟨_ ++ fit 64 _, _⟩ : En) = _
        rw [fit_eq (by simp [byt_length])]
      rw [hE] at hen
      rw [hen]
      exact congrArg Ending.returned (agg_tup _ rfl hl (byt_length R) (byt_length S))
    · rintro k j hk ⟨q, so, hso, hw, _⟩
      match q with
      | 0 =>
        obtain rfl := Option.some.inj hso
        cases hw
      | q + 1 => cases hso

end Go.Proofs.Ytfeancgmmonebaa.Sx

/-
  Numbers as a signature's bytes have them: as few bytes as can be; they are told by the number. Conditions: none; each theorem bears its own.
-/
namespace Go.Proofs.Ytfeancgmmonebaa.Sx
open Go Go.Proofs Go.RowKit

theorem be_hi {l : List Int} (hd : Dg 8 l) : 0 ≤ be l ∧ be l < 2 ^ (8 * l.length) := by
  have := num_bounds (Dg.reverse hd)
  rwa [List.length_reverse] at this

theorem be_lo {y : Int} {r : List Int} (hd : Dg 8 (y :: r)) (hy : y ≠ 0) : 2 ^ (8 * r.length) ≤ be (y :: r) := by
  have h0 := hd y (by simp)
  have hr := num_bounds (Dg.reverse (Dg.tail hd))
  show (2 : Int) ^ (8 * r.length) ≤ num 8 (y :: r).reverse
  rw [List.reverse_cons, num_app, List.length_reverse]
  have h1 : num 8 [y] = y := by simp [num]
  rw [h1]
  have h3 : (2 : Int) ^ (8 * r.length) * 1 ≤ 2 ^ (8 * r.length) * y :=
    Int.mul_le_mul_of_nonneg_left (by omega) (Int.le_of_lt (Int.pow_pos (by omega)))
  have := hr.1
  omega

theorem be_dig {l : List Int} (hd : Dg 8 l) : l = (dig 8 l.length (be l)).reverse := by
  have h := dig_num (Dg.reverse hd)
  rw [List.length_reverse] at h
  have : dig 8 l.length (be l) = l.reverse := h
  rw [this, List.reverse_reverse]

theorem two_pow_le {a b : Nat} (h : a ≤ b) : (2 : Int) ^ a ≤ 2 ^ b := by
  have := Nat.pow_le_pow_right (n := 2) (by omega) h
  exact_mod_cast this

theorem nozero_shorter {x y : Int} {r t : List Int} (hd : Dg 8 (x :: r)) (hd' : Dg 8 (y :: t)) (hy : y ≠ 0) (h : be (x :: r) = be (y :: t)) : ¬ r.length < t.length := by
  intro hlt
  have h1 := (be_hi hd).2
  have h2 := be_lo hd' hy
  have h3 := two_pow_le (show 8 * (x :: r).length ≤ 8 * t.length by simp; omega)
  omega

/-- Without a zero ahead the number tells the bytes. -/
theorem nozero_unique {l l' : List Int} (hd : Dg 8 l) (hd' : Dg 8 l') (hz : NoZero l) (hz' : NoZero l') (h : be l = be l') : l = l' := by
  match l, l' with
  | [], [] => rfl
  | [], y :: t =>
    exfalso
    have h2 := be_lo hd' (hz' y t rfl)
    have h3 : (0 : Int) < 2 ^ (8 * t.length) := Int.pow_pos (by omega)
    have h4 : be [] = 0 := rfl
    omega
  | x :: r, [] =>
    exfalso
    have h2 := be_lo hd (hz x r rfl)
    have h3 : (0 : Int) < 2 ^ (8 * r.length) := Int.pow_pos (by omega)
    have h4 : be [] = 0 := rfl
    omega
  | x :: r, y :: t =>
    have h1 := nozero_shorter hd hd' (hz' y t rfl) h
    have h2 := nozero_shorter hd' hd (hz x r rfl) h.symm
    have hl : (x :: r).length = (y :: t).length := by simp; omega
    rw [be_dig hd, be_dig hd', hl, h]

/-- As few bytes as can be, the highest bit not set. -/
structure Canon (V : Int) (c : List Int) : Prop where
  dg : Dg 8 c
  val : be c = V
  ne : 1 ≤ c.length
  low : c.getD 0 0 < 128
  pad : ¬ (1 < c.length ∧ c.getD 0 0 = 0 ∧ c.getD 1 0 < 128)

theorem Canon.strip {V : Int} {c : List Int} (h : Canon V c) : (∃ r, c = 0 :: r ∧ NoZero r ∧ Dg 8 r ∧ be r = V ∧ (∀ y t, r = y :: t → 128 ≤ y)) ∨ (∃ x r, c = x :: r ∧ x ≠ 0 ∧ x < 128 ∧ NoZero c) := by
  obtain ⟨hd, hv, hl, hlo, hp⟩ := h
  match c, hl with
  | x :: r, _ =>
    by_cases hx : x = 0
    · subst hx
      have key : ∀ y t, r = y :: t → 128 ≤ y := fun y t hr => by
        subst hr
        simp at hp
        omega
      exact .inl ⟨r, rfl, fun y t hr => by have := key y t hr; omega, Dg.tail hd, by rw [← be_cons_zero]; exact hv, key⟩
    · refine .inr ⟨x, r, rfl, hx, by simpa using hlo, fun y t hr => ?_⟩
      cases hr
      exact hx

theorem canon_unique {V : Int} {c c' : List Int} (h : Canon V c) (h' : Canon V c') : c = c' := by
  rcases h.strip with ⟨r, rfl, hz, hd, hv, hk⟩ | ⟨x, r, rfl, hx, hlo, hz⟩
  · rcases h'.strip with ⟨r', rfl, hz', hd', hv', _⟩ | ⟨x', r', rfl, hx', hlo', hz'⟩
    · rw [nozero_unique hd hd' hz hz' (hv.trans hv'.symm)]
    · have := nozero_unique hd h'.dg hz hz' (hv.trans h'.val.symm)
      have := hk x' r' this
      omega
  · rcases h'.strip with ⟨r', rfl, hz', hd', hv', hk'⟩ | ⟨x', r', rfl, hx', hlo', hz'⟩
    · have := nozero_unique hd' h.dg hz' hz (hv'.trans h.val.symm)
      have := hk' x r this
      omega
    · exact nozero_unique h.dg h'.dg hz hz' (h.val.trans h'.val.symm)

theorem Canon.len {V : Int} {c : List Int} (h : Canon V c) (hV : V < 2 ^ 256) : c.length ≤ 33 := by
  rcases h.strip with ⟨r, rfl, hz, hd, hv, _⟩ | ⟨x, r, rfl, hx, _, hz⟩
  · match r, hz, hd, hv with
    | [], _, _, _ => simp
    | y :: t, hz, hd, hv =>
      have h1 := be_lo hd (hz y t rfl)
      rcases Nat.lt_or_ge 31 t.length with hh | hh
      · have := two_pow_le (show 256 ≤ 8 * t.length by omega)
        omega
      · simp; omega
  · have h1 := be_lo h.dg hx
    have hv := h.val
    rcases Nat.lt_or_ge 31 r.length with hh | hh
    · have := two_pow_le (show 256 ≤ 8 * r.length by omega)
      omega
    · simp; omega

/-- The bytes of a signature. -/
def sigB (c d : List Int) : List Int := 48 :: ((c.length + d.length + 4 : Nat) : Int) :: 2 :: (c.length : Int) :: (c ++ (2 :: (d.length : Int) :: d))

theorem sigB_length (c d : List Int) : (sigB c d).length = c.length + d.length + 6 := by simp [sigB]; omega

theorem sk1_sigB (c d : List Int) : sk1 (sigB c d) = c.length := by simp [sk1, sigB]
theorem sl3_sigB (c d : List Int) : sl3 (sigB c d) = 2 :: (d.length : Int) :: d := by
  unfold sl3
  rw [sk1_sigB]
  show List.drop (2 + c.length) (2 :: (c.length : Int) :: (c ++ (2 :: (d.length : Int) :: d))) = _
  rw [show 2 + c.length = c.length + 1 + 1 by omega, List.drop_succ_cons, List.drop_succ_cons, List.drop_left]
theorem sk2_sigB (c d : List Int) : sk2 (sigB c d) = d.length := by simp [sk2, sl3_sigB]
theorem sigR_sigB (c d : List Int) : sigR (sigB c d) = be c := by
  unfold sigR
  rw [sk1_sigB]
  show be (List.take c.length (c ++ (2 :: (d.length : Int) :: d))) = _
  rw [List.take_left]
theorem sigS_sigB (c d : List Int) : sigS (sigB c d) = be d := by
  unfold sigS
  rw [sk2_sigB, sl3_sigB]
  show be (List.take d.length d) = _
  rw [List.take_length]

theorem sigB_ok {R S : Int} {c d : List Int} (hc : Canon R c) (hd : Canon S d) (hR : 0 < R ∧ R < fn) (hS : 0 < S ∧ S < fn) : SigOk (sigB c d) ∧ sigR (sigB c d) = R ∧ sigS (sigB c d) = S := by
  have eR : sigR (sigB c d) = R := (sigR_sigB c d).trans hc.val
  have eS : sigS (sigB c d) = S := (sigS_sigB c d).trans hd.val
  have lc := hc.len (by have := fn_lt; omega)
  have ld := hd.len (by have := fn_lt; omega)
  have nc := hc.ne
  have nd := hd.ne
  have hl := sigB_length c d
  refine ⟨⟨by omega, by omega, rfl, ?_, ?_, ?_, ?_, by rw [eR]; exact hR, by rw [eS]; exact hS⟩, eR, eS⟩
  · rw [hl]
    show ((c.length + d.length + 4 : Nat) : Int) = _
    omega
  · have e : (sigB c d).drop 2 = 2 :: (c.length : Int) :: (c ++ (2 :: (d.length : Int) :: d)) := rfl
    rw [e]
    have g0 : (c ++ (2 :: (d.length : Int) :: d)).getD 0 0 = c.getD 0 0 := by
      simp only [List.getD]
      rw [List.getElem?_append_left (by omega)]
    refine ⟨by simp; omega, rfl, by show (c.length : Int) ≠ 0; omega, by show (c.length : Int) ≤ _; simp; omega, ?_, ?_, ?_⟩
    · show (c ++ (2 :: (d.length : Int) :: d)).getD 0 0 < 128
      rw [g0]
      exact hc.low
    · show ¬ (1 < (c.length : Int) ∧ (c ++ (2 :: (d.length : Int) :: d)).getD 0 0 = 0 ∧ (c ++ (2 :: (d.length : Int) :: d)).getD 1 0 < 128)
      rw [g0]
      rintro ⟨h1, h2, h3⟩
      refine hc.pad ⟨by omega, h2, ?_⟩
      simp only [List.getD] at h3 ⊢
      rwa [List.getElem?_append_left (by omega)] at h3
    · show be (List.take (Int.toNat (c.length : Int)) (c ++ (2 :: (d.length : Int) :: d))) < _
      rw [Int.toNat_natCast, List.take_left, hc.val]
      have := fn_lt
      omega
  · rw [sl3_sigB]
    refine ⟨by simp; omega, rfl, by show (d.length : Int) ≠ 0; omega, by show (d.length : Int) ≤ _; simp; omega, hd.low, ?_, ?_⟩
    · show ¬ (1 < (d.length : Int) ∧ d.getD 0 0 = 0 ∧ d.getD 1 0 < 128)
      rintro ⟨h1, h2, h3⟩
      exact hd.pad ⟨by omega, h2, h3⟩
    · show be (List.take (Int.toNat (d.length : Int)) d) < _
      rw [Int.toNat_natCast, List.take_length, hd.val]
      have := fn_lt
      omega
  · rw [sl3_sigB, sk2_sigB]
    simp
    omega

theorem derN_parts {l : List Int} (hd : Dg 8 l) (h : DerN l) {k : Nat} (hk : k = (l.getD 1 0).toNat) : Canon (be ((l.drop 2).take k)) ((l.drop 2).take k) ∧ ((l.drop 2).take k).length = k ∧ l = 2 :: (k : Int) :: ((l.drop 2).take k ++ l.drop (2 + k)) := by
  obtain ⟨h1, h2, h3, h4, h5, h6, h7⟩ := h
  match l, h1 with
  | a :: b :: y :: t, _ =>
    have hb : 0 ≤ b := (hd b (by simp)).1
    have e1 : (a :: b :: y :: t).getD 1 0 = b := rfl
    have e0 : (a :: b :: y :: t).getD 0 0 = a := rfl
    have e2 : (a :: b :: y :: t).getD 2 0 = y := rfl
    have e3 : (a :: b :: y :: t).getD 3 0 = t.getD 0 0 := rfl
    rw [e1] at hk h3 h4 h6
    rw [e0] at h2
    rw [e2] at h5 h6
    rw [e3] at h6
    have hbk : b = k := by omega
    simp only [List.length_cons] at h4
    have hlen : (List.take k (y :: t)).length = k := by rw [List.length_take, List.length_cons]; omega
    show Canon (be (List.take k (y :: t))) (List.take k (y :: t)) ∧ (List.take k (y :: t)).length = k ∧ a :: b :: y :: t = 2 :: (k : Int) :: (List.take k (y :: t) ++ List.drop (2 + k) (a :: b :: y :: t))
    obtain ⟨j, rfl⟩ : ∃ j, k = j + 1 := ⟨k - 1, by omega⟩
    refine ⟨⟨fun x hx => hd x (List.mem_cons_of_mem _ (List.mem_cons_of_mem _ (List.mem_of_mem_take hx))), rfl, by omega, ?_, ?_⟩, hlen, ?_⟩
    · simpa using h5
    · rw [hlen]
      rintro ⟨g1, g2, g3⟩
      refine h6 ⟨by omega, by simpa using g2, ?_⟩
      rw [List.take_succ_cons] at g3
      obtain ⟨i, rfl⟩ : ∃ i, j = i + 1 := ⟨j - 1, by omega⟩
      match t, g3 with
      | [], g3 => simp
      | u :: v, g3 => simpa using g3
    · rw [h2, hbk, show 2 + (j + 1) = j + 1 + 1 + 1 by omega, List.drop_succ_cons, List.drop_succ_cons, List.take_append_drop]

/-- A signature's bytes are those of its numbers. -/
theorem sigOk_sigB {bs : List Int} (hd : Dg 8 bs) (h : SigOk bs) : ∃ c d, Canon (sigR bs) c ∧ Canon (sigS bs) d ∧ bs = sigB c d := by
  have hd2 : Dg 8 (bs.drop 2) := fun x hx => hd x (List.mem_of_mem_drop hx)
  have hd3 : Dg 8 (sl3 bs) := fun x hx => hd2 x (List.mem_of_mem_drop hx)
  obtain ⟨c1, c2, c3⟩ := derN_parts hd2 h.d1 (k := sk1 bs) rfl
  obtain ⟨d1, d2, d3⟩ := derN_parts hd3 h.d2 (k := sk2 bs) rfl
  refine ⟨((bs.drop 2).drop 2).take (sk1 bs), ((sl3 bs).drop 2).take (sk2 bs), c1, d1, ?_⟩
  have hall := h.all
  have he : (sl3 bs).drop (2 + sk2 bs) = [] := List.drop_eq_nil_of_le (by omega)
  rw [he, List.append_nil] at d3
  have hsl : (bs.drop 2).drop (2 + sk1 bs) = sl3 bs := rfl
  rw [hsl] at c3
  have n8 := h.n8
  have hx0 := h.x0
  have hx1 := h.x1
  match bs, n8, hx0, hx1, c2, d2, c3, d3 with
  | a :: b :: r, n8, hx0, hx1, c2, d2, c3, d3 =>
    have ha : a = 48 := hx0
    have hb : b = ((a :: b :: r).length : Nat) - 2 := hx1
    generalize hc : ((a :: b :: r).drop 2 |>.drop 2).take (sk1 (a :: b :: r)) = c at *
    generalize hdd : ((sl3 (a :: b :: r)).drop 2).take (sk2 (a :: b :: r)) = d at *
    have hr : r = 2 :: (sk1 (a :: b :: r) : Int) :: (c ++ sl3 (a :: b :: r)) := c3
    rw [← c2, d3, ← d2] at hr
    have hlr : r.length = c.length + d.length + 4 := by rw [hr]; simp; omega
    unfold sigB
    rw [ha, hb, ← hr]
    congr 2
    simp
    omega

end Go.Proofs.Ytfeancgmmonebaa.Sx

/-
  The reference's derNumber: a number's bytes, of the call's own. Conditions: none; each theorem bears its own.
-/
namespace Go.Proofs.Ytfeancgmmonebaa.Sx
open Go Go.Proofs Go.RowKit

theorem c_ub {V : Int} (v0 : 0 ≤ V) (v1 : V < 2 ^ 256) (w : World) :
    Calls Try.prog 13 #[.agg ((dig 64 4 V).map (Value.int .u64)).toArray] w fun en w' => en = .returned (.agg ((byt V).map (Value.int .u8)).toArray) ∧ Below w.heap.size w w' :=
  m_ub.pure (by kernel_rfl) (base := dig 64 4 V) (dig_length 64 4 _) rfl (fun h => by cases h) (ub_spec v0 v1) (args := [.agg ((dig 64 4 V).map (Value.int .u64)).toArray])
    (by
      show [(SV.one (.agg (kcells 0 (List.replicate 4 (some .u64))))).den ⟨dig 64 4 V, []⟩] = _
      rw [agg_at .u64 [] (l := dig 64 4 V) (pre := []) (post := []) (n := 0) (by simp) rfl (dig_length 64 4 _)])
    (fun nb => by
      show (SV.one (.agg (kcells 4 (List.replicate 32 (some .u8))))).den ⟨dig 64 4 V ++ fit 32 (byt V), nb⟩ = _
      rw [fit_eq (byt_length V)]
      exact agg_at .u8 nb (l := byt V) (pre := dig 64 4 V) (post := []) (n := 4) (by simp) (dig_length 64 4 _) (byt_length V)) w

theorem byt_dg (V : Int) : Dg 8 (byt V) := Dg.reverse (dig_dg 8 32 V)
theorem byt_be {V : Int} (v0 : 0 ≤ V) (v1 : V < 2 ^ 256) : be (byt V) = V := by
  show num 8 (dig 8 32 V).reverse.reverse = V
  rw [List.reverse_reverse, num_dig 8 32 V v0 v1]

theorem owns_lit (w : World) (cs : Array Value) (n : Nat) (e : TypeId) (hm : n ≤ 1000) (hs : cs.size = n) :
    (w.alloc (.cells cs e)).ownsRow w.heap.size e 1 (.slice (some ⟨w.heap.size, 0, none⟩) n n) n cs.toList :=
  World.ownsRow_lit w cs n (Nat.le_refl _) (by unfold maxLen; omega) (by omega)

theorem owns_below {w w' : World} {base : Nat} {e : TypeId} {v : Value} {n : Nat} {xs : List Value} (h : w.ownsRow base e 1 v n xs) (hb : Below w.heap.size w w') : w'.ownsRow base e 1 v n xs :=
  h.kept (row := none) ⟨hb.os, hb.tape, hb.output, hb.size, fun k hk _ => hb.block k hk⟩ (by
    cases hv : v.ownBlock with
    | none => exact .inl rfl
    | some k => exact .inr (by simp))

abbrev zlit32 : Array Value := #[.int .u8 0, .int .u8 0, .int .u8 0, .int .u8 0, .int .u8 0, .int .u8 0, .int .u8 0, .int .u8 0, .int .u8 0, .int .u8 0, .int .u8 0, .int .u8 0, .int .u8 0, .int .u8 0, .int .u8 0, .int .u8 0, .int .u8 0, .int .u8 0, .int .u8 0, .int .u8 0, .int .u8 0, .int .u8 0, .int .u8 0, .int .u8 0, .int .u8 0, .int .u8 0, .int .u8 0, .int .u8 0, .int .u8 0, .int .u8 0, .int .u8 0, .int .u8 0]

theorem owns_mono {w : World} {base base' : Nat} {e : TypeId} {v : Value} {n : Nat} {xs : List Value} (h : w.ownsRow base e 1 v n xs) (hb : base' ≤ base) : w.ownsRow base' e 1 v n xs :=
  ⟨h.1, h.2.imp id fun ⟨g, cap, cur, h1, h2, h3⟩ => ⟨g, cap, cur, h1, Nat.le_trans hb h2, h3⟩⟩

/-- Bytes of the call's own, that can be appended to. -/
def Owned (w : World) (l : List Int) (e : Ending) (w' : World) : Prop :=
  (∃ v, e = .returned v ∧ w'.ownsRow w.heap.size 5 1 v l.length (l.map (Value.int .u8))) ∧ Below w.heap.size w w'

theorem derNumber_end {w w4 w5 : World} {V : Int} {c : List Int} {v : Value} {n : Nat} {x : Int} (hc : Canon V c) (hb : Below w.heap.size w w5) (h4 : w.heap.size ≤ w4.heap.size)
    (ho : w5.ownsRow w4.heap.size 5 1 v n (#[Value.int .u8 2, Value.int .u8 x].toList ++ c.map (Value.int .u8))) (hn : n = 2 + c.length) (hx : x = c.length) :
    ∃ c, Canon V c ∧ Owned w (2 :: (c.length : Int) :: c) (.returned v) w5 := by
  subst hx hn
  refine ⟨c, hc, ⟨v, rfl, owns_mono ?_ h4⟩, hb⟩
  rw [show (2 :: (c.length : Int) :: c).length = 2 + c.length by simp; omega]
  exact ho

set_option maxRecDepth 100000 in
theorem c_derNumber {V : Int} (v0 : 0 ≤ V) (v1 : V < 2 ^ 256) (w : World) :
    Calls Try.prog 33 #[.agg ((dig 64 4 V).map (Value.int .u64)).toArray] w fun e w' => ∃ c, Canon V c ∧ Owned w (2 :: (c.length : Int) :: c) e w' := by
  obtain ⟨i0, hi0, hz0, hz1, hz2⟩ := info_parts u8_info
  obtain ⟨d0, d1, d2, d3, hds⟩ : ∃ d0 d1 d2 d3, dig 64 4 V = [d0, d1, d2, d3] := len4 (dig_length 64 4 _)
  obtain ⟨B, hB⟩ : ∃ B : Array Value, B = ((byt V).map (Value.int .u8)).toArray := ⟨_, rfl⟩
  have hU : ∀ W, Calls Try.prog 13 #[.agg #[.int .u64 d0, .int .u64 d1, .int .u64 d2, .int .u64 d3]] W fun en w' => en = .returned (.agg B) ∧ Below W.heap.size W w' := fun W => by
    have := c_ub v0 v1 W
    rw [hds, ← hB] at this
    exact this
  have hBs : B.size = 32 := by rw [hB]; simp [byt_length]
  have hB1 : B.all (·.oneCell') = true := by
    rw [hB]
    simp [Value.oneCell']
  rw [show ((dig 64 4 V).map (Value.int .u64)).toArray = #[.int .u64 d0, .int .u64 d1, .int .u64 d2, .int .u64 d3] by rw [hds]; rfl]
  have HB := Lib.hid hB
  have HU := Lib.hid hU
  have HBs := Lib.hid hBs
  have HB1 := Lib.hid hB1
  have HV := Lib.hid (And.intro v0 v1)
  clear hB hU hBs hB1 v0 v1 hds
  go_enter Try.func33, Try.ntmps33
  go_upto_region 2 with (first
    | (go_at_call 13; refine (HU.out _).mono ?_; rintro e w1 ⟨rfl, hb1⟩)
    | ((with_reducible refine wpList_store_row rfl _ (.tmp 3) (.tmp 6) rfl w1.heap.size B ?_ ?_ _ zlit32 (heap_alloc_new w1 _) ?_ ?_ HB1.out ?_); exact rfl; exact rfl; (rw [HBs.out]; kernel_rfl); (rw [HBs.out]; rfl); skip))
  have hs2 : ((w1.alloc (.cells zlit32 24)).setRow w1.heap.size B).heap.size = w1.heap.size + 1 := by simp
  have hg2 : ((w1.alloc (.cells zlit32 24)).setRow w1.heap.size B).heap[w1.heap.size]? = some (.cells B 24 (0, 0)) := setRow_heap _ _ _ _ _ _ (heap_alloc_new w1 _)
  have hs1 := hb1.size
  have hb2 : Below w.heap.size w ((w1.alloc (.cells zlit32 24)).setRow w1.heap.size B) := below_setRow (((((Below.refl _ _).alloc (Nat.le_refl _) _).trans (hb1.mono (by simp))).alloc (by simp at hs1; omega) _)) (by simp at hs1; omega) _
  generalize (w1.alloc (.cells zlit32 24)).setRow w1.heap.size B = W2 at hs2 hg2 hb2 ⊢
  have hww : w.heap.size ≤ w1.heap.size := by simp at hs1; omega
  have hr2 : Reads W2 W2.heap.size (some ⟨w1.heap.size, 0, none⟩) 32 ((byt V).map (Value.int .u8)) := by
    refine ⟨by simp [byt_length], fun _ => ⟨_, rfl, by show w1.heap.size < _; omega, fun j v hj => ?_⟩⟩
    rw [addr_add, Nat.zero_add]
    simp only [World.cell?, hg2]
    rw [HB.out]
    simpa using hj
  have hT := c_trim 32 32 (byt V) (some ⟨w1.heap.size, 0, none⟩) W2 (by omega) (Nat.le_refl _) hr2 (byt_dg V)
  have q7 : ∀ W, (Instr.sliceAt 24 (.pointer (some ⟨w1.heap.size, 0, none⟩)) none none none).run Try.prog W = .ok (.slice (some ⟨w1.heap.size, 0, none⟩) 32 32) W := fun W => by
    have := run_cut_arr (P := Try.prog) Try.underlying24 (by kernel_rfl) ⟨w1.heap.size, 0, none⟩ none none 0 32 rfl rfl (by omega) (by omega) W
    rw [if_neg (by omega)] at this
    simpa [Addr.add] using this
  have HT := Lib.hid hT
  have HB2 := Lib.hid hb2
  have HWW := Lib.hid hww
  clear hT hr2 hs2 hg2 hs1 hb1 hww
  go_upto_region 3 with (go_at_call 39; refine HT.out.mono ?_; rintro e w3 ⟨l, hbe, hnz, hld, hll, A, cap, rfl, hcap, hr3, hA, hb3⟩)
  rw [byt_length] at hll
  have hbv : be l = V := by rw [hbe, byt_be HV.out.1 HV.out.2]
  have hB3 : Below w.heap.size w w3 := HB2.out.trans (hb3.mono HB2.out.size)
  have HB3 := Lib.hid hB3
  have HLd := Lib.hid hld
  clear hbe hb3 hB3 hA
  obtain ⟨m, hm⟩ : ∃ m, m = l.length := ⟨_, rfl⟩
  rw [← hm] at hll hcap hr3 ⊢
  have HM : Hid (m ≤ 32) := hll
  have HR3 := Lib.hid hr3
  have HN : Hid (1 + m ≤ 140737488355328) := by show 1 + m ≤ 140737488355328; omega
  have HL := Lib.hid hm
  have HBv := Lib.hid hbv
  have HNz := Lib.hid hnz
  clear hr3 hm hbv hnz
  by_cases hpad : l.getD 0 0 = 0 ∨ 128 ≤ l.getD 0 0
  case pos =>
    have hcan : Canon V (0 :: l) := by
      refine ⟨fun x hx => ?_, by rw [be_cons_zero]; exact HBv.out, by simp, by show (0 : Int) < 128; decide, ?_⟩
      · rcases List.mem_cons.1 hx with rfl | hx
        · decide
        · exact HLd.out x hx
      · rintro ⟨h1, _, h2⟩
        have h3 : (0 :: l).getD 1 0 = l.getD 0 0 := rfl
        rw [h3] at h2
        rcases hpad with h | h
        · match l, h1, h, HNz.out with
          | [], h1, _, _ => simp at h1
          | y :: r, _, h, hz => exact hz y r rfl h
        · omega
    have HCan := Lib.hid hcan
    clear hcan
    by_cases hm0 : m = 0
    · have hmz : ((m : Int) == 0) = true := by simp [hm0]
      clear hm0 hpad
      go_wp2_with (first
        | (at_builtin; refine wpList_append_any rfl (.tmp 18) (.tmp 19) _ rfl w3.heap.size 5 i0 _ Try.underlying22 hi0 hz0 hz1 hz2 rfl (.slice (some ⟨w3.heap.size, 0, none⟩) 1 1) 1 [.int .u8 0] rfl (owns_lit w3 #[.int .u8 0] 1 _ (by omega) rfl) w3.heap.size A m cap (l.map (Value.int .u8)) rfl (HR3.out.alloc (Nat.le_refl _) _) ints_one HN.out (by simp) ?_; intro v4 w4 ho4 hg4 hat4; obtain ⟨A4, c4, rfl, hc4, -⟩ := own_slice ho4
           have HO4 : Hid (Reads w4 w4.heap.size A4 (1 + m) ((0 :: l).map (Value.int .u8))) := Reads.of_own ho4
           have HB4 : Hid (Below w.heap.size w w4) := below_grown (HB3.out.alloc HB3.out.size _) hg4 (Nat.le_refl _) fun k hk => by cases hk; exact HB3.out.size
           have HN4 : Hid (2 + (1 + m) ≤ 140737488355328) := by show 2 + (1 + m) ≤ 140737488355328; have := HM.out; omega
           clear ho4 hg4 hat4)
        | (at_builtin; refine wpList_append_any rfl (.tmp 24) (.tmp 25) _ rfl w4.heap.size 5 i0 _ Try.underlying22 hi0 hz0 hz1 hz2 rfl (.slice (some ⟨w4.heap.size, 0, none⟩) 2 2) 2 _ rfl (owns_lit w4 _ 2 _ (by omega) rfl) w4.heap.size A4 (1 + m) c4 ((0 :: l).map (Value.int .u8)) rfl (HO4.out.alloc (Nat.le_refl _) _) ints_one HN4.out (by simp) ?_; intro v5 w5 ho5 hg5 hat5; obtain ⟨A5, c5, rfl, hc5, -⟩ := own_slice ho5
           have HB5 : Hid (Below w.heap.size w w5) := below_grown (HB4.out.alloc HB4.out.size _) hg5 (Nat.le_refl _) fun k hk => by cases hk; exact HB4.out.size
           have HO5 := Lib.hid ho5
           clear ho5 hg5 hat5))
      go_ret
      exact derNumber_end HCan.out HB5.out HB4.out.size HO5.out (by rw [List.length_cons, ← HL.out]; omega) (by rw [List.length_cons, ← HL.out]; omega)
    · have hmz : ((m : Int) == 0) = false := by simp [hm0]
      have hm1 : (0 : Int) < m := by omega
      obtain ⟨ad, hA, _, hcell⟩ := HR3.out.2 (by omega)
      subst hA
      obtain ⟨y, hy⟩ : ∃ y, y = l.getD 0 0 := ⟨_, rfl⟩
      have hyc : w3.cell? ad = some (.int .u8 y) := by
        have := HR3.out.cell (j := 0) (by omega)
        rw [← hy] at this
        rwa [show ad.add 0 = ad by unfold Addr.add; simp] at this
      have hy0 : y ≠ 0 := by
        rw [hy]
        match l, HNz.out, HL.out with
        | [], _, h => exact absurd h hm0
        | z :: r, hz, _ => exact hz z r rfl
      have hy1 : 128 ≤ y := by
        rw [← hy] at hpad
        omega
      clear hcell hm0 hpad hy
      go_wp2_with (first
        | (at_builtin; refine wpList_append_any rfl (.tmp 18) (.tmp 19) _ rfl w3.heap.size 5 i0 _ Try.underlying22 hi0 hz0 hz1 hz2 rfl (.slice (some ⟨w3.heap.size, 0, none⟩) 1 1) 1 [.int .u8 0] rfl (owns_lit w3 #[.int .u8 0] 1 _ (by omega) rfl) w3.heap.size (some ad) m cap (l.map (Value.int .u8)) rfl (HR3.out.alloc (Nat.le_refl _) _) ints_one HN.out (by simp) ?_; intro v4 w4 ho4 hg4 hat4; obtain ⟨A4, c4, rfl, hc4, -⟩ := own_slice ho4
           have HO4 : Hid (Reads w4 w4.heap.size A4 (1 + m) ((0 :: l).map (Value.int .u8))) := Reads.of_own ho4
           have HB4 : Hid (Below w.heap.size w w4) := below_grown (HB3.out.alloc HB3.out.size _) hg4 (Nat.le_refl _) fun k hk => by cases hk; exact HB3.out.size
           have HN4 : Hid (2 + (1 + m) ≤ 140737488355328) := by show 2 + (1 + m) ≤ 140737488355328; have := HM.out; omega
           clear ho4 hg4 hat4)
        | (at_builtin; refine wpList_append_any rfl (.tmp 24) (.tmp 25) _ rfl w4.heap.size 5 i0 _ Try.underlying22 hi0 hz0 hz1 hz2 rfl (.slice (some ⟨w4.heap.size, 0, none⟩) 2 2) 2 _ rfl (owns_lit w4 _ 2 _ (by omega) rfl) w4.heap.size A4 (1 + m) c4 ((0 :: l).map (Value.int .u8)) rfl (HO4.out.alloc (Nat.le_refl _) _) ints_one HN4.out (by simp) ?_; intro v5 w5 ho5 hg5 hat5; obtain ⟨A5, c5, rfl, hc5, -⟩ := own_slice ho5
           have HB5 : Hid (Below w.heap.size w w5) := below_grown (HB4.out.alloc HB4.out.size _) hg5 (Nat.le_refl _) fun k hk => by cases hk; exact HB4.out.size
           have HO5 := Lib.hid ho5
           clear ho5 hg5 hat5))
      go_ret
      exact derNumber_end HCan.out HB5.out HB4.out.size HO5.out (by rw [List.length_cons, ← HL.out]; omega) (by rw [List.length_cons, ← HL.out]; omega)
  case neg =>
    have hcan : Canon V l := by
      have h1 : l.length ≠ 0 := fun h => hpad (.inl (by rw [List.eq_nil_of_length_eq_zero h]; rfl))
      refine ⟨HLd.out, HBv.out, by omega, by omega, ?_⟩
      rintro ⟨_, h2, _⟩
      exact hpad (.inl h2)
    have hm0 : m ≠ 0 := fun h => hpad (.inl (by rw [List.eq_nil_of_length_eq_zero (HL.out.symm.trans h)]; rfl))
    have HCan := Lib.hid hcan
    clear hcan
    have hmz : ((m : Int) == 0) = false := by simp [hm0]
    have hm1 : (0 : Int) < m := by omega
    obtain ⟨ad, hA, _, hcell⟩ := HR3.out.2 (by omega)
    subst hA
    obtain ⟨y, hy⟩ : ∃ y, y = l.getD 0 0 := ⟨_, rfl⟩
    have hyc : w3.cell? ad = some (.int .u8 y) := by
      have := HR3.out.cell (j := 0) (by omega)
      rw [← hy] at this
      rwa [show ad.add 0 = ad by unfold Addr.add; simp] at this
    have hy1 : y < 128 := by
      rw [← hy] at hpad
      omega
    have HN2 : Hid (2 + m ≤ 140737488355328) := by show 2 + m ≤ 140737488355328; omega
    clear hcell hm0 hpad hy
    go_wp2_with (first
      | (at_builtin; refine wpList_append_any rfl (.tmp 24) (.tmp 25) _ rfl w3.heap.size 5 i0 _ Try.underlying22 hi0 hz0 hz1 hz2 rfl (.slice (some ⟨w3.heap.size, 0, none⟩) 2 2) 2 _ rfl (owns_lit w3 _ 2 _ (by omega) rfl) w3.heap.size (some ad) m cap (l.map (Value.int .u8)) rfl (HR3.out.alloc (Nat.le_refl _) _) ints_one HN2.out (by simp) ?_; intro v5 w5 ho5 hg5 hat5; obtain ⟨A5, c5, rfl, hc5, -⟩ := own_slice ho5
         have HB5 : Hid (Below w.heap.size w w5) := below_grown (HB3.out.alloc HB3.out.size _) hg5 (Nat.le_refl _) fun k hk => by cases hk; exact HB3.out.size
         have HO5 := Lib.hid ho5
         clear ho5 hg5 hat5))
    go_ret
    exact derNumber_end HCan.out HB5.out HB3.out.size HO5.out (by rw [← HL.out]) (by rw [← HL.out])

end Go.Proofs.Ytfeancgmmonebaa.Sx
