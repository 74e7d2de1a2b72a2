/-
  ParseDERSignature over bytes. Conditions: none; each theorem bears its own.
-/
import Derived.Test.YtfeancgmmonebaaSwf
import Derived.Test.YtfeancgmmonebaaSwj
namespace Go.Proofs.Ytfeancgmmonebaa.Sx
open Go Go.Proofs Go.RowKit

theorem getD_drop (l : List Int) (k j : Nat) : (l.drop k).getD j 0 = l.getD (k + j) 0 := by simp [List.getD, List.getElem?_drop]

theorem sl3_getD (bs : List Int) (j : Nat) : (sl3 bs).getD j 0 = bs.getD (4 + sk1 bs + j) 0 := by
  unfold sl3
  rw [getD_drop, getD_drop]
  congr 1
  omega

theorem sigR_eq (bs : List Int) : sigR bs = be ((bs.drop 4).take (sk1 bs)) := by
  unfold sigR
  rw [List.drop_drop]

theorem sigS_eq (bs : List Int) : sigS bs = be ((bs.drop (4 + sk1 bs + 2)).take (sk2 bs)) := by
  unfold sigS sl3
  rw [List.drop_drop, List.drop_drop, show 2 + (2 + sk1 bs + 2) = 4 + sk1 bs + 2 by omega]

theorem bit_at {bs : List Int} (hd : Dg 8 bs) (j : Nat) : bit128 (bs.getD j 0) := bit128_of (hd.getD j).1 (hd.getD j).2

theorem addr_pos (a : Addr) {n : Nat} (h : 0 < n) : a.add n = ⟨a.block, a.off + n, none⟩ := by
  unfold Addr.add
  rw [if_neg (by omega)]

/-- The places of the bytes. -/
theorem derCells {w : World} {ad : Addr} {n : Nat} {bs : List Int} (hn : 8 ≤ n) (hr : Reads w w.heap.size (some ad) n (bs.map (Value.int .u8))) (hd : Dg 8 bs) :
    DerCells w ad n (sk1 bs) (sk2 bs) (bs.getD 0 0) (bs.getD 1 0) (bs.getD 2 0) (bs.getD 4 0) (bs.getD 5 0) (bs.getD (4 + sk1 bs) 0) (bs.getD (6 + sk1 bs) 0) (bs.getD (7 + sk1 bs) 0) := by
  have e1 : ((sk1 bs : Nat) : Int) = bs.getD 3 0 := by
    unfold sk1
    rw [getD_drop, show 2 + 1 = 3 from rfl]
    have := (hd.getD 3).1
    omega
  have e2 : ((sk2 bs : Nat) : Int) = bs.getD (5 + sk1 bs) 0 := by
    unfold sk2
    rw [sl3_getD, show 4 + sk1 bs + 1 = 5 + sk1 bs by omega]
    have := (hd.getD (5 + sk1 bs)).1
    omega
  refine ⟨?_, ?_, ?_, ?_, ?_, ?_, ?_, ?_, ?_, ?_, (hd.getD 1).1, (hd.getD 1).2, ?_, ?_⟩
  · have := hr.cell (j := 0) (by omega)
    rwa [show ad.add 0 = ad by unfold Addr.add; simp] at this
  · have := hr.cell (j := 1) (by omega)
    simpa [Addr.add] using this
  · have := hr.cell (j := 2) (by omega)
    simpa [Addr.add] using this
  · rw [e1]
    have := hr.cell (j := 3) (by omega)
    simpa [Addr.add] using this
  · have := hr.cell (j := 4) (by omega)
    simpa [Addr.add] using this
  · have := hr.cell (j := 5) (by omega)
    simpa [Addr.add] using this
  · intro h
    exact hr.cell h
  · intro h
    rw [e2]
    have := hr.cell h
    rw [addr_pos _ (by omega), show ad.off + (5 + sk1 bs) = ad.off + (4 + sk1 bs + 1) by omega] at this
    exact this
  · intro h
    have := hr.cell h
    rw [addr_pos _ (by omega), show ad.off + (6 + sk1 bs) = ad.off + (4 + sk1 bs + 1 + 1) by omega] at this
    exact this
  · intro h
    have := hr.cell h
    rw [addr_pos _ (by omega), show ad.off + (7 + sk1 bs) = ad.off + (4 + sk1 bs + 1 + 1 + 1) by omega] at this
    exact this
  · have := (hd.getD 3).2
    omega
  · have := (hd.getD (5 + sk1 bs)).2
    omega

theorem derAt_iff {bs : List Int} {n : Nat} (hl : bs.length = n) (h8 : 8 ≤ n) (h72 : n ≤ 72) (htot : n = 6 + sk1 bs + sk2 bs) (hr0 : 0 < sk1 bs) (hs0 : 0 < sk2 bs) (hd : Dg 8 bs) :
    DerAt n (sk1 bs) (sk2 bs) (bs.getD 0 0) (bs.getD 1 0) (bs.getD 2 0) (bs.getD 4 0) (bs.getD 5 0) (bs.getD (4 + sk1 bs) 0) (bs.getD (6 + sk1 bs) 0) (bs.getD (7 + sk1 bs) 0) (sigR bs) (sigS bs) ↔ SigOk bs := by
  have e1 : ((sk1 bs : Nat) : Int) = (bs.drop 2).getD 1 0 := by
    have := (Dg.getD (w := 8) (fun x hx => hd x (List.mem_of_mem_drop hx) : Dg 8 (bs.drop 2)) 1).1
    unfold sk1
    omega
  have e2 : ((sk2 bs : Nat) : Int) = (sl3 bs).getD 1 0 := by
    have := (Dg.getD (w := 8) (fun x hx => hd x (List.mem_of_mem_drop (List.mem_of_mem_drop hx)) : Dg 8 (sl3 bs)) 1).1
    unfold sk2
    omega
  have l3 : (sl3 bs).length = 2 + sk2 bs := by unfold sl3; simp; omega
  have f2 : (bs.drop 2).getD 0 0 = bs.getD 2 0 := getD_drop bs 2 0
  have f4 : (bs.drop 2).getD 2 0 = bs.getD 4 0 := getD_drop bs 2 2
  have f5 : (bs.drop 2).getD 3 0 = bs.getD 5 0 := getD_drop bs 2 3
  have g0 : (sl3 bs).getD 0 0 = bs.getD (4 + sk1 bs) 0 := sl3_getD bs 0
  have g2 : (sl3 bs).getD 2 0 = bs.getD (6 + sk1 bs) 0 := by rw [sl3_getD]; congr 1; omega
  have g3 : (sl3 bs).getD 3 0 = bs.getD (7 + sk1 bs) 0 := by rw [sl3_getD]; congr 1; omega
  have t1 : ((bs.drop 2).getD 1 0).toNat = sk1 bs := rfl
  have t2 : ((sl3 bs).getD 1 0).toNat = sk2 bs := rfl
  have b1 : be (((bs.drop 2).drop 2).take (sk1 bs)) = sigR bs := rfl
  have b2 : be (((sl3 bs).drop 2).take (sk2 bs)) = sigS bs := rfl
  have hfn : fn < 2 ^ 256 := by decide
  constructor
  · rintro ⟨a0, a1, a2, a3, a4, a5, a6, a7, a8, a9, a10, a11, a12, a13, a14⟩
    refine ⟨by omega, by omega, a0, by omega, ⟨by simp; omega, by rw [f2]; exact a2, by rw [← e1]; omega, by rw [← e1]; simp; omega, by rw [f4]; exact a6, by rw [← e1, f4, f5]; omega, ?_⟩, ⟨by omega, by rw [g0]; exact a3, by rw [← e2]; omega, by rw [← e2]; omega, by rw [g2]; exact a9, by rw [← e2, g2, g3]; omega, ?_⟩, l3, ⟨a11, a12⟩, ⟨a13, a14⟩⟩
    · rw [t1, b1]
      omega
    · rw [t2, b2]
      omega
  · intro q
    have d1 := q.d1
    have d2 := q.d2
    have p1 := d1.pad
    have p2 := d2.pad
    rw [← e1, f4, f5] at p1
    rw [← e2, g2, g3] at p2
    refine ⟨q.x0, by rw [q.x1, hl], by rw [← f2]; exact d1.x0, by rw [← g0]; exact d2.x0, htot, hr0, by rw [← f4]; exact d1.y0, by omega, hs0, by rw [← g2]; exact d2.y0, by omega, q.rR.1, q.rR.2, q.rS.1, q.rS.2⟩

theorem sigOk_fit {bs : List Int} {n : Nat} (hl : bs.length = n) (hd : Dg 8 bs) (q : SigOk bs) : n = 6 + sk1 bs + sk2 bs ∧ 0 < sk1 bs ∧ 0 < sk2 bs := by
  have e1 : ((sk1 bs : Nat) : Int) = (bs.drop 2).getD 1 0 := by
    have := (Dg.getD (w := 8) (fun x hx => hd x (List.mem_of_mem_drop hx) : Dg 8 (bs.drop 2)) 1).1
    unfold sk1
    omega
  have e2 : ((sk2 bs : Nat) : Int) = (sl3 bs).getD 1 0 := by
    have := (Dg.getD (w := 8) (fun x hx => hd x (List.mem_of_mem_drop (List.mem_of_mem_drop hx)) : Dg 8 (sl3 bs)) 1).1
    unfold sk2
    omega
  have h1 := q.d1.x1
  have h2 := q.d2.x1
  have h3 := q.d1.fit
  have h4 := q.d2.len
  have h5 := q.all
  rw [← e1] at h1 h3
  rw [← e2] at h2
  have h6 : (sl3 bs).length = n - 2 - (2 + sk1 bs) := by unfold sl3; simp; omega
  simp at h3
  omega

theorem parse_der (n c : Nat) (bs : List Int) (A : Option Addr) (w : World) (hn : n < 2147483648) (hc : n ≤ c) (hr : Reads w w.heap.size A n (bs.map (Value.int .u8))) (hd : Dg 8 bs) :
    Calls Try.prog 26 #[.slice A n c] w (DerPost (SigOk bs) (sigR bs) (sigS bs) w) := by
  have hl : bs.length = n := by have h : (bs.map (Value.int .u8)).length = n := hr.1; simpa using h
  by_cases h8 : n < 8 ∨ 72 < n
  · refine (der_short n c A w (by omega)).mono ?_
    rintro e w' ⟨⟨t, x, rfl⟩, hb⟩
    exact ⟨.inr ⟨fun q => by have := q.n8; have := q.n72; omega, t, x, rfl⟩, hb⟩
  · obtain ⟨ad, rfl, _, _⟩ := hr.2 (by omega)
    have C := derCells (by omega) hr hd
    by_cases hfit : n = 6 + sk1 bs + sk2 bs ∧ 0 < sk1 bs ∧ 0 < sk2 bs
    · have hR : Rest w w.heap.size (.slice (some (ad.add 4)) (sk1 bs) (c - 4)) (sigR bs) := by
        refine ⟨some (ad.add 4), sk1 bs, c - 4, (bs.drop 4).take (sk1 bs), rfl, by omega, by omega, ?_, fun x hx => hd x (List.mem_of_mem_drop (List.mem_of_mem_take hx)), (sigR_eq bs).symm⟩
        rw [List.map_take, List.map_drop]
        exact (hr.drop 4).take (by omega)
      have hS : Rest w w.heap.size (.slice (some (ad.add (4 + sk1 bs + 2))) (sk2 bs) (c - (4 + sk1 bs + 2))) (sigS bs) := by
        refine ⟨some (ad.add (4 + sk1 bs + 2)), sk2 bs, c - (4 + sk1 bs + 2), (bs.drop (4 + sk1 bs + 2)).take (sk2 bs), rfl, by omega, by omega, ?_, fun x hx => hd x (List.mem_of_mem_drop (List.mem_of_mem_take hx)), (sigS_eq bs).symm⟩
        rw [List.map_take, List.map_drop]
        exact (hr.drop (4 + sk1 bs + 2)).take (by omega)
      refine (der_main n c (sk1 bs) (sk2 bs) ad w _ _ _ _ _ _ _ _ (sigR bs) (sigS bs) C (by omega) (by omega) hc hfit.1 hfit.2.1 hfit.2.2 (bit_at hd _) (bit_at hd _) (bit_at hd _) (bit_at hd _) hR hS).mono ?_
      rintro e w' ⟨h, hb⟩
      rw [derAt_iff hl (by omega) (by omega) hfit.1 hfit.2.1 hfit.2.2 hd] at h
      exact ⟨h, hb⟩
    · refine (der_bad n c (sk1 bs) (sk2 bs) ad w _ _ _ _ _ _ _ _ C (by omega) (by omega) (by omega)).mono ?_
      rintro e w' ⟨⟨t, x, rfl⟩, hb⟩
      exact ⟨.inr ⟨fun q => hfit (sigOk_fit hl hd q), t, x, rfl⟩, hb⟩

end Go.Proofs.Ytfeancgmmonebaa.Sx
