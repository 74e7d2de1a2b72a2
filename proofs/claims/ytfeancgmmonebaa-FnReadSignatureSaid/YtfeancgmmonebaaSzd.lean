/-
  Field elements of 32 bytes: what SetBytes, Normalize, PutBytes come to. Conditions: none; each theorem bears its own.
-/
import Derived.Test.YtfeancgmmonebaaSzc
namespace Go.Proofs.Ytfeancgmmonebaa.Sx
open Go Go.Proofs

theorem len10 {b : List Int} (h : b.length = 10) : ∃ a0 a1 a2 a3 a4 a5 a6 a7 a8 a9, b = [a0, a1, a2, a3, a4, a5, a6, a7, a8, a9] := by
  match b, h with
  | [a0, a1, a2, a3, a4, a5, a6, a7, a8, a9], _ => exact ⟨a0, a1, a2, a3, a4, a5, a6, a7, a8, a9, rfl⟩

theorem p260 {V : Int} (h : V < 2 ^ 256) : V < 2 ^ (26 * 10) := by
  rw [show 26 * 10 = 256 + 4 from rfl, Int.pow_add]
  have := two_pos 256
  omega

theorem map_append_one {α β : Type} (f : α → β) (l : List α) (x : α) : (l ++ [x]).map f = l.map f ++ [f x] := by simp

/-- The words of a number of 256 bits, against the prime. -/
theorem over_words {x0 x1 x2 x3 x4 x5 x6 x7 x8 x9 : Int} (h : Dg 26 [x0, x1, x2, x3, x4, x5, x6, x7, x8, x9]) (h9 : num 26 [x0, x1, x2, x3, x4, x5, x6, x7, x8, x9] < 2 ^ 256) :
    fp ≤ num 26 [x0, x1, x2, x3, x4, x5, x6, x7, x8, x9] ↔ x9 = 4194303 ∧ x8 = 67108863 ∧ x7 = 67108863 ∧ x6 = 67108863 ∧ x5 = 67108863 ∧ x4 = 67108863 ∧ x3 = 67108863 ∧ x2 = 67108863 ∧ (67108799 < x1 ∨ (x1 = 67108799 ∧ 67107887 ≤ x0)) := by
  have p0 := h x0 (by simp)
  have p1 := h x1 (by simp)
  have p2 := h x2 (by simp)
  have p3 := h x3 (by simp)
  have p4 := h x4 (by simp)
  have p5 := h x5 (by simp)
  have p6 := h x6 (by simp)
  have p7 := h x7 (by simp)
  have p8 := h x8 (by simp)
  have p9 := h x9 (by simp)
  simp only [num] at h9 ⊢
  unfold fp
  constructor
  · intro hv
    have e9 : x9 = 4194303 := by omega
    subst e9
    have e8 : x8 = 67108863 := by omega
    subst e8
    have e7 : x7 = 67108863 := by omega
    subst e7
    have e6 : x6 = 67108863 := by omega
    subst e6
    have e5 : x5 = 67108863 := by omega
    subst e5
    have e4 : x4 = 67108863 := by omega
    subst e4
    have e3 : x3 = 67108863 := by omega
    subst e3
    have e2 : x2 = 67108863 := by omega
    subst e2
    refine ⟨rfl, rfl, rfl, rfl, rfl, rfl, rfl, rfl, ?_⟩
    omega
  · rintro ⟨rfl, rfl, rfl, rfl, rfl, rfl, rfl, rfl, hv⟩
    omega

def setbB : BF := (.or (.and (.and (.and (.and (.and (.and (.and (.and (.eq (.var 152) (.lit 4194303)) (.eq (.var 144) (.lit 67108863))) (.eq (.var 133) (.lit 67108863))) (.eq (.var 122) (.lit 67108863))) (.eq (.var 110) (.lit 67108863))) (.eq (.var 98) (.lit 67108863))) (.eq (.var 87) (.lit 67108863))) (.eq (.var 76) (.lit 67108863))) (.lt (.lit 67108799) (.var 64))) (.and (.and (.and (.and (.and (.and (.and (.and (.and (.eq (.var 152) (.lit 4194303)) (.eq (.var 144) (.lit 67108863))) (.eq (.var 133) (.lit 67108863))) (.eq (.var 122) (.lit 67108863))) (.eq (.var 110) (.lit 67108863))) (.eq (.var 98) (.lit 67108863))) (.eq (.var 87) (.lit 67108863))) (.eq (.var 76) (.lit 67108863))) (.eq (.var 64) (.lit 67108799))) (.not (.lt (.var 52) (.lit 67107887)))))

def setbW : List SI := [.var 52, .var 64, .var 76, .var 87, .var 98, .var 110, .var 122, .var 133, .var 144, .var 152]

theorem setb_spec {old bs : List Int} (ho : old.length = 10) (hod : Dg 32 old) (hl : bs.length = 32) (hd : Dg 8 bs) : e_setb.F (old ++ bs) = dig 26 10 (be bs) ++ [b01 (decide (fp ≤ be bs))] := by
  have hlen : (old ++ bs).length = (List.replicate 10 ((0 : Int), (4294967295 : Int)) ++ List.replicate 32 (0, 255)).length := by simp [ho, hl]
  have hb : inB (List.replicate 10 ((0 : Int), (4294967295 : Int)) ++ List.replicate 32 (0, 255)) (old ++ bs) := inB_append (by simpa using ho) (inB_rep ho (hod.le (by decide))) (inB_rep hl (hd.le (by decide)))
  have h := redig (Γ := G_setb) (R := Rtests) rEqGtGe (ds := p_setb.defs) (w := 26) (outs := setbW) (L := linOf 8 (-1) (vars 10 32).reverse) (by kernel_rfl) hlen hb
  rw [linOf_val, List.map_reverse, vars_last G_setb _ ho hl] at h
  rw [show -(-1 * num 8 bs.reverse) = be bs by unfold be; omega] at h
  have hf := bfAt_sound (Γ := G_setb) (R := Rtests) (RB := [.eq, .gt, .ge]) rEqGtGe bEqGtGe (defs := p_setb.defs) (i := 174) (f := setbB) (by kernel_rfl) (by kernel_rfl) hlen hb
  have e : e_setb.F (old ++ bs) = setbW.map (·.val (runR G_setb p_setb.defs (old ++ bs))) ++ [(runR G_setb p_setb.defs (old ++ bs)).getD 174 0] := rfl
  have hdd := dig_dg 26 10 (be bs)
  obtain ⟨v0, v1⟩ := be_bounds hl hd
  have hnn := num_dig 26 10 (be bs) v0 (p260 v1)
  have ho10 : setbW.length = 10 := rfl
  rw [ho10] at h
  rw [e, hf]
  rw [← h] at hdd hnn ⊢
  refine congrArg (fun b => setbW.map (·.val (runR G_setb p_setb.defs (old ++ bs))) ++ [b01 b]) ?_
  generalize runR G_setb p_setb.defs (old ++ bs) = E at *
  have hw := over_words (x0 := (SI.var 52).val E) (x1 := (SI.var 64).val E) (x2 := (SI.var 76).val E) (x3 := (SI.var 87).val E) (x4 := (SI.var 98).val E) (x5 := (SI.var 110).val E) (x6 := (SI.var 122).val E) (x7 := (SI.var 133).val E) (x8 := (SI.var 144).val E) (x9 := (SI.var 152).val E) hdd (by
    have : num 26 (setbW.map (·.val E)) < 2 ^ 256 := by rw [hnn]; exact v1
    exact this)
  have hnn' : num 26 [(SI.var 52).val E, (SI.var 64).val E, (SI.var 76).val E, (SI.var 87).val E, (SI.var 98).val E, (SI.var 110).val E, (SI.var 122).val E, (SI.var 133).val E, (SI.var 144).val E, (SI.var 152).val E] = be bs := hnn
  rw [hnn'] at hw
  apply Bool.eq_iff_iff.2
  rw [decide_eq_true_eq, hw]
  simp only [setbB, BF.ev, Bool.or_eq_true, Bool.and_eq_true, decide_eq_true_eq, Bool.not_eq_true', decide_eq_false_iff_not, Int.not_lt]
  have l : ∀ n : Int, (SI.lit n).val E = n := fun _ => rfl
  simp only [l]
  constructor
  · rintro (⟨⟨⟨⟨⟨⟨⟨⟨a, b⟩, c⟩, d⟩, e⟩, f⟩, g⟩, h⟩, i⟩ | ⟨⟨⟨⟨⟨⟨⟨⟨⟨a, b⟩, c⟩, d⟩, e⟩, f⟩, g⟩, h⟩, i⟩, j⟩)
    · exact ⟨a, b, c, d, e, f, g, h, .inl i⟩
    · exact ⟨a, b, c, d, e, f, g, h, .inr ⟨i, j⟩⟩
  · rintro ⟨a, b, c, d, e, f, g, h, i | ⟨i, j⟩⟩
    · exact .inl ⟨⟨⟨⟨⟨⟨⟨⟨a, b⟩, c⟩, d⟩, e⟩, f⟩, g⟩, h⟩, i⟩
    · exact .inr ⟨⟨⟨⟨⟨⟨⟨⟨⟨a, b⟩, c⟩, d⟩, e⟩, f⟩, g⟩, h⟩, i⟩, j⟩

end Go.Proofs.Ytfeancgmmonebaa.Sx
