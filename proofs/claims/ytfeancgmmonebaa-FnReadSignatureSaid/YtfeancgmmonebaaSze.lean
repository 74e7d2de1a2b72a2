/-
  Normalize of a field element below 2^256. Conditions: none; each theorem bears its own.
-/
import Derived.Test.YtfeancgmmonebaaSzd
namespace Go.Proofs.Ytfeancgmmonebaa.Sx
open Go Go.Proofs

theorem and_mask {x y : Int} (hx0 : 0 ≤ x) (hx : x ≤ 67108863) (hy0 : 0 ≤ y) (hy : y ≤ 67108863) : 0 ≤ bits .and .u32 x y ∧ bits .and .u32 x y ≤ 67108863 ∧ (bits .and .u32 x y = 67108863 ↔ x = 67108863 ∧ y = 67108863) := by
  rw [bits_and (k := .u32) (b := 32) rfl hx0 (by omega) hy0 (by omega)]
  have h1 : x.toNat &&& y.toNat ≤ x.toNat := Nat.and_le_left
  have h2 : x.toNat &&& y.toNat ≤ y.toNat := Nat.and_le_right
  refine ⟨by omega, by omega, ⟨fun h => ⟨by omega, by omega⟩, fun ⟨e1, e2⟩ => ?_⟩⟩
  subst e1 e2
  decide

theorem carry_up {x0 x1 : Int} (h0 : 0 ≤ x0) (h0' : x0 < 67108864) (h1 : x1 < 67108864) : 67108863 < x1 + 64 + (x0 + 977) / 67108864 ↔ 67108799 < x1 ∨ (x1 = 67108799 ∧ 67107887 ≤ x0) := by omega

def normW : List SI := [.var 66, .var 69, .var 72, .var 75, .var 78, .var 81, .var 84, .var 87, .var 90, .var 91]

def normAsk : Ask :=
  { ins := outIns 26 normW ++ [(.var 91, 0, 4194303), (.var 59, 0, 1)]
    zeros := [[(.var 41, 1), (.var 9, -1)], [(.var 42, 1), (.var 8, -1)], [(.var 39, 1), (.var 7, -1)], [(.var 36, 1), (.var 6, -1)], [(.var 33, 1), (.var 5, -1)], [(.var 30, 1), (.var 4, -1)], [(.var 27, 1), (.var 3, -1)], [(.var 24, 1), (.var 2, -1)],
      [(.var 55, 1), (.var 1, -1), (.lit 64, -1), (.var 54, -1)], [(.var 53, 1), (.var 0, -1), (.lit 977, -1)], [(.var 59, 1), (.var 57, -1)]]
    mods := [(2 ^ 256, linOf 26 1 normW ++ (linOf 26 (-1) (vars 0 10) ++ [(.var 59, -4294968273)]))] }

def normB : BF := (.and (.and (.eq (.var 41) (.lit 4194303)) (.eq (.var 49) (.lit 67108863))) (.lt (.lit 67108863) (.var 55)))

theorem norm_spec {V : Int} (v0 : 0 ≤ V) (v1 : V < 2 ^ 256) : e_norm.F (dig 26 10 V) = dig 26 10 (V % fp) := by
  have hv := num_dig 26 10 V v0 (p260 v1)
  have hd := dig_dg 26 10 V
  obtain ⟨x0, x1, x2, x3, x4, x5, x6, x7, x8, x9, hx⟩ := len10 (dig_length 26 10 V)
  rw [hx] at hv hd ⊢
  have hov := over_words hd (by rw [hv]; exact v1)
  have p0 := hd x0 (by simp)
  have p1 := hd x1 (by simp)
  have p2 := hd x2 (by simp)
  have p3 := hd x3 (by simp)
  have p4 := hd x4 (by simp)
  have p5 := hd x5 (by simp)
  have p6 := hd x6 (by simp)
  have p7 := hd x7 (by simp)
  have p8 := hd x8 (by simp)
  have p9 := hd x9 (by simp)
  have q9 : x9 ≤ 4194303 := by
    have := hv
    simp only [num] at this
    omega
  have hb : inB (List.replicate 9 ((0 : Int), (67108863 : Int)) ++ [(0, 4194303)]) [x0, x1, x2, x3, x4, x5, x6, x7, x8, x9] :=
    inB_append (l := [x0, x1, x2, x3, x4, x5, x6, x7, x8]) rfl (inB_rep rfl fun y hy => by
      have := hd y (List.mem_append_left [x9] hy)
      omega) (inB_one p9.1 q9)
  obtain ⟨hs, hi, hz, hm⟩ := aiChk_sound (Γ := G_norm) (R := [bool2, bool2]) rEqGt (defs := p_norm.defs) (q := normAsk) (by kernel_rfl) rfl hb
  have hf := bfAt_sound (Γ := G_norm) (R := [bool2, bool2]) (RB := [.eq, .gt]) rEqGt bEqGt (defs := p_norm.defs) (i := 57) (f := normB) (by kernel_rfl) (by kernel_rfl) rfl hb
  have hvars := vars_all G_norm p_norm.defs (l := [x0, x1, x2, x3, x4, x5, x6, x7, x8, x9]) (n := 10) rfl
  have eF : e_norm.F [x0, x1, x2, x3, x4, x5, x6, x7, x8, x9] = normW.map (·.val (runR G_norm p_norm.defs [x0, x1, x2, x3, x4, x5, x6, x7, x8, x9])) := rfl
  rw [eF]
  have a44 := satL_at (i := 44) (p := .bin .and .u32) (xs := [.var 42, .var 39]) hs (by kernel_rfl)
  have a45 := satL_at (i := 45) (p := .bin .and .u32) (xs := [.var 44, .var 36]) hs (by kernel_rfl)
  have a46 := satL_at (i := 46) (p := .bin .and .u32) (xs := [.var 45, .var 33]) hs (by kernel_rfl)
  have a47 := satL_at (i := 47) (p := .bin .and .u32) (xs := [.var 46, .var 30]) hs (by kernel_rfl)
  have a48 := satL_at (i := 48) (p := .bin .and .u32) (xs := [.var 47, .var 27]) hs (by kernel_rfl)
  have a49 := satL_at (i := 49) (p := .bin .and .u32) (xs := [.var 48, .var 24]) hs (by kernel_rfl)
  have a54 := satL_at (i := 54) (p := .bin .shr .u32) (xs := [.var 53, .lit 26]) hs (by kernel_rfl)
  generalize runR G_norm p_norm.defs [x0, x1, x2, x3, x4, x5, x6, x7, x8, x9] = E at *
  have v : ∀ i, (SI.var i).val E = E.getD i 0 := fun _ => rfl
  have e0 : E.getD 0 0 = x0 := by have := congrArg (fun l => l.getD 0 0) hvars; exact this
  have e1 : E.getD 1 0 = x1 := by have := congrArg (fun l => l.getD 1 0) hvars; exact this
  have e2 : E.getD 2 0 = x2 := by have := congrArg (fun l => l.getD 2 0) hvars; exact this
  have e3 : E.getD 3 0 = x3 := by have := congrArg (fun l => l.getD 3 0) hvars; exact this
  have e4 : E.getD 4 0 = x4 := by have := congrArg (fun l => l.getD 4 0) hvars; exact this
  have e5 : E.getD 5 0 = x5 := by have := congrArg (fun l => l.getD 5 0) hvars; exact this
  have e6 : E.getD 6 0 = x6 := by have := congrArg (fun l => l.getD 6 0) hvars; exact this
  have e7 : E.getD 7 0 = x7 := by have := congrArg (fun l => l.getD 7 0) hvars; exact this
  have e8 : E.getD 8 0 = x8 := by have := congrArg (fun l => l.getD 8 0) hvars; exact this
  have e9 : E.getD 9 0 = x9 := by have := congrArg (fun l => l.getD 9 0) hvars; exact this
  simp only [normAsk, List.mem_cons, List.not_mem_nil, or_false, forall_eq_or_imp, forall_eq, linV, SI.val, e0, e1, e2, e3, e4, e5, e6, e7, e8, e9] at hz
  obtain ⟨z41, z42, z39, z36, z33, z30, z27, z24, z55, z53, z59⟩ := hz
  have f41 : E.getD 41 0 = x9 := by omega
  have f42 : E.getD 42 0 = x8 := by omega
  have f39 : E.getD 39 0 = x7 := by omega
  have f36 : E.getD 36 0 = x6 := by omega
  have f33 : E.getD 33 0 = x5 := by omega
  have f30 : E.getD 30 0 = x4 := by omega
  have f27 : E.getD 27 0 = x3 := by omega
  have f24 : E.getD 24 0 = x2 := by omega
  have f53 : E.getD 53 0 = x0 + 977 := by omega
  -- the words that are all ones
  have b44 : E.getD 44 0 = bits .and .u32 x8 x7 := by rw [a44]; show bits .and .u32 (E.getD 42 0) (E.getD 39 0) = _; rw [f42, f39]
  have b45 : E.getD 45 0 = bits .and .u32 (E.getD 44 0) x6 := by rw [a45]; show bits .and .u32 (E.getD 44 0) (E.getD 36 0) = _; rw [f36]
  have b46 : E.getD 46 0 = bits .and .u32 (E.getD 45 0) x5 := by rw [a46]; show bits .and .u32 (E.getD 45 0) (E.getD 33 0) = _; rw [f33]
  have b47 : E.getD 47 0 = bits .and .u32 (E.getD 46 0) x4 := by rw [a47]; show bits .and .u32 (E.getD 46 0) (E.getD 30 0) = _; rw [f30]
  have b48 : E.getD 48 0 = bits .and .u32 (E.getD 47 0) x3 := by rw [a48]; show bits .and .u32 (E.getD 47 0) (E.getD 27 0) = _; rw [f27]
  have b49 : E.getD 49 0 = bits .and .u32 (E.getD 48 0) x2 := by rw [a49]; show bits .and .u32 (E.getD 48 0) (E.getD 24 0) = _; rw [f24]
  obtain ⟨l44, u44, i44⟩ := and_mask p8.1 (by omega) p7.1 (by omega)
  rw [← b44] at l44 u44 i44
  obtain ⟨l45, u45, i45⟩ := and_mask l44 u44 p6.1 (by omega)
  rw [← b45] at l45 u45 i45
  obtain ⟨l46, u46, i46⟩ := and_mask l45 u45 p5.1 (by omega)
  rw [← b46] at l46 u46 i46
  obtain ⟨l47, u47, i47⟩ := and_mask l46 u46 p4.1 (by omega)
  rw [← b47] at l47 u47 i47
  obtain ⟨l48, u48, i48⟩ := and_mask l47 u47 p3.1 (by omega)
  rw [← b48] at l48 u48 i48
  obtain ⟨l49, u49, i49⟩ := and_mask l48 u48 p2.1 (by omega)
  rw [← b49] at l49 u49 i49
  have f54 : E.getD 54 0 = (x0 + 977) / 67108864 := by
    rw [a54]
    show (E.getD 53 0).fdiv (2 ^ (min (26 : Int).toNat IntKind.u32.bits)) = _
    rw [f53, show ((2 : Int) ^ (min (26 : Int).toNat IntKind.u32.bits)) = 67108864 from rfl, Int.fdiv_eq_ediv_of_nonneg _ (by decide)]
  have f55 : E.getD 55 0 = x1 + 64 + (x0 + 977) / 67108864 := by omega
  have hc := carry_up p0.1 p0.2 p1.2
  have hm59 : E.getD 59 0 = b01 (decide (fp ≤ V)) := by
    have h57 : E.getD 59 0 = E.getD 57 0 := by omega
    rw [h57, hf]
    refine congrArg b01 (Bool.eq_iff_iff.2 ?_)
    rw [hv] at hov
    rw [decide_eq_true_eq, hov]
    simp only [normB, BF.ev, Bool.and_eq_true, decide_eq_true_eq]
    have l : ∀ n : Int, (SI.lit n).val E = n := fun _ => rfl
    simp only [v, l]
    rw [f41, f55, hc, i49, i48, i47, i46, i45, i44]
    constructor
    · rintro ⟨⟨a, ⟨⟨⟨⟨⟨b, c⟩, d⟩, e⟩, f⟩, g⟩, h⟩, i⟩
      exact ⟨a, b, c, d, e, f, g, h, i⟩
    · rintro ⟨a, b, c, d, e, f, g, h, i⟩
      exact ⟨⟨a, ⟨⟨⟨⟨⟨b, c⟩, d⟩, e⟩, f⟩, g⟩, h⟩, i⟩
  have hm0 := hm _ List.mem_cons_self
  simp only at hm0
  rw [linV_append, linV_append, linOf_val, linOf_val, hvars, hv] at hm0
  have hlast : linV E [((.var 59 : SI), (-4294968273 : Int))] = -4294968273 * E.getD 59 0 + 0 := rfl
  rw [hlast, hm59] at hm0
  have hD : Dg 26 (normW.map (·.val E)) := by
    intro x hx
    obtain ⟨y, hy, rfl⟩ := List.mem_map.1 hx
    have := hi (y, 0, 2 ^ 26 - 1) (List.mem_append_left _ (List.mem_map.2 ⟨y, hy, rfl⟩))
    simp only at this
    omega
  have htop := hi (.var 91, 0, 4194303) (List.mem_append_right _ List.mem_cons_self)
  simp only [SI.val] at htop
  have hnb : num 26 (normW.map (·.val E)) < 2 ^ 256 := by
    have g : ∀ y ∈ normW.map (·.val E), 0 ≤ y ∧ y < 2 ^ 26 := hD
    have g0 := g (E.getD 66 0) (by simp [normW, SI.val])
    have g1 := g (E.getD 69 0) (by simp [normW, SI.val])
    have g2 := g (E.getD 72 0) (by simp [normW, SI.val])
    have g3 := g (E.getD 75 0) (by simp [normW, SI.val])
    have g4 := g (E.getD 78 0) (by simp [normW, SI.val])
    have g5 := g (E.getD 81 0) (by simp [normW, SI.val])
    have g6 := g (E.getD 84 0) (by simp [normW, SI.val])
    have g7 := g (E.getD 87 0) (by simp [normW, SI.val])
    have g8 := g (E.getD 90 0) (by simp [normW, SI.val])
    simp only [normW, List.map_cons, List.map_nil, num, SI.val]
    omega
  have hn0 := (num_bounds hD).1
  have hval : num 26 (normW.map (·.val E)) = V % fp := by
    obtain ⟨c, hc⟩ := hm0
    by_cases h : fp ≤ V
    · have e : b01 (decide (fp ≤ V)) = 1 := by simp [b01, h]
      rw [e] at hc
      have : V % fp = V - fp := by
        rw [← Int.sub_emod_right]
        exact Int.emod_eq_of_lt (by omega) (by unfold fp; omega)
      rw [this]
      unfold fp at h ⊢
      omega
    · have e : b01 (decide (fp ≤ V)) = 0 := by simp [b01, h]
      rw [e] at hc
      rw [Int.emod_eq_of_lt v0 (by omega)]
      omega
  rw [← hval]
  exact (dig_num hD).symm

end Go.Proofs.Ytfeancgmmonebaa.Sx
