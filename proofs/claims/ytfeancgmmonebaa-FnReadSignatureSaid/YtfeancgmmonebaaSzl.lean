/-
  From contracts to calls: what a call of a known function gives, told of values and of whole blocks. Conditions: none; each theorem bears its own.
-/
import Derived.Test.YtfeancgmmonebaaSzg
import Derived.Below
namespace Go.Proofs.Ytfeancgmmonebaa.Sx
open Go Go.Proofs Go.RowKit

theorem kcells_at (k : IntKind) (o : List (Nat × Nat)) : ∀ (l pre post E : List Int) (n m : Nat), E = pre ++ (l ++ post) → pre.length = n → l.length = m →
    (kcells n (List.replicate m (some k))).map (SC.den ⟨E, o⟩) = l.map (Value.int k)
  | [], pre, post, E, n, m, _, _, hm => by
    obtain rfl : m = 0 := by simpa using hm.symm
    rfl
  | x :: l, pre, post, E, n, m, hE, hn, hm => by
    obtain ⟨m, rfl⟩ : ∃ q, m = q + 1 := ⟨m - 1, by simp at hm; omega⟩
    have := kcells_at k o l (pre ++ [x]) post E (n + 1) m (by simpa using hE) (by simp [hn]) (by simpa using hm)
    simp only [List.replicate_succ, kcells, List.map_cons, this]
    congr 1
    subst hE
    simp [mkSC, SC.den, SI.val, List.getD, ← hn]

theorem kcells_length : ∀ (ks : List CK) (n : Nat), (kcells n ks).length = ks.length
  | [], _ => rfl
  | k :: ks, n => by simp [kcells, kcells_length ks]

theorem rekey_kcells (k : IntKind) : ∀ (m n n' : Nat), rekey n' (kcells n (List.replicate m (some k))) = kcells n' (List.replicate m (some k))
  | 0, _, _ => rfl
  | m + 1, n, n' => by simp [List.replicate_succ, kcells, mkSC, rekey, rekey_kcells k m (n + 1) (n' + 1)]

/-- Block g alone, and what is new, may have turned. -/
structure Only (g : Nat) (w w' : World) : Prop where
  os : w'.os = w.os
  tape : w'.tape = w.tape
  output : w'.output = w.output
  size : w.heap.size ≤ w'.heap.size
  block : ∀ k, k < w.heap.size → k ≠ g → w'.heap[k]? = w.heap[k]?

theorem Only.below {B g : Nat} {w0 w w' : World} (h : Only g w w') (hb : Below B w0 w) (hB : B ≤ w0.heap.size) (hg : B ≤ g) : Below B w0 w' :=
  hb.trans ⟨h.os, h.tape, h.output, h.size, fun k hk => by
    rcases Nat.lt_or_ge k w.heap.size with h1 | h1
    · exact h.block k h1 (by omega)
    · exact absurd hk (by have := hb.size; omega)⟩

theorem only_of_below {g : Nat} {w w' : World} (h : Below w.heap.size w w') : Only g w w' := ⟨h.os, h.tape, h.output, h.size, fun k hk _ => h.block k hk⟩

theorem Only.trans {g : Nat} {a b c : World} (h : Only g a b) (h' : Only g b c) : Only g a c :=
  ⟨h'.os.trans h.os, h'.tape.trans h.tape, h'.output.trans h.output, Nat.le_trans h.size h'.size, fun k hk hne => (h'.block k (Nat.lt_of_lt_of_le hk h.size) hne).trans (h.block k hk hne)⟩

theorem Fr.only {W : Nat → Nat → Prop} {w w' : World} (h : Fr W w w') {g : Nat} (hw : ∀ k j, W k j → k = g) : Only g w w' := by
  refine ⟨h.os, h.tape, h.output, h.size, fun k hk hne => ?_⟩
  rcases h.block k hk with h1 | ⟨x, x', e, fz, h1, h2, h3, h4⟩
  · exact h1
  · rw [h1, h2]
    have : x' = x := by
      apply Array.ext_getElem?
      intro j
      exact h4 j fun hq => hne (hw k j hq)
    rw [this]

/-- A block whose cells are known behind. -/
theorem Fr.known {W : Nat → Nat → Prop} {w w' : World} (h : Fr W w w') {g : Nat} {c : Array Value} {T : TypeId} {fz : Nat × Nat} (hb : w.heap[g]? = some (.cells c T fz)) {c' : List Value} (hl : c'.length = c.size)
    (hc : ∀ j v, c'[j]? = some v → w'.cell? ⟨g, j, none⟩ = some v) : w'.heap[g]? = some (.cells c'.toArray T fz) := by
  have hg : g < w.heap.size := by
    rcases Nat.lt_or_ge g w.heap.size with h' | h'
    · exact h'
    · rw [Array.getElem?_eq_none h'] at hb; cases hb
  obtain ⟨x', h2, h3⟩ : ∃ x', w'.heap[g]? = some (.cells x' T fz) ∧ x'.size = c.size := by
    rcases h.block g hg with h1 | ⟨x, x', e, fz', h1, h2, h3, h4⟩
    · exact ⟨c, h1.trans hb, rfl⟩
    · rw [hb] at h1
      cases h1
      exact ⟨x', h2, h3⟩
  have : x' = c'.toArray := by
    apply Array.ext
    · simp [h3, hl]
    · intro j h5 h6
      have := hc j c'[j] (by simp)
      simp only [World.cell?, h2] at this
      simpa [h5] using this
  rw [h2, this]

theorem ObjOk.whole {w : World} {ρ : En} {o g : Nat} {cells : List SC} {wr : Bool} {T : TypeId} {cs : List Value} (hb : w.heap[g]? = some (.cells cs.toArray T (0, 0))) (hg : ρ.blk o = g) (h0 : ρ.off o = 0)
    (hc : cells.map (SC.den ρ) = cs) : ObjOk w ρ o ⟨cells, wr⟩ := by
  subst hg
  subst hc
  refine ⟨?_, fun j c hj => ?_, fun _ j hj => ?_⟩
  · rcases Nat.lt_or_ge (ρ.blk o) w.heap.size with h' | h'
    · exact h'
    · rw [Array.getElem?_eq_none h'] at hb; cases hb
  · simp only [World.cell?, hb, h0, Nat.zero_add]
    simp only at hj
    simp [hj]
  · simp [World.frozen?, hb]

/-- A call by its contract. -/
theorem Meets.calls {P : Program} {e : Entry} (hm : Meets P e) (hgo : goFunc P e.f = true) {base : List Int} {bs : List (Nat × Nat)} {w : World} (hl : base.length = (ini e.args).n) (hbs : bs.length = (ini e.args).mem.length)
    (hpre : e.free = false → e.Pre base) (hmem : MemOk w ⟨base, bs⟩ (ini e.args).mem) (hdis : Dis ⟨base, bs⟩ (ini e.args).mem) :
    Calls P e.f ((ini e.args).args.map (SV.den ⟨base, bs⟩)).toArray w fun en w' =>
      ∃ nb : List (Nat × Nat), (ini e.args).mem.length + nb.length = (fin e).mem.length ∧ (∀ q ∈ nb, w.heap.size ≤ q.1) ∧ Dis (e.env base bs nb) (fin e).mem ∧
        en = .returned ((retOf (fin e).res).den (e.env base bs nb)) ∧ MemOk w' (e.env base bs nb) (fin e).mem ∧ Fr (WOf ⟨base, bs⟩ (ini e.args).mem) w w' := by
  have h := hm base bs w hl hbs hpre hmem hdis
  have hrun := goFunc_run hgo ((ini e.args).args.map (SV.den ⟨base, bs⟩)).toArray w
  rcases h with ⟨_, h⟩ | ⟨v, h, _⟩
  · exact h
  · rw [hrun] at h
    cases h

/-- A call that is handed no memory. -/
theorem Meets.pure {P : Program} {e : Entry} (hm : Meets P e) (hgo : goFunc P e.f = true) {base out : List Int} (hl : base.length = (ini e.args).n) (hmem : (ini e.args).mem = []) (hpre : e.free = false → e.Pre base) (hF : e.F base = out)
    {args : List Value} (hargs : (ini e.args).args.map (SV.den ⟨base, []⟩) = args) {v : Value} (hv : ∀ nb, (retOf (fin e).res).den ⟨base ++ fit ((fin e).n - (ini e.args).n) out, nb⟩ = v) (w : World) :
    Calls P e.f args.toArray w fun en w' => en = .returned v ∧ Below w.heap.size w w' := by
  subst hargs
  refine (hm.calls hgo (base := base) (bs := []) (w := w) hl (by rw [hmem]; rfl) hpre (fun o so ho => by rw [hmem] at ho; simp at ho) (fun p p' a a' _ h1 => by rw [hmem] at h1; simp at h1)).mono ?_
  rintro en w' ⟨nb, _, _, _, hen, _, hfr⟩
  refine ⟨?_, hfr.below (Nat.le_refl _) fun k j _ ⟨o, so, ho, _⟩ => by rw [hmem] at ho; simp at ho⟩
  rw [hen, ← hv nb, ← hF]
  rfl

theorem agg_at (k : IntKind) (o : List (Nat × Nat)) {l pre post E : List Int} {n m : Nat} (hE : E = pre ++ (l ++ post)) (hn : pre.length = n) (hm : l.length = m) :
    (SV.one (.agg (kcells n (List.replicate m (some k))))).den ⟨E, o⟩ = .agg (l.map (Value.int k)).toArray := by
  simp only [SV.den, S1.den, kcells_at k o l pre post E n m hE hn hm]

/-! ## Calls that are handed no memory -/

theorem c_uof {bs : List Int} (hl : bs.length = 32) (hd : Dg 8 bs) (w : World) :
    Calls Try.prog 15 #[.agg (bs.map (Value.int .u8)).toArray] w fun en w' => en = .returned (.agg ((dig 64 4 (be bs)).map (Value.int .u64)).toArray) ∧ Below w.heap.size w w' :=
  m_uof.pure (by kernel_rfl) (base := bs) hl rfl (fun h => by cases h) (uof_spec hl hd) (args := [.agg (bs.map (Value.int .u8)).toArray])
    (by
      show [(SV.one (.agg (kcells 0 (List.replicate 32 (some .u8))))).den ⟨bs, []⟩] = _
      rw [agg_at .u8 [] (l := bs) (pre := []) (post := []) (n := 0) (by simp) rfl hl])
    (fun nb => by
      show (SV.one (.agg (kcells 32 (List.replicate 4 (some .u64))))).den ⟨bs ++ fit 4 _, nb⟩ = _
      rw [fit_eq (dig_length 64 4 _)]
      exact agg_at .u64 nb (pre := bs) (post := []) (by simp) hl (dig_length 64 4 _)) w

/-- Calls of SetBytes. -/
theorem c_ssetb {g h : Nat} {T T' : TypeId} {old bs : List Int} {w : World} (ho : old.length = 8) (hod : Dg 32 old) (hl : bs.length = 32) (hd : Dg 8 bs) (hg : w.heap[g]? = some (.cells (old.map (Value.int .u32)).toArray T (0, 0)))
    (hh : w.heap[h]? = some (.cells (bs.map (Value.int .u8)).toArray T' (0, 0))) (hne : g ≠ h) :
    Calls Try.prog 45 #[.pointer (some ⟨g, 0, none⟩), .pointer (some ⟨h, 0, none⟩)] w fun en w' =>
      en = .returned (.int .u32 (b01 (decide (fn ≤ be bs)))) ∧ w'.heap[g]? = some (.cells ((dig 32 8 (be bs % fn)).map (Value.int .u32)).toArray T (0, 0)) ∧ Only g w w' := by
  have hF := ssetb_spec ho hod hl hd
  refine (m_ssetb.calls (by kernel_rfl) (base := old ++ bs) (bs := [(g, 0), (h, 0)]) (w := w) (by simp [ho, hl]; rfl) rfl (fun h => by cases h) ?_ ?_).mono ?_
  · intro o so hso
    match o with
    | 0 =>
      obtain rfl : (⟨kcells 0 (List.replicate 8 (some .u32)), true⟩ : SO) = so := Option.some.inj hso
      exact ObjOk.whole hg rfl rfl (kcells_at .u32 _ old [] bs _ 0 8 (by simp) rfl ho)
    | 1 =>
      obtain rfl : (⟨kcells 8 (List.replicate 32 (some .u8)), false⟩ : SO) = so := Option.some.inj hso
      exact ObjOk.whole hh rfl rfl (kcells_at .u8 _ bs old [] _ 8 32 (by simp) ho hl)
    | o + 2 => cases hso
  · intro o o' so so' hoo h1 h2 h3
    match o, o' with
    | 0, 1 => exact .inl hne
    | 1, 0 => exact .inl hne.symm
    | 0, 0 => exact absurd rfl hoo
    | 1, 1 => exact absurd rfl hoo
    | o + 2, _ => cases h1
    | _, o' + 2 => cases h2
  · rintro en w' ⟨nb, hnb, _, _, hen, hm', hfr⟩
    obtain rfl : nb = [] := List.length_eq_zero_iff.1 (by have h : 2 + nb.length = 2 := hnb; omega)
    have hE : e_ssetb.env (old ++ bs) [(g, 0), (h, 0)] [] = ⟨(old ++ bs) ++ (dig 32 8 (be bs % fn) ++ [b01 (decide (fn ≤ be bs))]), [(g, 0), (h, 0)]⟩ := by
      unfold Entry.env
      rw [hF]
      show (⟨_ ++ fit 9 _, _⟩ : En) = _
      rw [fit_eq (by simp [dig_length])]
      rfl
    rw [hE] at hen hm'
    have hW : ∀ k j, WOf ⟨old ++ bs, [(g, 0), (h, 0)]⟩ (ini e_ssetb.args).mem k j → k = g := by
      rintro k j ⟨o, so, hso, hw, hk, _⟩
      match o with
      | 0 => exact hk.symm
      | 1 =>
        obtain rfl : (⟨kcells 8 (List.replicate 32 (some .u8)), false⟩ : SO) = so := Option.some.inj hso
        cases hw
      | o + 2 => cases hso
    refine ⟨?_, ?_, hfr.only hW⟩
    · rw [hen]
      show Ending.returned (Value.int .u32 (List.getD _ 48 0)) = _
      rw [List.getD, List.getElem?_append_right (by simp [ho, hl]), List.getElem?_append_right (by simp [ho, hl, dig_length])]
      simp [ho, hl, dig_length]
    · refine hfr.known hg (by simp [dig_length, ho]) fun j v hj => ?_
      have hob := hm' 0 ⟨kcells 40 (List.replicate 8 (some .u32)), true⟩ rfl
      have hc := kcells_at .u32 [(g, 0), (h, 0)] (dig 32 8 (be bs % fn)) (old ++ bs) [b01 (decide (fn ≤ be bs))] ((old ++ bs) ++ (dig 32 8 (be bs % fn) ++ [b01 (decide (fn ≤ be bs))])) 40 8 (by simp) (by simp [ho, hl]) (dig_length 32 8 _)
      rw [← hc, List.getElem?_map, Option.map_eq_some_iff] at hj
      obtain ⟨c, hj, rfl⟩ := hj
      have := hob.cell j c hj
      exact (congrArg (fun q => w'.cell? ⟨g, q, none⟩) (Nat.zero_add j)).symm.trans this

theorem c_setb {g h : Nat} {T T' : TypeId} {old bs : List Int} {w : World} (ho : old.length = 10) (hod : Dg 32 old) (hl : bs.length = 32) (hd : Dg 8 bs) (hg : w.heap[g]? = some (.cells (old.map (Value.int .u32)).toArray T (0, 0)))
    (hh : w.heap[h]? = some (.cells (bs.map (Value.int .u8)).toArray T' (0, 0))) (hne : g ≠ h) :
    Calls Try.prog 52 #[.pointer (some ⟨g, 0, none⟩), .pointer (some ⟨h, 0, none⟩)] w fun en w' =>
      en = .returned (.int .u32 (b01 (decide (fp ≤ be bs)))) ∧ w'.heap[g]? = some (.cells ((dig 26 10 (be bs)).map (Value.int .u32)).toArray T (0, 0)) ∧ Only g w w' := by
  have hF := setb_spec ho hod hl hd
  refine (m_setb.calls (by kernel_rfl) (base := old ++ bs) (bs := [(g, 0), (h, 0)]) (w := w) (by simp [ho, hl]; rfl) rfl (fun h => by cases h) ?_ ?_).mono ?_
  · intro o so hso
    match o with
    | 0 =>
      obtain rfl : (⟨kcells 0 (List.replicate 10 (some .u32)), true⟩ : SO) = so := Option.some.inj hso
      exact ObjOk.whole hg rfl rfl (kcells_at .u32 _ old [] bs _ 0 10 (by simp) rfl ho)
    | 1 =>
      obtain rfl : (⟨kcells 10 (List.replicate 32 (some .u8)), false⟩ : SO) = so := Option.some.inj hso
      exact ObjOk.whole hh rfl rfl (kcells_at .u8 _ bs old [] _ 10 32 (by simp) ho hl)
    | o + 2 => cases hso
  · intro o o' so so' hoo h1 h2 h3
    match o, o' with
    | 0, 1 => exact .inl hne
    | 1, 0 => exact .inl hne.symm
    | 0, 0 => exact absurd rfl hoo
    | 1, 1 => exact absurd rfl hoo
    | o + 2, _ => cases h1
    | _, o' + 2 => cases h2
  · rintro en w' ⟨nb, hnb, _, _, hen, hm', hfr⟩
    obtain rfl : nb = [] := List.length_eq_zero_iff.1 (by have h : 2 + nb.length = 2 := hnb; omega)
    have hE : e_setb.env (old ++ bs) [(g, 0), (h, 0)] [] = ⟨(old ++ bs) ++ (dig 26 10 (be bs) ++ [b01 (decide (fp ≤ be bs))]), [(g, 0), (h, 0)]⟩ := by
      unfold Entry.env
      rw [hF]
      show (⟨_ ++ fit 11 _, _⟩ : En) = _
      rw [fit_eq (by simp [dig_length])]
      rfl
    rw [hE] at hen hm'
    have hW : ∀ k j, WOf ⟨old ++ bs, [(g, 0), (h, 0)]⟩ (ini e_setb.args).mem k j → k = g := by
      rintro k j ⟨o, so, hso, hw, hk, _⟩
      match o with
      | 0 => exact hk.symm
      | 1 =>
        obtain rfl : (⟨kcells 10 (List.replicate 32 (some .u8)), false⟩ : SO) = so := Option.some.inj hso
        cases hw
      | o + 2 => cases hso
    refine ⟨?_, ?_, hfr.only hW⟩
    · rw [hen]
      show Ending.returned (Value.int .u32 (List.getD _ 52 0)) = _
      rw [List.getD, List.getElem?_append_right (by simp [ho, hl]), List.getElem?_append_right (by simp [ho, hl, dig_length])]
      simp [ho, hl, dig_length]
    · refine hfr.known hg (by simp [dig_length, ho]) fun j v hj => ?_
      have hob := hm' 0 ⟨kcells 42 (List.replicate 10 (some .u32)), true⟩ rfl
      have hc := kcells_at .u32 [(g, 0), (h, 0)] (dig 26 10 (be bs)) (old ++ bs) [b01 (decide (fp ≤ be bs))] ((old ++ bs) ++ (dig 26 10 (be bs) ++ [b01 (decide (fp ≤ be bs))])) 42 10 (by simp) (by simp [ho, hl]) (dig_length 26 10 _)
      rw [← hc, List.getElem?_map, Option.map_eq_some_iff] at hj
      obtain ⟨c, hj, rfl⟩ := hj
      have := hob.cell j c hj
      exact (congrArg (fun q => w'.cell? ⟨g, q, none⟩) (Nat.zero_add j)).symm.trans this

end Go.Proofs.Ytfeancgmmonebaa.Sx
