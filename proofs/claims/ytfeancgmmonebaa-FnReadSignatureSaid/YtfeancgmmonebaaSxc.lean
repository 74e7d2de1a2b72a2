/-
  The symbolic step on one plain operation (all kinds) is what the model's operation does. Conditions: none; each theorem bears its own.
-/
import Derived.Test.YtfeancgmmonebaaSxb
namespace Go.Proofs.Ytfeancgmmonebaa.Sx
open Go

theorem litOpt_spec {Γ : List Entry} {base : List Int} {ρ : En} {s : St} {a : Act} (hA : RelA Γ base ρ s a) {x : Option Operand} {r : Option Int} (h : litOpt s x = some r) :
    (x.map a.eval = none ∧ r = none) ∨ ∃ k n, x.map a.eval = some (.int k n) ∧ r = some n := by
  cases x with
  | none => cases h; exact .inl ⟨rfl, rfl⟩
  | some y =>
    simp only [litOpt] at h
    split at h
    · rename_i k n hy
      cases h
      exact .inr ⟨k, n, by simp [(get_sound hA hy).1, SV.den, S1.den, SC.den, SI.val], rfl⟩
    · cases h

theorem run_bounds {P : Program} {b : Bool} {len cap : Nat} {low high : Option Value} {l h : Option Int} (hl : (low = none ∧ l = none) ∨ ∃ k n, low = some (.int k n) ∧ l = some n) (hh : (high = none ∧ h = none) ∨ ∃ k n, high = some (.int k n) ∧ h = some n)
    (h0 : 0 ≤ l.getD 0) (h1 : l.getD 0 ≤ h.getD len) (h2 : h.getD len ≤ cap) (w : World) :
    (Instr.sliceBounds b len cap low high none).run P w = .ok ((l.getD 0).toNat, (h.getD len).toNat, cap) w := by
  rcases hl with ⟨rfl, rfl⟩ | ⟨k, n, rfl, rfl⟩ <;> rcases hh with ⟨rfl, rfl⟩ | ⟨k', n', rfl, rfl⟩ <;> simp only [Option.getD_some, Option.getD_none] at h0 h1 h2
  · simp [Instr.sliceBounds]
  · simp [Instr.sliceBounds, Instr.sliceBound, asIntOf, h1, h2]
  · simp [Instr.sliceBounds, Instr.sliceBound, asIntOf, h0, h1]
  · have h3 : 0 ≤ n' := by omega
    have h4 : ((n'.toNat : Nat) : Int) = n' := Int.toNat_of_nonneg h3
    have h5 : n ≤ ((n'.toNat : Nat) : Int) := by rw [h4]; exact h1
    simp only [Instr.sliceBounds, Instr.sliceBound, asIntOf, Sem.run_bind, Sem.run_pure, Result.andThen_ok, h0, h2, h3, h5, and_self, if_true]
    rfl

theorem over_map {α β : Type} (f : α → β) : ∀ (d : Nat) (l cs : List α), (over d l cs).map f = over d (l.map f) (cs.map f)
  | 0, l, [] => by cases l <;> simp [over]
  | d + 1, l, [] => by cases l <;> simp [over]
  | 0, [], c :: cs => by simp [over]
  | d + 1, [], c :: cs => by simp [over]
  | 0, x :: l, c :: cs => by simp [over, over_map f 0 l cs]
  | d + 1, x :: l, c :: cs => by simp [over, over_map f d l (c :: cs)]

theorem over_cons_set {α : Type} : ∀ (d : Nat) (l : List α) (c : α) (cs : List α), d < l.length → over d l (c :: cs) = over (d + 1) (l.set d c) cs
  | 0, [], c, cs, h => by simp at h
  | 0, x :: l, c, cs, _ => by cases cs <;> cases l <;> simp [over]
  | d + 1, [], c, cs, h => by simp at h
  | d + 1, x :: l, c, cs, h => by
    have := over_cons_set d l c cs (by simpa using h)
    cases cs <;> simp [over, this]

theorem foldl_over : ∀ (vs : List Value) (k off : Nat) (arr : List Value), off + k + vs.length ≤ arr.length →
    (vs.zipIdx k).foldl (fun (cs : Array Value) (x : Value × Nat) => cs.setIfInBounds (off + x.2) x.1) arr.toArray = (over (off + k) arr vs).toArray
  | [], k, off, arr, _ => by cases arr <;> cases (off + k) <;> simp [over]
  | v :: vs, k, off, arr, h => by
    simp only [List.length_cons] at h
    rw [List.zipIdx_cons, List.foldl_cons, over_cons_set _ _ _ _ (by omega)]
    have := foldl_over vs (k + 1) off (arr.set (off + k) v) (by simp; omega)
    simp only [List.setIfInBounds_toArray] at this ⊢
    rw [this, Nat.add_assoc]

theorem S1_cells {v : S1} {n m : Nat} (h : v.ok n m = true) (ρ : En) : (v.den ρ).cells = (v.cells.map (SC.den ρ)).toArray := by
  cases v with
  | sc c =>
    have : ∀ cs, c.den ρ ≠ .agg cs := by
      intro cs hc
      cases c with
      | cv v => simp only [SC.den] at hc; subst hc; simp [S1.ok, SC.ok, Value.oneCell'] at h
      | int k x => cases hc
      | bool x => cases hc
      | ptr i d => cases hc
      | slice i d l c => cases hc
    simp only [S1.den, S1.cells]
    cases hc : c.den ρ with
    | agg cs => exact (this cs hc).elim
    | _ => simp [Value.cells, hc]
  | agg cs => rfl

theorem fill_sound {Γ : List Entry} {base : List Int} {ρ : En} {s : St} {a : Act} (hA : RelA Γ base ρ s a) {place place' : Nat → Option (Nat × Nat)} (hp : ∀ i q, place i = some q → place' i = some q) :
    ∀ (parts : List (Nat × Operand)) (cells l : List SC), fillV place cells parts s.get = some l →
      Instr.fill place' (cells.map (SC.den ρ)).toArray (parts.map fun p => (p.1, a.eval p.2)) = some (l.map (SC.den ρ)).toArray
  | [], cells, l, h => by cases h; rfl
  | (i, x) :: r, cells, l, h => by
    unfold fillV at h
    split at h
    · rename_i q v hq hx
      split at h
      · rename_i hc
        simp only [Bool.and_eq_true, decide_eq_true_eq] at hc
        have hg := get_sound hA hx
        have hcells : (a.eval x).cells = (v.cells.map (SC.den ρ)).toArray := by rw [hg.1]; exact S1_cells (v := v) hg.2 ρ
        have ih := fill_sound hA hp r _ l h
        have hf := foldl_over (v.cells.map (SC.den ρ)) 0 q.1 (cells.map (SC.den ρ)) (by simp; omega)
        simp only [List.map_cons, Instr.fill, hp i q hq, hcells]
        rw [if_neg (by simp; omega)]
        rw [over_map, ← Nat.add_zero q.1, ← hf] at ih
        rw [← ih]
        congr 1
        simp
      · cases h
    · cases h

theorem run_mapM_places {P : Program} : ∀ (fs : List Field), (fs.all fun f => (szOf P f.type).isSome) = true → ∀ w,
    (fs.mapM fun f => (do pure (f.offset, ← sizeOf f.type) : Sem (Nat × Nat))).run P w = .ok (fs.map fun f => (f.offset, (szOf P f.type).getD 0)) w
  | [], _, w => rfl
  | f :: fs, h, w => by
    simp only [List.all_cons, Bool.and_eq_true] at h
    obtain ⟨n, hn⟩ := Option.isSome_iff_exists.1 h.1
    have ih := run_mapM_places fs h.2 w
    rw [List.mapM_cons]
    simp only [Sem.run_bind, run_szOf hn, Sem.run_pure, Result.andThen_ok, ih, List.map_cons, hn, Option.getD_some]

theorem opV_run {P : Program} {Γ : List Entry} {base : List Int} {ρ : En} {s : St} {a : Act} (hA : RelA Γ base ρ s a) {w : World} (hM : CellsOk w ρ s) (o : Oper) {r : VRes}
    (h : opV P s o.op = some r) : (execOp a.eval o).run P w = .ok (.value (r.den ρ)) w := by
  obtain ⟨dst, op, ty, pos, after, guard⟩ := o
  simp only at h
  cases op
  case move x =>
    obtain ⟨sv, hx, rfl⟩ := Option.map_eq_some_iff.1 (show (s.get x).map VRes.val = some r from h)
    simp [execOp, (get_sound hA hx).1, VRes.den]
  case assign x =>
    obtain ⟨sv, hx, rfl⟩ := Option.map_eq_some_iff.1 (show (s.get x).map VRes.val = some r from h)
    simp [execOp, (get_sound hA hx).1, VRes.den]
  case nilCheck x =>
    simp only [opV] at h
    split at h
    · rename_i o d hx
      cases h
      simp [execOp, (get_sound hA hx).1, VRes.den, SV.den, S1.den, SC.den]
    · cases h
  case fieldAddr T x f =>
    simp only [opV] at h
    split at h
    · rename_i fs o d hu hx
      split at h
      · rename_i fl hf
        split at h
        · rename_i n hz
          split at h
          · cases h
          · rename_i hn
            cases h
            simp [execOp, (get_sound hA hx).1, VRes.den, SV.den, S1.den, SC.den, Instr.fieldAt, run_underlying hu, hf, Instr.sureAddr, fieldPlace, run_szOf hz, hn, addr_add, Nat.add_assoc]
        · cases h
      · cases h
    · cases h
  case indexAddr T x i =>
    simp only [opV] at h
    split at h
    · rename_i k n hi
      split at h
      · rename_i len el o d hu hx
        split at h
        · rename_i z hz
          split at h
          · rename_i hb
            cases h
            simp only [Bool.and_eq_true, decide_eq_true_eq] at hb
            simp [execOp, (get_sound hA hx).1, (get_sound hA hi).1, VRes.den, SV.den, S1.den, SC.den, SI.val, Instr.indexAt, run_underlying hu, asIntOf, Instr.sureAddr, hb.1, hb.2, run_szOf hz, addr_add, Nat.add_assoc]
          · cases h
        · cases h
      · rename_i el o d len cap hu hx
        split at h
        · rename_i z hz
          split at h
          · rename_i hb
            cases h
            simp only [Bool.and_eq_true, decide_eq_true_eq] at hb
            simp [execOp, (get_sound hA hx).1, (get_sound hA hi).1, VRes.den, SV.den, S1.den, SC.den, SI.val, Instr.indexAt, run_underlying hu, asIntOf, hb.1, hb.2, run_szOf hz, addr_add, Nat.add_assoc]
          · cases h
        · cases h
      · cases h
    · cases h
  case load T x =>
    simp only [opV] at h
    split at h
    · rename_i o d hx
      split at h
      · rename_i so hso
        have ho := hM o so hso
        split at h
        · rename_i n ha hz
          split at h
          · rename_i hn
            cases h
            have := run_loadAt (P := P) (w := w) (ρ := ρ) ha hz (by simpa using hn) ho
            simp [execOp, (get_sound hA hx).1, VRes.den, SV.den, S1.den, SC.den, this]
          · cases h
        · rename_i ha
          obtain ⟨c, hc, rfl⟩ := Option.map_eq_some_iff.1 h
          have := ho d c hc
          simp [execOp, (get_sound hA hx).1, VRes.den, SV.den, S1.den, SC.den, Instr.loadAt, Instr.sureAddr, loadVar, run_isAggB ha, this]
        · cases h
      · cases h
    · cases h
  case binOp op T x y yT =>
    have := run_binV hA (show binV P s op T x y = some r from h) w
    simp only [execOp, Sem.run_bind] at this ⊢
    rw [this]
    rfl
  case unOp op T x =>
    cases op
    case not =>
      simp only [opV] at h
      split at h
      · rename_i p hx
        cases h
        simp only [execOp, (get_sound hA hx).1, SV.den, S1.den, SC.den, Op.unary, Sem.run_bind, Sem.run_pure, Result.andThen_ok, VRes.den, Pr.ev, List.map, List.getD_cons_zero, bne_ite]
        simp only [bne, Bool.not_not]
        rfl
      · cases h
    case neg =>
      simp only [opV] at h
      split at h
      · rename_i k p hx
        cases h
        simp [execOp, (get_sound hA hx).1, SV.den, S1.den, SC.den, Op.unary, Op.intArith, VRes.den, Pr.ev, binEv, SI.val]
      · cases h
    case xor =>
      simp only [opV] at h
      split at h
      · rename_i k p hx
        cases h
        simp [execOp, (get_sound hA hx).1, SV.den, S1.den, SC.den, Op.unary, intBits_xor, VRes.den, Pr.ev, binEv, SI.val]
      · cases h
    all_goals simp [opV] at h
  case convert src dst x =>
    simp only [opV] at h
    split at h
    · rename_i k p hx
      split at h
      · rename_i d k' h1 h2
        cases h
        have hi : (P.underlying src).isSome = true := by rw [h1]; rfl
        have hk : P.intKind dst = k' := by simp [Program.intKind, h2]
        have := run_convert_int w src dst k (p.val ρ.e) hi (by rw [hk]; exact h2)
        rw [hk] at this
        simp [execOp, (get_sound hA hx).1, SV.den, S1.den, SC.den, this, VRes.den, Pr.ev]
      · cases h
    · cases h
  case field T x f =>
    simp only [opV] at h
    split at h
    · rename_i fs cs hu hx
      split at h
      · rename_i fl hf
        obtain ⟨sv, hp, rfl⟩ := Option.map_eq_some_iff.1 h
        simp [execOp, (get_sound hA hx).1, SV.den, S1.den, Instr.field, run_underlying hu, hf, asAgg, run_partOf hp ρ w, VRes.den]
      · cases h
    · cases h
  case index T x i =>
    simp only [opV] at h
    split at h
    · rename_i k n hi
      split at h
      · rename_i len el cs hu hx
        split at h
        · rename_i z hz
          split at h
          · rename_i hb
            obtain ⟨sv, hp, rfl⟩ := Option.map_eq_some_iff.1 h
            simp only [Bool.and_eq_true, decide_eq_true_eq] at hb
            simp [execOp, (get_sound hA hx).1, (get_sound hA hi).1, SV.den, S1.den, SC.den, SI.val, Instr.index, asIntOf, run_underlying hu, hb.1, hb.2, run_szOf hz, run_partOf hp ρ w, VRes.den]
          · cases h
        · cases h
      · cases h
    · cases h
  case extract t i =>
    simp only [opV] at h
    split at h
    · rename_i vs hx
      obtain ⟨v, hv, rfl⟩ := Option.map_eq_some_iff.1 h
      simp [execOp, (get_sound hA hx).1, SV.den, Instr.extract, hv, VRes.den]
    · cases h
  case pick c x y =>
    simp only [opV] at h
    split at h
    · rename_i p hc
      have key : ∀ b, known s.asm p = some b → (p.val ρ.e != 0) = b := by
        intro b hb
        cases p with
        | lit n => simpa [known, SI.val] using hb
        | var i =>
          simp only [known] at hb
          obtain ⟨q, hq, rfl⟩ := Option.map_eq_some_iff.1 hb
          have h1 := List.mem_of_find?_eq_some hq
          have h2 := List.find?_some hq
          have h3 := hA.asm q h1
          rw [← h3]
          obtain ⟨qx, qb⟩ := q
          cases qx with
          | lit n => simp [SI.beq] at h2
          | var j =>
            have : j = i := by simpa [SI.beq] using h2
            subst this
            rfl
      split at h
      · rename_i hk
        obtain ⟨sv, hx, rfl⟩ := Option.map_eq_some_iff.1 h
        simp [execOp, (get_sound hA hc).1, SV.den, S1.den, SC.den, asBool, key true hk, (get_sound hA hx).1, VRes.den]
      · rename_i hk
        obtain ⟨sv, hx, rfl⟩ := Option.map_eq_some_iff.1 h
        simp [execOp, (get_sound hA hc).1, SV.den, S1.den, SC.den, asBool, key false hk, (get_sound hA hx).1, VRes.den]
      · cases h
    · cases h
  case slice T x lo hi mx =>
    cases mx with
    | some m => simp [opV] at h
    | none =>
      simp only [opV] at h
      split at h
      · rename_i n el o d l hh hu hx hl hhi
        split at h
        · rename_i z hz
          split at h
          · rename_i hc
            cases h
            simp only [Bool.and_eq_true, decide_eq_true_eq] at hc
            have hb := run_bounds (P := P) (b := false) (len := n) (cap := n) (litOpt_spec hA hl) (litOpt_spec hA hhi) hc.1.1 hc.1.2 hc.2 w
            have hp : a.eval x = .pointer (some ⟨ρ.blk o, ρ.off o + d, none⟩) := (get_sound hA hx).1
            simp only [execOp, hp, Instr.sliceAt, run_underlying hu, Instr.sureAddr, Sem.run_bind, Sem.run_pure, Result.andThen_ok, Option.map_none, hb, run_szOf hz, VRes.den, SV.den, S1.den, SC.den]
            congr 4
            split
            · rfl
            · rw [addr_add, Nat.add_assoc]
          · cases h
        · cases h
      · rename_i el o d len cap l hh hu hx hl hhi
        split at h
        · rename_i z hz
          split at h
          · rename_i hc
            cases h
            simp only [Bool.and_eq_true, decide_eq_true_eq] at hc
            have hb := run_bounds (P := P) (b := true) (len := len) (cap := cap) (litOpt_spec hA hl) (litOpt_spec hA hhi) hc.1.1 hc.1.2 hc.2 w
            have hp : a.eval x = .slice (some ⟨ρ.blk o, ρ.off o + d, none⟩) len cap := (get_sound hA hx).1
            simp only [execOp, hp, Instr.sliceAt, Instr.slice, run_underlying hu, Sem.run_bind, Sem.run_pure, Result.andThen_ok, Option.map_none, hb, run_szOf hz, VRes.den, SV.den, S1.den, SC.den]
            congr 3
            split
            · rfl
            · simp only [Option.map_some]; rw [addr_add, Nat.add_assoc]
          · cases h
        · cases h
      · cases h
  case sliceToArrayPointer T x =>
    simp only [opV] at h
    split at h
    · rename_i n el o d len cap hu hx
      split at h
      · rename_i hn
        cases h
        have hn : n ≤ len := by simpa using hn
        have hp : a.eval x = .slice (some ⟨ρ.blk o, ρ.off o + d, none⟩) len cap := (get_sound hA hx).1
        simp [execOp, hp, Instr.arrayAt, run_underlying hu, Nat.not_lt.2 hn, VRes.den, SV.den, S1.den, SC.den]
      · cases h
    · cases h
  case build T parts =>
    simp only [opV] at h
    split at h
    · rename_i v hv
      split at h
      · rename_i cs hcs
        obtain ⟨inf, hi, hz⟩ := Option.bind_eq_some_iff.1 hv
        have hd := (ofCells_den ρ s.n s.mem.length _ _ hcs).1
        have hcells : v.cells = (cs.map (SC.den ρ)).toArray := by rw [hd]
        have hparts : (parts.map fun (p : Nat × Operand) => (p.1, a.eval p.2)).toList = parts.toList.map fun p => (p.1, a.eval p.2) := by simp
        split at h
        · rename_i fs hu
          split at h
          · rename_i hall
            obtain ⟨l, hl, rfl⟩ := Option.map_eq_some_iff.1 h
            have hf := fill_sound hA (place' := ((fs.toList.map fun f => (f.offset, (szOf P f.type).getD 0)).toArray[·]?)) (fun i q hq => by simpa using hq) _ _ _ hl
            have hm := run_mapM_places (P := P) fs.toList hall w
            have hm' : (fs.mapM fun f => (do pure (f.offset, ← sizeOf f.type) : Sem (Nat × Nat))).run P w = .ok (fs.toList.map fun f => (f.offset, (szOf P f.type).getD 0)).toArray w := by
              rw [Array.mapM_eq_mapM_toList]
              simp only [Sem.run_map, hm, Result.andThen_ok]
            simp only [execOp, Instr.build, zeroValue, typeInfo, hi, hz, Sem.run_bind, run_program, Result.andThen_ok, Sem.run_pure, run_underlying hu, hm', hcells, hparts, hf, VRes.den, SV.den, S1.den]
          · cases h
        · rename_i n el hu
          split at h
          · rename_i z hzz
            obtain ⟨l, hl, rfl⟩ := Option.map_eq_some_iff.1 h
            have hf := fill_sound hA (place' := fun i => some (i * z, z)) (fun i q hq => hq) _ _ _ hl
            simp only [execOp, Instr.build, zeroValue, typeInfo, hi, hz, Sem.run_bind, run_program, Result.andThen_ok, Sem.run_pure, run_underlying hu, run_szOf hzz, hcells, hparts, hf, VRes.den, SV.den, S1.den]
          · cases h
        · cases h
      · cases h
    · cases h
  case call c =>
    obtain ⟨callee, args, ats⟩ := c
    simp only [opV] at h
    split at h
    · rename_i x T h2 h3
      split at h
      · rename_i o d l cap el hx hu
        cases h
        obtain ⟨args⟩ := args
        obtain ⟨ats⟩ := ats
        simp only at h2 h3
        subst h2 h3
        have := run_len_slice (P := P) w T ty (some ⟨ρ.blk o, ρ.off o + d, none⟩) l cap (by simp [Program.elem, hu])
        simp only [execOp, resolve, invoke, builtin, Sem.run_bind, Sem.run_pure, Result.andThen_ok, List.map_toArray, List.map, (get_sound hA hx).1, SV.den, S1.den, SC.den, this, VRes.den, SI.val, goInt]
      · cases h
    · cases h
  all_goals (simp [opV] at h)

end Go.Proofs.Ytfeancgmmonebaa.Sx
