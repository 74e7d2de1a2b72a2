/-
  The symbolic step on one plain operation (all kinds) is what the model's operation does. Conditions: none; each theorem bears its own.
-/
import Derived.Test.YtfeancgmmonebaaMga
namespace Go.Proofs.Ytfeancgmmonebaa.Sx
open Go

theorem litOpt_spec {Γ : List Entry} {base : List Int} {ρ : En} {s : St} {a : Act} (hA : RelA Γ base ρ s a) {x : Option Operand} {r : Option Int} (h : litOpt s x = some r) :
    (x.map a.eval = none ∧ r = none) ∨ ∃ k n, x.map a.eval = some (.int k n) ∧ r = some n := by
  cases x with
  | none => cases h; exact .inl ⟨rfl, rfl⟩
  | some y =>
    simp only [litOpt] at h
    split at h
    · rename_i k n hy
      cases h
      exact .inr ⟨k, n, by simp [(get_sound hA hy).1, SV.den, S1.den, SC.den, SI.val], rfl⟩
    · cases h

theorem run_bounds {P : Program} {b : Bool} {len cap : Nat} {low high : Option Value} {l h : Option Int} (hl : (low = none ∧ l = none) ∨ ∃ k n, low = some (.int k n) ∧ l = some n) (hh : (high = none ∧ h = none) ∨ ∃ k n, high = some (.int k n) ∧ h = some n)
    (h0 : 0 ≤ l.getD 0) (h1 : l.getD 0 ≤ h.getD len) (h2 : h.getD len ≤ cap) (w : World) :
    (Instr.sliceBounds b len cap low high none).run P w = .ok ((l.getD 0).toNat, (h.getD len).toNat, cap) w := by
  rcases hl with ⟨rfl, rfl⟩ | ⟨k, n, rfl, rfl⟩ <;> rcases hh with ⟨rfl, rfl⟩ | ⟨k', n', rfl, rfl⟩ <;> simp only [Option.getD_some, Option.getD_none] at h0 h1 h2
  · simp [Instr.sliceBounds]
  · simp [Instr.sliceBounds, Instr.sliceBound, asIntOf, h1, h2]
  · simp [Instr.sliceBounds, Instr.sliceBound, asIntOf, h0, h1]
  · have h3 : 0 ≤ n' := by omega
    have h4 : ((n'.toNat : Nat) : Int) = n' := Int.toNat_of_nonneg h3
    have h5 : n ≤ ((n'.toNat : Nat) : Int) := by rw [h4]; exact h1
    simp only [Instr.sliceBounds, Instr.sliceBound, asIntOf, Sem.run_bind, Sem.run_pure, Result.andThen_ok, h0, h2, h3, h5, and_self, if_true]
    rfl

theorem over_map {α β : Type} (f : α → β) : ∀ (d : Nat) (l cs : List α), (over d l cs).map f = over d (l.map f) (cs.map f)
  | 0, l, [] => by cases l <;> simp [over]
  | d + 1, l, [] => by cases l <;> simp [over]
  | 0, [], c :: cs => by simp [over]
  | d + 1, [], c :: cs => by simp [over]
  | 0, x :: l, c :: cs => by simp [over, over_map f 0 l cs]
  | d + 1, x :: l, c :: cs => by simp [over, over_map f d l (c :: cs)]

theorem over_cons_set {α : Type} : ∀ (d : Nat) (l : List α) (c : α) (cs : List α), d < l.length → over d l (c :: cs) = over (d + 1) (l.set d c) cs
  | 0, [], c, cs, h => by simp at h
  | 0, x :: l, c, cs, _ => by cases cs <;> cases l <;> simp [over]
  | d + 1, [], c, cs, h => by simp at h
  | d + 1, x :: l, c, cs, h => by
    have := over_cons_set d l c cs (by simpa using h)
    cases cs <;> simp [over, this]

theorem foldl_over : ∀ (vs : List Value) (k off : Nat) (arr : List Value), off + k + vs.length ≤ arr.length →
    (vs.zipIdx k).foldl (fun (cs : Array Value) (x : Value × Nat) => cs.setIfInBounds (off + x.2) x.1) arr.toArray = (over (off + k) arr vs).toArray
  | [], k, off, arr, _ => by cases arr <;> cases (off + k) <;> simp [over]
  | v :: vs, k, off, arr, h => by
    simp only [List.length_cons] at h
    rw [List.zipIdx_cons, List.foldl_cons, over_cons_set _ _ _ _ (by omega)]
    have := foldl_over vs (k + 1) off (arr.set (off + k) v) (by simp; omega)
    simp only [List.setIfInBounds_toArray] at this ⊢
    rw [this, Nat.add_assoc]

theorem S1_cells {v : S1} {n m : Nat} (h : v.ok n m = true) (ρ : En) : (v.den ρ).cells = (v.cells.map (SC.den ρ)).toArray := by
  cases v with
  | sc c =>
    have : ∀ cs, c.den ρ ≠ .agg cs := by
      intro cs hc
      cases c with
      | cv v => simp only [SC.den] at hc; subst hc; simp [S1.ok, SC.ok, Value.oneCell'] at h
      | int k x => cases hc
      | bool x => cases hc
      | ptr i d => cases hc
      | slice i d l c => cases hc
    simp only [S1.den, S1.cells]
    cases hc : c.den ρ with
    | agg cs => exact (this cs hc).elim
    | _ => simp [Value.cells, hc]
  | agg cs => rfl

theorem fill_sound {Γ : List Entry} {base : List Int} {ρ : En} {s : St} {a : Act} (hA : RelA Γ base ρ s a) {place place' : Nat → Option (Nat × Nat)} (hp : ∀ i q, place i = some q → place' i = some q) :
    ∀ (parts : List (Nat × Operand)) (cells l : List SC), fillV place cells parts s.get = some l →
      Instr.fill place' (cells.map (SC.den ρ)).toArray (parts.map fun p => (p.1, a.eval p.2)) = some (l.map (SC.den ρ)).toArray
  | [], cells, l, h => by cases h; rfl
  | (i, x) :: r, cells, l, h => by
    unfold fillV at h
    split at h
    · rename_i q v hq hx
      split at h
      · rename_i hc
        simp only [Bool.and_eq_true, decide_eq_true_eq] at hc
        have hg := get_sound hA hx
        have hcells : (a.eval x).cells = (v.cells.map (SC.den ρ)).toArray := by rw [hg.1]; exact S1_cells (v := v) hg.2 ρ
        have ih := fill_sound hA hp r _ l h
        have hf := foldl_over (v.cells.map (SC.den ρ)) 0 q.1 (cells.map (SC.den ρ)) (by simp; omega)
        simp only [List.map_cons, Instr.fill, hp i q hq, hcells]
        rw [if_neg (by simp; omega)]
        rw [over_map, ← Nat.add_zero q.1, ← hf] at ih
        rw [← ih]
        congr 1
        simp
      · cases h
    · cases h

theorem run_mapM_places {P : Program} : ∀ (fs : List Field), (fs.all fun f => (szOf P f.type).isSome) = true → ∀ w,
    (fs.mapM fun f => (do pure (f.offset, ← sizeOf f.type) : Sem (Nat × Nat))).run P w = .ok (fs.map fun f => (f.offset, (szOf P f.type).getD 0)) w
  | [], _, w => rfl
  | f :: fs, h, w => by
    simp only [List.all_cons, Bool.and_eq_true] at h
    obtain ⟨n, hn⟩ := Option.isSome_iff_exists.1 h.1
    have ih := run_mapM_places fs h.2 w
    rw [List.mapM_cons]
    simp only [Sem.run_bind, run_szOf hn, Sem.run_pure, Result.andThen_ok, ih, List.map_cons, hn, Option.getD_some]

theorem opV_run {P : Program} {Γ : List Entry} {base : List Int} {ρ : En} {s : St} {a : Act} (hA : RelA Γ base ρ s a) {w : World} (hM : CellsOk w ρ s) (o : Oper) {r : VRes}
    (h : opV P s o.op = some r) : (execOp a.eval o).run P w = .ok (.value (r.den ρ)) w := by
  obtain ⟨dst, op, ty, pos, after, guard⟩ := o
  simp only at h
  cases op
  case move x =>
    obtain ⟨sv, hx, rfl⟩ := Option.map_eq_some_iff.1 (show (s.get x).map VRes.val = some r from h)
    simp [execOp, (get_sound hA hx).1, VRes.den]
  case assign x =>
    obtain ⟨sv, hx, rfl⟩ := Option.map_eq_some_iff.1 (show (s.get x).map VRes.val = some r from h)
    simp [execOp, (get_sound hA hx).1, VRes.den]
  case nilCheck x =>
    simp only [opV] at h
    split at h
    · rename_i o d hx
      cases h
      simp [execOp, (get_sound hA hx).1, VRes.den, SV.den, S1.den, SC.den]
    · cases h
  case fieldAddr T x f =>
    simp only [opV] at h
    split at h
    · rename_i fs o d hu hx
      split at h
      · rename_i fl hf
        split at h
        · rename_i n hz
          split at h
          · cases h
          · rename_i hn
            cases h
            simp [execOp, (get_sound hA hx).1, VRes.den, SV.den, S1.den, SC.den, Instr.fieldAt, run_underlying hu, hf, Instr.sureAddr, fieldPlace, run_szOf hz, hn, addr_add, Nat.add_assoc]
        · cases h
      · cases h
    · cases h
  case indexAddr T x i =>
    simp only [opV] at h
    split at h
    · rename_i k n hi
      split at h
      · rename_i len el o d hu hx
        split at h
        · rename_i z hz
          split at h
          · rename_i hb
            cases h
            simp only [Bool.and_eq_true, decide_eq_true_eq] at hb
            simp [execOp, (get_sound hA hx).1, (get_sound hA hi).1, VRes.den, SV.den, S1.den, SC.den, SI.val, Instr.indexAt, run_underlying hu, asIntOf, Instr.sureAddr, hb.1, hb.2, run_szOf hz, addr_add, Nat.add_assoc]
          · cases h
        · cases h
      · rename_i el o d len cap hu hx
        split at h
        · rename_i z hz
          split at h
          · rename_i hb
            cases h
            simp only [Bool.and_eq_true, decide_eq_true_eq] at hb
            simp [execOp, (get_sound hA hx).1, (get_sound hA hi).1, VRes.den, SV.den, S1.den, SC.den, SI.val, Instr.indexAt, run_underlying hu, asIntOf, hb.1, hb.2, run_szOf hz, addr_add, Nat.add_assoc]
          · cases h
        · cases h
      · cases h
    · cases h
  case load T x =>
    simp only [opV] at h
    split at h
    · rename_i o d hx
      split at h
      · rename_i so hso
        have ho := hM o so hso
        split at h
        · rename_i n ha hz
          split at h
          · rename_i hn
            cases h
            have := run_loadAt (P := P) (w := w) (ρ := ρ) ha hz (by simpa using hn) ho
            simp [execOp, (get_sound hA hx).1, VRes.den, SV.den, S1.den, SC.den, this]
          · cases h
        · rename_i ha
          obtain ⟨c, hc, rfl⟩ := Option.map_eq_some_iff.1 h
          have := ho d c hc
          simp [execOp, (get_sound hA hx).1, VRes.den, SV.den, S1.den, SC.den, Instr.loadAt, Instr.sureAddr, loadVar, run_isAggB ha, this]
        · cases h
      · cases h
    · cases h
  case binOp op T x y yT =>
    have := run_binV hA (show binV P s op T x y = some r from h) w
    simp only [execOp, Sem.run_bind] at this ⊢
    rw [this]
    rfl
  case unOp op T x =>
    cases op
    case not =>
      simp only [opV] at h
      split at h
      · rename_i p hx
        cases h
        simp only [execOp, (get_sound hA hx).1, SV.den, S1.den, SC.den, Op.unary, Sem.run_bind, Sem.run_pure, Result.andThen_ok, VRes.den, Pr.ev, List.map, List.getD_cons_zero, bne_ite]
        simp only [bne, Bool.not_not]
        rfl
      · cases h
    case neg =>
      simp only [opV] at h
      split at h
      · rename_i k p hx
        cases h
        simp [execOp, (get_sound hA hx).1, SV.den, S1.den, SC.den, Op.unary, Op.intArith, VRes.den, Pr.ev, binEv, SI.val]
      · cases h
    case xor =>
      simp only [opV] at h
      split at h
      · rename_i k p hx
        cases h
        simp [execOp, (get_sound hA hx).1, SV.den, S1.den, SC.den, Op.unary, intBits_xor, VRes.den, Pr.ev, binEv, SI.val]
      · cases h
    all_goals simp [opV] at h
  case convert src dst x =>
    simp only [opV] at h
    split at h
    · rename_i k p hx
      split at h
      · rename_i d k' h1 h2
        cases h
        have hi : (P.underlying src).isSome = true := by rw [h1]; rfl
        have hk : P.intKind dst = k' := by simp [Program.intKind, h2]
        have := run_convert_int w src dst k (p.val ρ.e) hi (by rw [hk]; exact h2)
        rw [hk] at this
        simp [execOp, (get_sound hA hx).1, SV.den, S1.den, SC.den, this, VRes.den, Pr.ev]
      · cases h
    · cases h
  case field T x f =>
    simp only [opV] at h
    split at h
    · rename_i fs cs hu hx
      split at h
      · rename_i fl hf
        obtain ⟨sv, hp, rfl⟩ := Option.map_eq_some_iff.1 h
        simp [execOp, (get_sound hA hx).1, SV.den, S1.den, Instr.field, run_underlying hu, hf, asAgg, run_partOf hp ρ w, VRes.den]
      · cases h
    · cases h
  case index T x i =>
    simp only [opV] at h
    split at h
    · rename_i k n hi
      split at h
      · rename_i len el cs hu hx
        split at h
        · rename_i z hz
          split at h
          · rename_i hb
            obtain ⟨sv, hp, rfl⟩ := Option.map_eq_some_iff.1 h
            simp only [Bool.and_eq_true, decide_eq_true_eq] at hb
            simp [execOp, (get_sound hA hx).1, (get_sound hA hi).1, SV.den, S1.den, SC.den, SI.val, Instr.index, asIntOf, run_underlying hu, hb.1, hb.2, run_szOf hz, run_partOf hp ρ w, VRes.den]
          · cases h
        · cases h
      · cases h
    · cases h
  case extract t i =>
    simp only [opV] at h
    split at h
    · rename_i vs hx
      obtain ⟨v, hv, rfl⟩ := Option.map_eq_some_iff.1 h
      simp [execOp, (get_sound hA hx).1, SV.den, Instr.extract, hv, VRes.den]
    · cases h
  case pick c x y =>
    simp only [opV] at h
    split at h
    · rename_i p hc
      have key : ∀ b, known s.asm p = some b → (p.val ρ.e != 0) = b := by
        intro b hb
        cases p with
        | lit n => simpa [known, SI.val] using hb
        | var i =>
          simp only [known] at hb
          obtain ⟨q, hq, rfl⟩ := Option.map_eq_some_iff.1 hb
          have h1 := List.mem_of_find?_eq_some hq
          have h2 := List.find?_some hq
          have h3 := hA.asm q h1
          rw [← h3]
          obtain ⟨qx, qb⟩ := q
          cases qx with
          | lit n => simp [SI.beq] at h2
          | var j =>
            have : j = i := by simpa [SI.beq] using h2
            subst this
            rfl
      split at h
      · rename_i hk
        obtain ⟨sv, hx, rfl⟩ := Option.map_eq_some_iff.1 h
        simp [execOp, (get_sound hA hc).1, SV.den, S1.den, SC.den, asBool, key true hk, (get_sound hA hx).1, VRes.den]
      · rename_i hk
        obtain ⟨sv, hx, rfl⟩ := Option.map_eq_some_iff.1 h
        simp [execOp, (get_sound hA hc).1, SV.den, S1.den, SC.den, asBool, key false hk, (get_sound hA hx).1, VRes.den]
      · cases h
    · cases h
  case slice T x lo hi mx =>
    cases mx with
    | some m => simp [opV] at h
    | none =>
      simp only [opV] at h
      split at h
      · rename_i n el o d l hh hu hx hl hhi
        split at h
        · rename_i z hz
          split at h
          · rename_i hc
            cases h
            simp only [Bool.and_eq_true, decide_eq_true_eq] at hc
            have hb := run_bounds (P := P) (b := false) (len := n) (cap := n) (litOpt_spec hA hl) (litOpt_spec hA hhi) hc.1.1 hc.1.2 hc.2 w
            have hp : a.eval x = .pointer (some ⟨ρ.blk o, ρ.off o + d, none⟩) := (get_sound hA hx).1
            simp only [execOp, hp, Instr.sliceAt, run_underlying hu, Instr.sureAddr, Sem.run_bind, Sem.run_pure, Result.andThen_ok, Option.map_none, hb, run_szOf hz, VRes.den, SV.den, S1.den, SC.den]
            congr 4
            split
            · rfl
            · rw [addr_add, Nat.add_assoc]
          · cases h
        · cases h
      · rename_i el o d len cap l hh hu hx hl hhi
        split at h
        · rename_i z hz
          split at h
          · rename_i hc
            cases h
            simp only [Bool.and_eq_true, decide_eq_true_eq] at hc
            have hb := run_bounds (P := P) (b := true) (len := len) (cap := cap) (litOpt_spec hA hl) (litOpt_spec hA hhi) hc.1.1 hc.1.2 hc.2 w
            have hp : a.eval x = .slice (some ⟨ρ.blk o, ρ.off o + d, none⟩) len cap := (get_sound hA hx).1
            simp only [execOp, hp, Instr.sliceAt, Instr.slice, run_underlying hu, Sem.run_bind, Sem.run_pure, Result.andThen_ok, Option.map_none, hb, run_szOf hz, VRes.den, SV.den, S1.den, SC.den]
            congr 3
            split
            · rfl
            · simp only [Option.map_some]; rw [addr_add, Nat.add_assoc]
          · cases h
        · cases h
      · cases h
  case sliceToArrayPointer T x =>
    simp only [opV] at h
    split at h
    · rename_i n el o d len cap hu hx
      split at h
      · rename_i hn
        cases h
        have hn : n ≤ len := by simpa using hn
        have hp : a.eval x = .slice (some ⟨ρ.blk o, ρ.off o + d, none⟩) len cap := (get_sound hA hx).1
        simp [execOp, hp, Instr.arrayAt, run_underlying hu, Nat.not_lt.2 hn, VRes.den, SV.den, S1.den, SC.den]
      · cases h
    · cases h
  case build T parts =>
    simp only [opV] at h
    split at h
    · rename_i v hv
      split at h
      · rename_i cs hcs
        obtain ⟨inf, hi, hz⟩ := Option.bind_eq_some_iff.1 hv
        have hd := (ofCells_den ρ s.n s.mem.length _ _ hcs).1
        have hcells : v.cells = (cs.map (SC.den ρ)).toArray := by rw [hd]
        have hparts : (parts.map fun (p : Nat × Operand) => (p.1, a.eval p.2)).toList = parts.toList.map fun p => (p.1, a.eval p.2) := by simp
        split at h
        · rename_i fs hu
          split at h
          · rename_i hall
            obtain ⟨l, hl, rfl⟩ := Option.map_eq_some_iff.1 h
            have hf := fill_sound hA (place' := ((fs.toList.map fun f => (f.offset, (szOf P f.type).getD 0)).toArray[·]?)) (fun i q hq => by simpa using hq) _ _ _ hl
            have hm := run_mapM_places (P := P) fs.toList hall w
            have hm' : (fs.mapM fun f => (do pure (f.offset, ← sizeOf f.type) : Sem (Nat × Nat))).run P w = .ok (fs.toList.map fun f => (f.offset, (szOf P f.type).getD 0)).toArray w := by
              rw [Array.mapM_eq_mapM_toList]
              simp only [Sem.run_map, hm, Result.andThen_ok]
            simp only [execOp, Instr.build, zeroValue, typeInfo, hi, hz, Sem.run_bind, run_program, Result.andThen_ok, Sem.run_pure, run_underlying hu, hm', hcells, hparts, hf, VRes.den, SV.den, S1.den]
          · cases h
        · rename_i n el hu
          split at h
          · rename_i z hzz
            obtain ⟨l, hl, rfl⟩ := Option.map_eq_some_iff.1 h
            have hf := fill_sound hA (place' := fun i => some (i * z, z)) (fun i q hq => hq) _ _ _ hl
            simp only [execOp, Instr.build, zeroValue, typeInfo, hi, hz, Sem.run_bind, run_program, Result.andThen_ok, Sem.run_pure, run_underlying hu, run_szOf hzz, hcells, hparts, hf, VRes.den, SV.den, S1.den]
          · cases h
        · cases h
      · cases h
    · cases h
  case call c =>
    obtain ⟨callee, args, ats⟩ := c
    simp only [opV] at h
    split at h
    · rename_i x T h2 h3
      split at h
      · rename_i o d l cap el hx hu
        cases h
        obtain ⟨args⟩ := args
        obtain ⟨ats⟩ := ats
        simp only at h2 h3
        subst h2 h3
        have := run_len_slice (P := P) w T ty (some ⟨ρ.blk o, ρ.off o + d, none⟩) l cap (by simp [Program.elem, hu])
        simp only [execOp, resolve, invoke, builtin, Sem.run_bind, Sem.run_pure, Result.andThen_ok, List.map_toArray, List.map, (get_sound hA hx).1, SV.den, S1.den, SC.den, this, VRes.den, SI.val, goInt]
      · cases h
    · cases h
  all_goals (simp [opV] at h)

end Go.Proofs.Ytfeancgmmonebaa.Sx

/-
  Memory: what may have been written, what the symbolic objects say of it; a block laid, a variable stored into. Conditions: none; each theorem bears its own.
-/
namespace Go.Proofs.Ytfeancgmmonebaa.Sx
open Go

/-! ## 1. The frame: only the places of 'W' may have been written in blocks that were there -/

structure Fr (W : Nat → Nat → Prop) (w0 w : World) : Prop where
  os : w.os = w0.os
  tape : w.tape = w0.tape
  output : w.output = w0.output
  size : w0.heap.size ≤ w.heap.size
  block : ∀ k, k < w0.heap.size → w.heap[k]? = w0.heap[k]? ∨
    ∃ c c' e fz, w0.heap[k]? = some (.cells c e fz) ∧ w.heap[k]? = some (.cells c' e fz) ∧ c'.size = c.size ∧ ∀ j, ¬ W k j → c'[j]? = c[j]?

theorem Fr.refl (W : Nat → Nat → Prop) (w : World) : Fr W w w := ⟨rfl, rfl, rfl, Nat.le_refl _, fun _ _ => .inl rfl⟩

theorem Fr.trans {W W' : Nat → Nat → Prop} {a b c : World} (h : Fr W a b) (h' : Fr W' b c) (hw : ∀ k j, k < a.heap.size → W' k j → W k j) : Fr W a c := by
  refine ⟨h'.os.trans h.os, h'.tape.trans h.tape, h'.output.trans h.output, Nat.le_trans h.size h'.size, fun k hk => ?_⟩
  rcases h.block k hk with h1 | ⟨x, x', e, fz, h1, h2, h3, h4⟩ <;> rcases h'.block k (Nat.lt_of_lt_of_le hk h.size) with g1 | ⟨y, y', e', fz', g1, g2, g3, g4⟩
  · exact .inl (g1.trans h1)
  · exact .inr ⟨y, y', e', fz', h1 ▸ g1, g2, g3, fun j hj => g4 j fun hq => hj (hw k j hk hq)⟩
  · exact .inr ⟨x, x', e, fz, h1, g1.trans h2, h3, h4⟩
  · rw [h2] at g1
    cases g1
    exact .inr ⟨x, y', e, fz, h1, g2, g3.trans h3, fun j hj => (g4 j fun hq => hj (hw k j hk hq)).trans (h4 j hj)⟩

theorem Fr.mono {W W' : Nat → Nat → Prop} {a b : World} (h : Fr W a b) (hw : ∀ k j, k < a.heap.size → W k j → W' k j) : Fr W' a b :=
  ⟨h.os, h.tape, h.output, h.size, fun k hk => by
    rcases h.block k hk with h1 | ⟨x, x', e, fz, h1, h2, h3, h4⟩
    · exact .inl h1
    · exact .inr ⟨x, x', e, fz, h1, h2, h3, fun j hj => h4 j fun hq => hj (hw k j hk hq)⟩⟩

theorem Fr.drew {W : Nat → Nat → Prop} {a w : World} (h : Fr W a w) : Fr W a { w with drawn := w.drawn + 1 } := ⟨h.os, h.tape, h.output, h.size, h.block⟩

theorem Fr.cell {W : Nat → Nat → Prop} {w0 w : World} (h : Fr W w0 w) {k j : Nat} (hk : k < w0.heap.size) (hj : ¬ W k j) : w.cell? ⟨k, j, none⟩ = w0.cell? ⟨k, j, none⟩ := by
  rcases h.block k hk with h1 | ⟨x, x', e, fz, h1, h2, h3, h4⟩
  · simp [World.cell?, h1]
  · simp [World.cell?, h1, h2, h4 j hj]

theorem Fr.frozen {W : Nat → Nat → Prop} {w0 w : World} (h : Fr W w0 w) {k j : Nat} (hk : k < w0.heap.size) : w.frozen? ⟨k, j, none⟩ = w0.frozen? ⟨k, j, none⟩ := by
  rcases h.block k hk with h1 | ⟨x, x', e, fz, h1, h2, h3, h4⟩
  · simp [World.frozen?, h1]
  · simp [World.frozen?, h1, h2]

theorem Fr.below {W : Nat → Nat → Prop} {w0 w : World} (h : Fr W w0 w) {B : Nat} (hB : B ≤ w0.heap.size) (hw : ∀ k j, k < B → ¬ W k j) : Go.RowKit.Below B w0 w := by
  refine ⟨h.os, h.tape, h.output, h.size, fun k hk => ?_⟩
  rcases h.block k (by omega) with h1 | ⟨x, x', e, fz, h1, h2, h3, h4⟩
  · exact h1
  · rw [h1, h2]
    have : x' = x := by
      apply Array.ext_getElem?
      intro j
      exact h4 j (hw k j hk)
    rw [this]

theorem Fr.alloc {W : Nat → Nat → Prop} {w0 w : World} (h : Fr W w0 w) (o : Obj) : Fr W w0 (w.alloc o) := by
  refine Fr.trans (W' := fun _ _ => False) h ⟨rfl, rfl, rfl, by simp, fun k hk => .inl ?_⟩ (fun _ _ _ hf => hf.elim)
  exact Go.heap_alloc_old w o hk

theorem Fr.setCell {W : Nat → Nat → Prop} {w0 w : World} (h : Fr W w0 w) {k j : Nat} (v : Value) (hw : k < w0.heap.size → W k j) : Fr W w0 (w.setCell ⟨k, j, none⟩ v) := by
  refine Fr.trans (W' := fun k' j' => k' = k ∧ j' = j) h ⟨rfl, rfl, rfl, by simp [World.setCell], fun k' hk' => ?_⟩ (fun k' j' hk' hq => by obtain ⟨rfl, rfl⟩ := hq; exact hw hk')
  by_cases hkk : k' = k
  · subst hkk
    cases hc : w.heap[k']? with
    | none => exact .inl (by simp [World.setCell, Array.getElem?_modify, hc])
    | some o =>
      cases o with
      | cells c e fz =>
        refine .inr ⟨c, c.setIfInBounds j v, e, fz, rfl, by simp [World.setCell, Array.getElem?_modify, hc], by simp, fun j' hj' => ?_⟩
        simp only [Array.getElem?_setIfInBounds]
        have : ¬ j = j' := fun e => hj' ⟨rfl, e.symm⟩
        simp [this]
      | _ => exact .inl (by simp [World.setCell, Array.getElem?_modify, hc])
  · exact .inl (by simp only [World.setCell, Array.getElem?_modify]; rw [if_neg (fun e => hkk e.symm)])

/-! ## 2. Symbolic memory -/

def Dis (ρ : En) (mem : List SO) : Prop :=
  ∀ (o o' : Nat) (so so' : SO), o ≠ o' → mem[o]? = some so → mem[o']? = some so' → so.w = true →
    ρ.blk o ≠ ρ.blk o' ∨ ρ.off o + so.cells.length ≤ ρ.off o' ∨ ρ.off o' + so'.cells.length ≤ ρ.off o

structure RelM (W : Nat → Nat → Prop) (w0 : World) (O : List (Nat × Nat)) (ρ : En) (s : St) (w : World) : Prop where
  objs : ObjsOk w ρ s
  ok : ∀ (o : Nat) (so : SO), s.mem[o]? = some so → so.cells.all (SC.ok s.n s.mem.length) = true
  dis : Dis ρ s.mem
  own : ∀ (o : Nat) (so : SO), s.mem[o]? = some so → so.w = true → w0.heap.size ≤ ρ.blk o ∨ ∀ j, j < so.cells.length → W (ρ.blk o) (ρ.off o + j)
  fr : Fr W w0 w
  pre : ∃ p, ρ.o = O ++ p

theorem mem_lt {mem : List SO} {o : Nat} {so : SO} (h : mem[o]? = some so) : o < mem.length := by
  rcases Nat.lt_or_ge o mem.length with h' | h'
  · exact h'
  · rw [List.getElem?_eq_none h'] at h; cases h

/-- More numbers change nothing of memory. -/
theorem RelM.grow {W : Nat → Nat → Prop} {w0 : World} {O : List (Nat × Nat)} {ρ : En} {s s' : St} {w : World} (h : RelM W w0 O ρ s w) (l : List Int) (hm : s'.mem = s.mem) (hn : s.n ≤ s'.n)
    (len : ρ.e.length = s.n) (lenO : ρ.o.length = s.mem.length) : RelM W w0 O ⟨ρ.e ++ l, ρ.o⟩ s' w := by
  refine ⟨?_, ?_, ?_, ?_, h.fr, h.pre⟩
  · intro o so ho
    rw [hm] at ho
    have g := h.objs o so ho
    refine ⟨g.blk, fun j c hc => ?_, g.thaw⟩
    have := g.cell j c hc
    have ok := List.all_eq_true.1 (h.ok o so ho) c (List.mem_of_getElem? hc)
    have e := SC.den_ext (l := l) (p := []) (e := ρ.e) (o := ρ.o) (c := c) (by rw [len, lenO]; exact ok)
    rw [List.append_nil] at e
    rw [e]; exact this
  · intro o so ho
    rw [hm] at ho ⊢
    exact cells_mono (h.ok o so ho) hn (Nat.le_refl _)
  · rw [hm]; exact h.dis
  · intro o so ho
    rw [hm] at ho
    exact h.own o so ho

theorem RelM.drew {W : Nat → Nat → Prop} {w0 : World} {O : List (Nat × Nat)} {ρ : En} {s : St} {w : World} (h : RelM W w0 O ρ s w) : RelM W w0 O ρ s { w with drawn := w.drawn + 1 } :=
  ⟨fun o so ho => let g := h.objs o so ho; ⟨g.blk, g.cell, g.thaw⟩, h.ok, h.dis, h.own, h.fr.drew, h.pre⟩

/-! ## 3. A slot is written -/

def St.put (s : St) (dst : Option Tmp) (sv : SV) : Option St :=
  match dst with
  | none => some s
  | some d => if Nat.blt d s.nt then some { s with tm := Tr.set 20 s.tm d (some sv) } else none

theorem RelA.put {Γ : List Entry} {base : List Int} {ρ : En} {s s' : St} {a : Act} (hA : RelA Γ base ρ s a) {dst : Option Tmp} {sv : SV} (hok : sv.ok s.n s.mem.length = true)
    (h : s.put dst sv = some s') : RelA Γ base ρ s' (a.put dst (sv.den ρ)) ∧ s'.mem = s.mem ∧ s'.n = s.n ∧ s'.asm = s.asm ∧ s'.defs = s.defs := by
  cases dst with
  | none => cases h; exact ⟨hA, rfl, rfl, rfl, rfl⟩
  | some d =>
    simp only [St.put] at h
    split at h
    · rename_i hd
      cases h
      have hd : d < s.nt := by simpa using hd
      refine ⟨⟨hA.env, hA.len, hA.lenO, by simp [Act.put, hA.size], hA.dfr, ?_, hA.asm, hA.asmok⟩, rfl, rfl, rfl, rfl⟩
      intro t v ht
      rcases Tr.get_set _ _ _ _ _ _ ht with ⟨rfl, e⟩ | ⟨hne, ht⟩
      · cases e
        exact ⟨hok, by simp [Act.put, hA.size, hd]⟩
      · have := hA.tm t v ht
        refine ⟨this.1, ?_⟩
        simp only [Act.put, Array.getElem?_setIfInBounds]
        rw [if_neg (fun e => hne e.symm)]
        exact this.2
    · cases h

/-! ## 4. Writing cells -/

theorem over_length : ∀ (d : Nat) (l cs : List SC), (over d l cs).length = l.length
  | 0, l, [] => by cases l <;> simp [over]
  | d + 1, l, [] => by cases l <;> simp [over]
  | 0, [], c :: cs => by simp [over]
  | d + 1, [], c :: cs => by simp [over]
  | 0, x :: l, c :: cs => by simp [over, over_length 0 l cs]
  | d + 1, x :: l, c :: cs => by simp [over, over_length d l (c :: cs)]

theorem over_get : ∀ (d : Nat) (l cs : List SC) (j : Nat) (c : SC), (over d l cs)[j]? = some c → (d ≤ j ∧ cs[j - d]? = some c) ∨ (l[j]? = some c ∧ ¬ (d ≤ j ∧ j < d + cs.length))
  | 0, [], [], j, c, h => .inr ⟨h, by simp⟩
  | 0, _ :: _, [], j, c, h => .inr ⟨h, by simp⟩
  | d + 1, [], [], j, c, h => .inr ⟨h, by simp⟩
  | d + 1, _ :: _, [], j, c, h => .inr ⟨h, by simp⟩
  | 0, [], x :: cs, j, c, h => by simp [over] at h
  | d + 1, [], x :: cs, j, c, h => by simp [over] at h
  | 0, y :: l, x :: cs, 0, c, h => by
    simp [over] at h
    exact .inl ⟨Nat.le_refl _, by simpa using h⟩
  | 0, y :: l, x :: cs, j + 1, c, h => by
    simp only [over, List.getElem?_cons_succ] at h
    rcases over_get 0 l cs j c h with ⟨_, h1⟩ | ⟨h1, h2⟩
    · exact .inl ⟨by omega, by simpa using h1⟩
    · exact .inr ⟨by simpa using h1, by simp at h2 ⊢; omega⟩
  | d + 1, y :: l, x :: cs, 0, c, h => by
    simp only [over, List.getElem?_cons_zero] at h
    exact .inr ⟨by simpa using h, by omega⟩
  | d + 1, y :: l, x :: cs, j + 1, c, h => by
    simp only [over, List.getElem?_cons_succ] at h
    rcases over_get d l (x :: cs) j c h with ⟨h1, h2⟩ | ⟨h1, h2⟩
    · exact .inl ⟨by omega, by rw [show j + 1 - (d + 1) = j - d by omega]; exact h2⟩
    · exact .inr ⟨by simpa using h1, by omega⟩

structure Wr where
  o : Nat
  d : Nat
  cs : List SC

def writeOne (mem : List SO) (x : Wr) : List SO :=
  match mem[x.o]? with
  | some so => mem.set x.o { so with cells := over x.d so.cells x.cs }
  | none => mem

def writes (mem : List SO) (ws : List Wr) : List SO := ws.foldl writeOne mem

theorem writeOne_spec (mem : List SO) (x : Wr) :
    (writeOne mem x).length = mem.length ∧ ∀ (o : Nat) (so : SO), (writeOne mem x)[o]? = some so → ∃ so0, mem[o]? = some so0 ∧ so.w = so0.w ∧ so.cells.length = so0.cells.length ∧
      ∀ (j : Nat) (c : SC), so.cells[j]? = some c → (x.o = o ∧ x.d ≤ j ∧ x.cs[j - x.d]? = some c) ∨ (so0.cells[j]? = some c ∧ ¬ (x.o = o ∧ x.d ≤ j ∧ j < x.d + x.cs.length)) := by
  unfold writeOne
  split
  · rename_i so1 h1
    refine ⟨by simp, fun o so h => ?_⟩
    rw [List.getElem?_set] at h
    by_cases ho : x.o = o
    · subst ho
      have hl := mem_lt h1
      simp only [if_true, hl] at h
      cases h
      refine ⟨so1, h1, rfl, over_length _ _ _, fun j c hc => ?_⟩
      rcases over_get _ _ _ _ _ hc with ⟨a, b⟩ | ⟨a, b⟩
      · exact .inl ⟨rfl, a, b⟩
      · exact .inr ⟨a, fun q => b q.2⟩
    · rw [if_neg ho] at h
      exact ⟨so, h, rfl, rfl, fun j c hc => .inr ⟨hc, fun q => ho q.1⟩⟩
  · rename_i h1
    refine ⟨rfl, fun o so h => ⟨so, h, rfl, rfl, fun j c hc => .inr ⟨hc, ?_⟩⟩⟩
    rintro ⟨rfl, _⟩
    rw [h] at h1
    cases h1

theorem writes_spec : ∀ (ws : List Wr) (mem : List SO),
    (writes mem ws).length = mem.length ∧ ∀ (o : Nat) (so : SO), (writes mem ws)[o]? = some so → ∃ so0, mem[o]? = some so0 ∧ so.w = so0.w ∧ so.cells.length = so0.cells.length ∧
      ∀ (j : Nat) (c : SC), so.cells[j]? = some c → (∃ x ∈ ws, x.o = o ∧ x.d ≤ j ∧ x.cs[j - x.d]? = some c) ∨ (so0.cells[j]? = some c ∧ ∀ x ∈ ws, ¬ (x.o = o ∧ x.d ≤ j ∧ j < x.d + x.cs.length))
  | [], mem => ⟨rfl, fun o so h => ⟨so, h, rfl, rfl, fun j c hc => .inr ⟨hc, by simp⟩⟩⟩
  | x :: ws, mem => by
    obtain ⟨l1, h1⟩ := writeOne_spec mem x
    obtain ⟨l2, h2⟩ := writes_spec ws (writeOne mem x)
    refine ⟨l2.trans l1, fun o so h => ?_⟩
    obtain ⟨so1, g1, g2, g3, g4⟩ := h2 o so h
    obtain ⟨so0, k1, k2, k3, k4⟩ := h1 o so1 g1
    refine ⟨so0, k1, g2.trans k2, g3.trans k3, fun j c hc => ?_⟩
    rcases g4 j c hc with ⟨y, hy, q⟩ | ⟨q1, q2⟩
    · exact .inl ⟨y, by simp [hy], q⟩
    · rcases k4 j c q1 with q | ⟨r1, r2⟩
      · exact .inl ⟨x, by simp, q⟩
      · refine .inr ⟨r1, fun y hy => ?_⟩
        rcases List.mem_cons.1 hy with rfl | hy
        · exact r2
        · exact q2 y hy

theorem writes_get {ws : List Wr} {mem : List SO} {o : Nat} {so0 : SO} (h : mem[o]? = some so0) : ∃ so, (writes mem ws)[o]? = some so := by
  have hl := mem_lt h
  have : o < (writes mem ws).length := by rw [(writes_spec ws mem).1]; exact hl
  exact ⟨_, List.getElem?_eq_getElem this⟩

end Go.Proofs.Ytfeancgmmonebaa.Sx

/-
  Operations that make memory or store into it, symbolically. Conditions: none; each theorem bears its own.
-/
namespace Go.Proofs.Ytfeancgmmonebaa.Sx
open Go

theorem S1.den_cells {v : S1} {n m : Nat} (h : v.ok n m = true) (ρ : En) : (v.den ρ).cells = (v.cells.map (SC.den ρ)).toArray := by
  cases v with
  | sc c =>
    have : ∀ cs, c.den ρ ≠ .agg cs := by
      intro cs hc
      cases c with
      | cv v => simp only [SC.den] at hc; subst hc; simp [S1.ok, SC.ok, Value.oneCell'] at h
      | int k x => cases hc
      | bool x => cases hc
      | ptr i d => cases hc
      | slice i d l c => cases hc
    simp only [S1.den, S1.cells]
    cases hc : c.den ρ with
    | agg cs => exact (this cs hc).elim
    | _ => simp [Value.cells, hc]
  | agg cs => rfl

theorem S1.cells_ok {v : S1} {n m : Nat} (h : v.ok n m = true) : v.cells.all (SC.ok n m) = true := by
  cases v with
  | sc c => simp only [S1.cells, List.all_cons, List.all_nil, Bool.and_true]; exact h
  | agg cs => exact h

theorem SC.den_one {c : SC} {n m : Nat} (h : c.ok n m = true) (ρ : En) : (c.den ρ).oneCell' = true := by
  cases c with
  | cv v => exact h
  | _ => rfl

def newObj (s : St) (cs : List SC) : Option (St × SV) :=
  if cs.all (SC.ok s.n s.mem.length) then some ({ s with mem := s.mem ++ [⟨cs, true⟩] }, .one (.sc (.ptr s.mem.length 0))) else none

def opM (P : Program) (s : St) (op : Op) : Option (St × SV) :=
  match op with
  | .alloc T =>
    match (P.info? T).bind (·.zero) with
    | some v => match ofCells v.cells.toList with
      | some cs => newObj s cs
      | none => none
    | none => none
  | .box _ x =>
    match s.get x with
    | some (.one v) => newObj s v.cells
    | _ => none
  | .store T a x =>
    match s.get a, s.get x with
    | some (.one (.sc (.ptr o d))), some (.one v) =>
      match szOf P T, s.mem[o]? with
      | some n, some so =>
        if so.w && decide (v.cells.length = n) && decide (d + n ≤ so.cells.length) then some ({ s with mem := writes s.mem [⟨o, d, v.cells⟩] }, .tup []) else none
      | _, _ => none
    | _, _ => none
  | _ => none

theorem RelA.objs {Γ : List Entry} {base : List Int} {ρ : En} {s : St} {a : Act} (hA : RelA Γ base ρ s a) (mem : List SO) (p : List (Nat × Nat)) (hl : mem.length = s.mem.length + p.length) :
    RelA Γ base ⟨ρ.e, ρ.o ++ p⟩ { s with mem := mem } a := by
  refine ⟨hA.env, hA.len, by simp [hA.lenO, hl], hA.size, hA.dfr, ?_, hA.asm, hA.asmok⟩
  intro t sv ht
  have := hA.tm t sv ht
  refine ⟨SV.ok_mono this.1 (Nat.le_refl _) (by show s.mem.length ≤ mem.length; omega), ?_⟩
  have e := SV.den_ext (l := []) (p := p) (e := ρ.e) (o := ρ.o) (v := sv) (by rw [hA.len, hA.lenO]; exact this.1)
  rw [List.append_nil] at e
  rw [e]; exact this.2

theorem En.blk_new (e : List Int) (o : List (Nat × Nat)) (b d : Nat) : En.blk ⟨e, o ++ [(b, d)]⟩ o.length = b := by simp [En.blk, List.getD]
theorem En.off_new (e : List Int) (o : List (Nat × Nat)) (b d : Nat) : En.off ⟨e, o ++ [(b, d)]⟩ o.length = d := by simp [En.off, List.getD]

theorem RelM.newObj {W : Nat → Nat → Prop} {w0 : World} {O : List (Nat × Nat)} {ρ : En} {s : St} {w : World} (h : RelM W w0 O ρ s w) (len : ρ.e.length = s.n) (lenO : ρ.o.length = s.mem.length) {cs : List SC}
    (hok : cs.all (SC.ok s.n s.mem.length) = true) (T : TypeId) :
    RelM W w0 O ⟨ρ.e, ρ.o ++ [(w.heap.size, 0)]⟩ { s with mem := s.mem ++ [⟨cs, true⟩] } (w.alloc (.cells (cs.map (SC.den ρ)).toArray T)) := by
  have old : ∀ (o : Nat) (so : SO), s.mem[o]? = some so → En.blk ⟨ρ.e, ρ.o ++ [(w.heap.size, 0)]⟩ o = ρ.blk o ∧ En.off ⟨ρ.e, ρ.o ++ [(w.heap.size, 0)]⟩ o = ρ.off o := fun o so ho =>
    ⟨En.blk_ext ρ.e _ ρ.o _ o (by rw [lenO]; exact mem_lt ho), En.off_ext ρ.e _ ρ.o _ o (by rw [lenO]; exact mem_lt ho)⟩
  have ext : ∀ {c : SC}, c.ok s.n s.mem.length = true → c.den ⟨ρ.e, ρ.o ++ [(w.heap.size, 0)]⟩ = c.den ρ := fun {c} hc => by
    have e := SC.den_ext (l := []) (p := [(w.heap.size, 0)]) (e := ρ.e) (o := ρ.o) (c := c) (by rw [len, lenO]; exact hc)
    rwa [List.append_nil] at e
  have split : ∀ (o : Nat) (so : SO), (s.mem ++ [(⟨cs, true⟩ : SO)])[o]? = some so → s.mem[o]? = some so ∨ (o = s.mem.length ∧ so = ⟨cs, true⟩) := fun o so ho => by
    rcases Nat.lt_or_ge o s.mem.length with hl | hl
    · rw [List.getElem?_append_left hl] at ho; exact .inl ho
    · rw [List.getElem?_append_right hl] at ho
      have : o - s.mem.length < 1 := by
        rcases Nat.lt_or_ge (o - s.mem.length) 1 with h1 | h1
        · exact h1
        · rw [List.getElem?_eq_none (by simpa using h1)] at ho; cases ho
      have h0 : o = s.mem.length := by omega
      subst h0
      simp at ho
      exact .inr ⟨rfl, ho.symm⟩
  have nb : En.blk ⟨ρ.e, ρ.o ++ [(w.heap.size, 0)]⟩ s.mem.length = w.heap.size := by rw [← lenO]; exact En.blk_new _ _ _ _
  have no : En.off ⟨ρ.e, ρ.o ++ [(w.heap.size, 0)]⟩ s.mem.length = 0 := by rw [← lenO]; exact En.off_new _ _ _ _
  refine ⟨?_, ?_, ?_, ?_, h.fr.alloc _, ?_⟩
  · intro o so ho
    rcases split o so ho with ho | ⟨rfl, rfl⟩
    · have g := h.objs o so ho
      obtain ⟨e1, e2⟩ := old o so ho
      refine ⟨by rw [e1]; have := g.blk; simp; omega, fun j c hc => ?_, fun hw j hj => ?_⟩
      · rw [e1, e2, World.cell?_alloc_lt _ _ _ g.blk, ext (List.all_eq_true.1 (h.ok o so ho) c (List.mem_of_getElem? hc))]
        exact g.cell j c hc
      · rw [e1, e2, World.frozen?_alloc_old _ _ _ (by have := g.blk; simp; omega)]
        exact g.thaw hw j hj
    · refine ⟨by rw [nb]; simp, fun j c hc => ?_, fun hw j hj => ?_⟩
      · rw [nb, no, Nat.zero_add, World.cell?_alloc_new, ext (List.all_eq_true.1 hok c (List.mem_of_getElem? hc))]
        simp only at hc
        simp [hc]
      · rw [nb, no, Nat.zero_add]; exact World.frozen?_alloc_new _ _ _ _
  · intro o so ho
    show so.cells.all (SC.ok s.n (s.mem ++ [(⟨cs, true⟩ : SO)]).length) = true
    rcases split o so ho with ho | ⟨rfl, rfl⟩
    · exact cells_mono (h.ok o so ho) (Nat.le_refl _) (by simp)
    · exact cells_mono hok (Nat.le_refl _) (by simp)
  · intro o o' so so' hne ho ho' hw
    rcases split o so ho with ho | ⟨rfl, rfl⟩ <;> rcases split o' so' ho' with ho' | ⟨rfl, rfl⟩
    · rw [(old o so ho).1, (old o so ho).2, (old o' so' ho').1, (old o' so' ho').2]
      exact h.dis o o' so so' hne ho ho' hw
    · left; rw [(old o so ho).1, nb]; have := (h.objs o so ho).blk; omega
    · left; rw [(old o' so' ho').1, nb]; have := (h.objs o' so' ho').blk; omega
    · exact (hne rfl).elim
  · intro o so ho hw
    rcases split o so ho with ho | ⟨rfl, rfl⟩
    · rw [(old o so ho).1, (old o so ho).2]; exact h.own o so ho hw
    · left; rw [nb]; exact h.fr.size
  · obtain ⟨p, hp⟩ := h.pre
    exact ⟨p ++ [(w.heap.size, 0)], by simp [hp]⟩

theorem cells_out (b : Nat) : ∀ (vs : List Value) (o : Nat) (w : World) (x : Addr), (x.block ≠ b ∨ x.off < o ∨ o + vs.length ≤ x.off) → (w.setCells b o vs).cell? x = w.cell? x
  | [], _, _, _, _ => rfl
  | v :: r, o, w, x, h => by
    simp only [List.length_cons] at h
    rw [World.setCells, cells_out b r (o + 1) _ x (by omega), World.cell?_setCell_other]
    intro e
    subst e
    simp at h
    omega

theorem heap_setCells (b : Nat) : ∀ (vs : List Value) (o : Nat) (w : World), (w.setCells b o vs).heap.size = w.heap.size
  | [], _, _ => rfl
  | v :: r, o, w => by rw [World.setCells, heap_setCells b r]; simp [World.setCell]

theorem Fr.setCells {W : Nat → Nat → Prop} {w0 : World} (b : Nat) : ∀ (vs : List Value) (o : Nat) (w : World), Fr W w0 w → (b < w0.heap.size → ∀ j, j < vs.length → W b (o + j)) → Fr W w0 (w.setCells b o vs)
  | [], _, _, h, _ => h
  | v :: r, o, w, h, hw => by
    rw [World.setCells]
    refine Fr.setCells b r (o + 1) _ (h.setCell v fun hb => by simpa using hw hb 0 (by simp)) fun hb j hj => ?_
    have := hw hb (j + 1) (by simp; omega)
    rwa [show o + 1 + j = o + (j + 1) by omega]

/-- Cells of a writable object are written. -/
theorem RelM.write {W : Nat → Nat → Prop} {w0 : World} {O : List (Nat × Nat)} {ρ : En} {s : St} {w : World} (h : RelM W w0 O ρ s w) {o d : Nat} {so : SO} {cs : List SC} (ho : s.mem[o]? = some so) (hw : so.w = true)
    (hn : d + cs.length ≤ so.cells.length) (hok : cs.all (SC.ok s.n s.mem.length) = true) :
    RelM W w0 O ρ { s with mem := writes s.mem [⟨o, d, cs⟩] } (w.setCells (ρ.blk o) (ρ.off o + d) (cs.map (SC.den ρ))) ∧
      ∀ (P : Program), (storeCells ⟨ρ.blk o, ρ.off o + d, none⟩ (cs.map (SC.den ρ))).run P w = .ok () (w.setCells (ρ.blk o) (ρ.off o + d) (cs.map (SC.den ρ))) := by
  have g := h.objs o so ho
  have isc : ∀ j, j < cs.length → (w.cell? ⟨ρ.blk o, ρ.off o + d + j, none⟩).isSome = true := fun j hj => by
    have hj' : d + j < so.cells.length := by omega
    have := g.cell (d + j) _ (List.getElem?_eq_getElem hj')
    rw [Nat.add_assoc, this]; rfl
  have run : ∀ (P : Program), (storeCells ⟨ρ.blk o, ρ.off o + d, none⟩ (cs.map (SC.den ρ))).run P w = .ok () (w.setCells (ρ.blk o) (ρ.off o + d) (cs.map (SC.den ρ))) := fun P => by
    have := run_storeCells_cells (P := P) (ρ.blk o) (ρ.off o + d) (cs.map (SC.den ρ)) 0 w (by simpa using isc) (by
      intro j hj
      have := g.thaw hw (d + j) (by simp at hj; omega)
      rwa [show ρ.off o + d + 0 + j = ρ.off o + (d + j) by omega]) (by
      intro v hv
      obtain ⟨c, hc, rfl⟩ := List.mem_map.1 hv
      exact SC.den_one (List.all_eq_true.1 hok c hc) ρ)
    simpa using this
  refine ⟨?_, run⟩
  obtain ⟨wl, wspec⟩ := writes_spec [⟨o, d, cs⟩] s.mem
  refine ⟨?_, ?_, ?_, ?_, ?_, h.pre⟩
  · intro o' so' ho'
    obtain ⟨so0, h0, e1, e2, e3⟩ := wspec o' so' ho'
    have g0 := h.objs o' so0 h0
    refine ⟨by rw [heap_setCells]; exact g0.blk, fun j c hc => ?_, fun hw' j hj => ?_⟩
    · rcases e3 j c hc with ⟨x, hx, hxo, hxd, hxc⟩ | ⟨hc0, hno⟩
      · simp at hx; subst hx
        simp only at hxo hxd hxc
        subst hxo
        have hjl : j - d < cs.length := (List.getElem?_eq_some_iff.1 hxc).1
        have := World.cell?_setCells_in (ρ.blk o) (cs.map (SC.den ρ)) (ρ.off o + d) w (by
          intro i hi
          exact isc i (by simpa using hi)) (j - d) (by simpa using hjl)
        rw [show ρ.off o + d + (j - d) = ρ.off o + j by omega] at this
        rw [this, List.getElem_map, (List.getElem?_eq_some_iff.1 hxc).2]
      · have hno := hno ⟨o, d, cs⟩ (by simp)
        simp only at hno
        rw [cells_out]
        · exact g0.cell j c hc0
        · simp only [List.length_map]
          by_cases hoo : o = o'
          · subst hoo
            right; omega
          · have hj0 : j < so0.cells.length := (List.getElem?_eq_some_iff.1 hc0).1
            rcases h.dis o o' so so0 hoo ho h0 hw with q | q | q
            · left; exact fun e => q e.symm
            · right; omega
            · right; omega
    · rw [World.frozen?_setCells]
      exact g0.thaw (by rw [← e1]; exact hw') j (by omega)
  · intro o' so' ho'
    obtain ⟨so0, h0, e1, e2, e3⟩ := wspec o' so' ho'
    show so'.cells.all (SC.ok s.n (writes s.mem [⟨o, d, cs⟩]).length) = true
    rw [wl]
    refine List.all_eq_true.2 fun c hc => ?_
    obtain ⟨j, hj⟩ := List.getElem?_of_mem hc
    rcases e3 j c hj with ⟨x, hx, _, _, hxc⟩ | ⟨hc0, _⟩
    · simp at hx; subst hx
      exact List.all_eq_true.1 hok c (List.mem_of_getElem? hxc)
    · exact List.all_eq_true.1 (h.ok o' so0 h0) c (List.mem_of_getElem? hc0)
  · intro p p' sp sp' hne hp hp' hpw
    obtain ⟨q, h0, e1, e2, _⟩ := wspec p sp hp
    obtain ⟨q', h0', e1', e2', _⟩ := wspec p' sp' hp'
    rw [e2, e2']
    exact h.dis p p' q q' hne h0 h0' (by rw [← e1]; exact hpw)
  · intro p sp hp hpw
    obtain ⟨q, h0, e1, e2, _⟩ := wspec p sp hp
    rw [e2]
    exact h.own p q h0 (by rw [← e1]; exact hpw)
  · refine Fr.setCells _ _ _ _ h.fr fun hb j hj => ?_
    rcases h.own o so ho hw with q | q
    · omega
    · have := q (d + j) (by simp at hj; omega)
      rwa [show ρ.off o + d + j = ρ.off o + (d + j) by omega]

theorem opM_sound {P : Program} {Γ : List Entry} {base : List Int} {W : Nat → Nat → Prop} {w0 : World} {O : List (Nat × Nat)} {ρ : En} {s s' : St} {a : Act} {w : World} {sv : SV} (hA : RelA Γ base ρ s a) (hM : RelM W w0 O ρ s w) (o : Oper)
    (h : opM P s o.op = some (s', sv)) :
    ∃ p w' nx, RelA Γ base ⟨ρ.e, ρ.o ++ p⟩ s' a ∧ RelM W w0 O ⟨ρ.e, ρ.o ++ p⟩ s' w' ∧ sv.ok s'.n s'.mem.length = true ∧ s'.n = s.n ∧ s'.nt = s.nt ∧ s'.asm = s.asm ∧ s'.defs = s.defs ∧ (execOp a.eval o).run P w = .ok nx w' ∧
      (nx = .value (sv.den ⟨ρ.e, ρ.o ++ p⟩) ∨ (nx = .skip ∧ sv.den ⟨ρ.e, ρ.o ++ p⟩ = undef)) := by
  have fresh : ∀ {cs : List SC} (T : TypeId), newObj s cs = some (s', sv) →
      RelA Γ base ⟨ρ.e, ρ.o ++ [(w.heap.size, 0)]⟩ s' a ∧ RelM W w0 O ⟨ρ.e, ρ.o ++ [(w.heap.size, 0)]⟩ s' (w.alloc (.cells (cs.map (SC.den ρ)).toArray T)) ∧ sv.ok s'.n s'.mem.length = true ∧ s'.n = s.n ∧ s'.nt = s.nt ∧ s'.asm = s.asm ∧ s'.defs = s.defs ∧
        sv.den ⟨ρ.e, ρ.o ++ [(w.heap.size, 0)]⟩ = .pointer (some ⟨w.heap.size, 0, none⟩) := by
    intro cs T h
    unfold newObj at h
    split at h
    · rename_i hok
      cases h
      refine ⟨hA.objs _ _ (by simp), hM.newObj hA.len hA.lenO hok T, by simp [SV.ok, S1.ok, SC.ok], rfl, rfl, rfl, rfl, ?_⟩
      simp only [SV.den, S1.den, SC.den]
      rw [← hA.lenO, En.blk_new, En.off_new]
    · cases h
  obtain ⟨dst, op, ty, pos, after, guard⟩ := o
  simp only at h
  cases op
  case alloc T =>
    simp only [opM] at h
    split at h
    · rename_i v hv
      split at h
      · rename_i cs hcs
        obtain ⟨i, hi, hz⟩ := Option.bind_eq_some_iff.1 hv
        obtain ⟨q1, q2, q3, q4, q5, q6, q7, q8⟩ := fresh T h
        have hd := (ofCells_den ρ s.n s.mem.length _ _ hcs).1
        refine ⟨_, _, _, q1, q2, q3, q4, q5, q6, q7, ?_, .inl rfl⟩
        have hq : (cs.map (SC.den ρ)).toArray = v.cells := by rw [hd]
        simp [execOp, Instr.alloc, zeroValue, typeInfo, hi, hz, newVar, newRow, q8, hq]
      · cases h
    · cases h
  case box T x =>
    simp only [opM] at h
    split at h
    · rename_i v hx
      obtain ⟨q1, q2, q3, q4, q5, q6, q7, q8⟩ := fresh T h
      refine ⟨_, _, _, q1, q2, q3, q4, q5, q6, q7, ?_, .inl rfl⟩
      have hg := get_sound hA hx
      have hg1 : a.eval x = v.den ρ := hg.1
      have hq : (v.den ρ).cells = (v.cells.map (SC.den ρ)).toArray := S1.den_cells (v := v) hg.2 ρ
      simp [execOp, hg1, Instr.box, newVar, newRow, q8, hq]
    · cases h
  case store T x y =>
    simp only [opM] at h
    split at h
    · rename_i o d v hx hy
      split at h
      · rename_i n so hz ho
        split at h
        · rename_i hb
          simp only [Bool.and_eq_true, decide_eq_true_eq] at hb
          obtain ⟨⟨hw, hl⟩, hn⟩ := hb
          cases h
          have hg := get_sound hA hy
          have hok := S1.cells_ok (v := v) hg.2
          obtain ⟨r1, r2⟩ := hM.write ho hw (by rw [hl]; exact hn) hok
          have hq : (v.den ρ).cells = (v.cells.map (SC.den ρ)).toArray := S1.den_cells (v := v) hg.2 ρ
          refine ⟨[], _, _, by simpa using hA.objs (writes s.mem [⟨o, d, v.cells⟩]) [] (by rw [(writes_spec _ _).1]; rfl), by simpa using r1, rfl, rfl, rfl, rfl, rfl, ?_, .inr ⟨rfl, rfl⟩⟩
          have := r2 P
          have hg1 : a.eval y = v.den ρ := hg.1
          have hp : a.eval x = .pointer (some ⟨ρ.blk o, ρ.off o + d, none⟩) := (get_sound hA hx).1
          simp [execOp, hp, hg1, Instr.storeAt, Instr.sureAddr, storeVar, hq, hl, run_szOf hz, this]
        · cases h
      · cases h
    · cases h
  all_goals (simp [opM] at h)

end Go.Proofs.Ytfeancgmmonebaa.Sx
