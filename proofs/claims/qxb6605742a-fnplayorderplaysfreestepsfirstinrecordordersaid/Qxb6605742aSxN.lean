/-
  SxN: builds, slices, make, append, copy.
-/
import Derived.Test.Qxb6605742aSxK
import Derived.Laws.Slices
set_option linter.unusedVariables false
set_option linter.unusedSimpArgs false
namespace Go.Sx

theorem splice_length (c : List Value) (off : Nat) (vs : List Value) (h : off + vs.length ≤ c.length) : (splice c off vs).length = c.length := by
  simp [splice]; omega

section
variable {P : Program} {s : Store} {ty : TypeId} {w : World}

/-! ### Structs built -/
def fillL (place : Nat → Option (Nat × Nat)) (cells : List Value) : List (Nat × Value) → Option (List Value)
  | [] => some cells
  | (i, v) :: rest =>
    match place i with
    | none => none
    | some (off, size) => if v.cells.size = size ∧ off + size ≤ cells.length then fillL place (splice cells off v.cells.toList) rest else none

theorem foldl_splice : ∀ (vs : List Value) (off j : Nat) (cells : Array Value), off + j + vs.length ≤ cells.size →
    ((vs.zipIdx j).foldl (fun cs (p : Value × Nat) => cs.setIfInBounds (off + p.2) p.1) cells).toList = splice cells.toList (off + j) vs
  | [], off, j, cells, h => by simp [splice]
  | v :: vs, off, j, cells, h => by
    simp only [List.zipIdx_cons, List.foldl_cons]
    rw [foldl_splice vs off (j + 1) (cells.setIfInBounds (off + j) v) (by simp at h ⊢; omega)]
    have e := list_seg_step cells.toList (off + j) v vs (by simp at h ⊢; omega)
    simp only [splice, List.length_cons]
    simpa [Array.toList_setIfInBounds, Nat.add_assoc] using e

theorem fill_eq (place : Nat → Option (Nat × Nat)) : ∀ (parts : List (Nat × Value)) (cells : List Value) (res : List Value),
    fillL place cells parts = some res → Instr.fill place cells.toArray parts = some res.toArray
  | [], cells, res, h => by simp [fillL] at h; simp [Instr.fill, h]
  | (i, v) :: rest, cells, res, h => by
    simp only [fillL] at h
    cases hp : place i with
    | none => simp [hp] at h
    | some os =>
      obtain ⟨off, size⟩ := os
      simp only [hp] at h
      by_cases hc : v.cells.size = size ∧ off + size ≤ cells.length
      · rw [if_pos hc] at h
        have hcond : (decide (v.cells.size ≠ size) || decide (off + v.cells.size > cells.toArray.size)) = false := by
          simp [hc.1]; omega
        simp only [Instr.fill, hp, hcond]
        have e : (v.cells.zipIdx.foldl (fun cs (p : Value × Nat) => cs.setIfInBounds (off + p.2) p.1) cells.toArray) = (splice cells off v.cells.toList).toArray := by
          apply Array.ext'
          have := foldl_splice v.cells.toList off 0 cells.toArray (by simp; omega)
          rw [← Array.foldl_toList, Array.toList_zipIdx]
          simpa using this
        have e2 := fill_eq place rest _ res h
        rw [← e] at e2
        exact e2
      · rw [if_neg hc] at h; cases h

/-- The fields of a struct type: where each lies, how many cells it takes. -/
def Flds (P : Program) (t : TypeId) (pl : List (Nat × Nat)) : Prop :=
  ∃ fs, P.underlying t = some (.struct fs) ∧ fs.toList.map (fun f => (f.offset, (P.info? f.type).map (·.size))) = pl.map (fun p => (p.1, some p.2))

theorem run_places : ∀ (fs : List Field) (pl : List (Nat × Nat)), fs.map (fun f => (f.offset, (P.info? f.type).map (·.size))) = pl.map (fun p => (p.1, some p.2)) → ∀ w : World,
    (fs.mapM fun f => do pure (f.offset, ← sizeOf f.type) : Sem (List (Nat × Nat))).run P w = .ok pl w
  | [], pl, h, w => by cases pl with | nil => simp | cons p ps => simp at h
  | f :: fs, [], h, w => by simp at h
  | f :: fs, (o, n) :: pl, h, w => by
    simp only [List.map_cons, List.cons.injEq, Prod.mk.injEq] at h
    obtain ⟨⟨h1, h2⟩, h3⟩ := h
    have ih := run_places fs pl h3 w
    have hs : Sz P f.type n := h2
    simp only [List.mapM_cons, Sem.run_bind, run_sizeOf hs, Result.andThen_ok, Sem.run_pure, ih, h1]

theorem ok_build {t : TypeId} {z res : List Value} {pl : List (Nat × Nat)} {ps : Array (Nat × Operand)} {vs : List Value} (hz : ZeroT P t (.agg z.toArray)) (hf : Flds P t pl)
    (hv : evs s (ps.toList.map (·.2)) = some vs) (hres : fillL (pl[·]?) z ((ps.toList.map (·.1)).zip vs) = some res) :
    OpOk P s (.build t ps) ty w (.agg res.toArray) w := by
  intro ρ hρ o ho _
  obtain ⟨fs, hu, hm⟩ := hf
  have e1 : (ps.map fun (p : Nat × Operand) => (p.1, ρ p.2)).toList = (ps.toList.map (·.1)).zip vs := by
    have := hρ.evs _ _ hv
    rw [← this]
    simp [List.zip_map', List.map_map]
  have e2 := fill_eq (pl[·]?) _ _ _ hres
  have e3 : (fs.mapM fun f => do pure (f.offset, ← sizeOf f.type) : Sem (Array (Nat × Nat))).run P w = .ok pl.toArray w := by
    have := run_places (P := P) fs.toList pl hm w
    rw [Array.mapM_eq_mapM_toList]
    simp only [Sem.run_map, this, Result.andThen_ok]
  have e1' : (Array.map (fun x => (x.1, ρ x.2)) ps).toList = (ps.toList.map (·.1)).zip vs := e1
  simp only [execOp, ho, Instr.build, Sem.run_bind, run_zero hz, Result.andThen_ok, run_underlying hu, Value.cells, e3, e1', List.getElem?_toArray, e2, Sem.run_pure]

/-! ### Slices built -/
theorem WL_zeros (z : Array Value) (n : Nat) : ((Array.range n).map (z[· % z.size]!)).toList.length = n := by simp

theorem ok_buildSlice {t e : TypeId} {size len : Nat} {z : Value} {ps : Array (Nat × Operand)} {vs res : List Value} (hu : P.underlying t = some (.slice e)) (hsz : Sz P e size) (hz : ZeroT P e z)
    (hle : len * size ≤ 16777216) (h0 : len * size ≠ 0) (hv : evs s (ps.toList.map (·.2)) = some vs)
    (hres : fillL (fun i => some (i * size, size)) ((Array.range (len * size)).map (z.cells[· % z.cells.size]!)).toList ((ps.toList.map (·.1)).zip vs) = some res) :
    OpOk P s (.buildSlice t len ps) ty w (.slice (some ⟨w.heap.size, 0, none⟩) len len) (w.alloc (.cells res.toArray e)) := by
  intro ρ hρ o ho _
  have e1 : (Array.map (fun x => (x.1, ρ x.2)) ps).toList = (ps.toList.map (·.1)).zip vs := by
    have := hρ.evs _ _ hv
    rw [← this]
    simp [List.zip_map', List.map_map]
  have e2 := fill_eq _ _ _ _ hres
  rw [Array.toArray_toList] at e2
  have hle' : ¬ (len * size > 2 ^ 24) := by omega
  simp only [execOp, ho, Instr.buildSlice, Sem.run_bind, run_zero hz, Result.andThen_ok, run_underlying hu, run_sizeOf hsz, Sem.run_ite, if_neg hle', if_neg h0, e1, e2, Sem.run_pure, newRow, run_newObj, World.alloc_eq]

/-! ### Slicing -/
theorem ok_sliceS {x : Operand} {t e : TypeId} {b o len cap m : Nat} {lo hi : Option Operand} (l h : Nat) (hx : ev s x = some (.slice (some ⟨b, o, none⟩) len cap)) (hu : P.underlying t = some (.slice e)) (hsz : Sz P e m)
    (hlo : match lo with | none => l = 0 | some y => ev s y = some (.int .i64 l)) (hhi : match hi with | none => h = len | some y => ev s y = some (.int .i64 h)) (hlh : l ≤ h) (hc : h ≤ cap) :
    OpOk P s (.slice t x lo hi none) ty w (.slice (some (if cap = l then ⟨b, o, none⟩ else ⟨b, o + l * m, none⟩)) (h - l) (cap - l)) w := by
  intro ρ hρ op ho _
  have ei : (if cap = l then (⟨b, o, none⟩ : Addr) else ⟨b, o + l * m, none⟩) = (if cap = l then ⟨b, o, none⟩ else Addr.add ⟨b, o, none⟩ (l * m)) := by rw [add_lit]
  rw [ei]
  simp only [execOp, ho, Instr.sliceAt, Sem.run_bind, run_underlying hu, Result.andThen_ok, hρ _ _ hx, Instr.slice, Instr.sliceBounds]
  cases lo with
  | none =>
    have hl0 : l = 0 := hlo
    subst hl0
    cases hi with
    | none =>
      have hh : h = len := hhi
      subst hh
      by_cases hc0 : cap = 0
      · simp [run_sizeOf hsz, hc0]
      · simp [run_sizeOf hsz, hc0]
    | some y =>
      have hy : ev s y = some (.int .i64 h) := hhi
      have : (0 : Int) ≤ h ∧ (h : Int) ≤ cap := by omega
      by_cases hc0 : cap = 0
      · simp [run_sizeOf hsz, hρ _ _ hy, Instr.sliceBound, asIntOf, this, hc0]
        have : h = 0 := by omega
        simp [this]
      · simp [run_sizeOf hsz, hρ _ _ hy, Instr.sliceBound, asIntOf, this, hc0, hc]
  | some z =>
    have hz : ev s z = some (.int .i64 l) := hlo
    cases hi with
    | none =>
      have hh : h = len := hhi
      subst hh
      simp [run_sizeOf hsz, hρ _ _ hz, Instr.sliceBound, asIntOf, hlh]
      split <;> rfl
    | some y =>
      have hy : ev s y = some (.int .i64 h) := hhi
      simp [run_sizeOf hsz, hρ _ _ hy, hρ _ _ hz, Instr.sliceBound, asIntOf, hlh, hc]
      split <;> rfl

theorem ok_sliceA {x : Operand} {t e : TypeId} {b o n m : Nat} {lo hi : Option Operand} (l h : Nat) (hx : ev s x = some (.pointer (some ⟨b, o, none⟩))) (hu : P.underlying t = some (.array n e)) (hsz : Sz P e m)
    (hlo : match lo with | none => l = 0 | some y => ev s y = some (.int .i64 l)) (hhi : match hi with | none => h = n | some y => ev s y = some (.int .i64 h)) (hlh : l ≤ h) (hc : h ≤ n) (hln : l ≠ n) :
    OpOk P s (.slice t x lo hi none) ty w (.slice (some ⟨b, o + l * m, none⟩) (h - l) (n - l)) w := by
  intro ρ hρ op ho _
  have hnl : ¬ (n = l) := fun e => hln e.symm
  rw [← add_lit]
  simp only [execOp, ho, Instr.sliceAt, Sem.run_bind, run_underlying hu, Result.andThen_ok, hρ _ _ hx, Instr.sureAddr, Instr.sliceBounds]
  cases lo with
  | none =>
    have hl0 : l = 0 := hlo
    subst hl0
    cases hi with
    | none =>
      have hh : h = n := hhi
      subst hh
      simp [run_sizeOf hsz, hnl]
    | some y =>
      have hy : ev s y = some (.int .i64 h) := hhi
      simp [run_sizeOf hsz, hρ _ _ hy, Instr.sliceBound, asIntOf, hc, hnl]
  | some z =>
    have hz : ev s z = some (.int .i64 l) := hlo
    cases hi with
    | none =>
      have hh : h = n := hhi
      subst hh
      simp [run_sizeOf hsz, hρ _ _ hz, Instr.sliceBound, asIntOf, hlh, hnl]
    | some y =>
      have hy : ev s y = some (.int .i64 h) := hhi
      simp [run_sizeOf hsz, hρ _ _ hy, hρ _ _ hz, Instr.sliceBound, asIntOf, hlh, hc, hnl]

/-! ### nil slices -/
theorem run_equal_sliceNil {t e : TypeId} (a : Option Addr) (n c : Nat) (hu : P.underlying t = some (.slice e)) (w : World) : (Op.equal t (.slice a n c) (.slice none 0 0)).run P w = .ok a.isNone w := by
  have h : ∀ d, (Op.equalIn (d + 1) t (.slice a n c) (.slice none 0 0)).run P w = .ok a.isNone w := fun d => by
    cases a <;> simp [Op.equalIn, run_underlying hu]
  exact h 9999

theorem ok_eqlNil {x : Operand} {t t' e : TypeId} {a : Option Addr} {n c : Nat} (hx : ev s x = some (.slice a n c)) (hu : P.underlying t = some (.slice e)) :
    OpOk P s (.binOp .eql t x (.const (.slice none 0 0)) t') ty w (.bool a.isNone) w := by
  intro ρ hρ o ho _
  have hc : ρ (.const (.slice none 0 0)) = .slice none 0 0 := hρ _ _ rfl
  have e : binOp .eql t (.slice a n c) (.slice none 0 0) = (do pure (.bool (← Op.equal t (.slice a n c) (.slice none 0 0)))) := rfl
  simp only [execOp, ho, hρ _ _ hx, hc, eqGuard_at_slice, e, Sem.run_bind, Sem.run_pure, Result.andThen_ok, run_equal_sliceNil a n c hu]

/-! ### make -/
theorem run_makeSlice {t e : TypeId} {size bytes : Nat} {z : Value} {info : TypeInfo} (n : Nat) (hu : P.underlying t = some (.slice e)) (hi : P.info? e = some info) (hz : info.zero = some z)
    (hb : n * info.bytes ≤ 281474976710656) (hn : n ≤ 9223372036854775807) (w : World) :
    ∃ c : List Value, c.length = n * info.size ∧ (∀ i, i < c.length → c[i]? = z.cells[i % z.cells.size]! ) ∧
      (Instr.makeSlice t (.int .i64 n) (.int .i64 n)).run P w = .ok (.slice (some ⟨w.heap.size, 0, none⟩) n n) (w.alloc (.cells c.toArray e)) := by
  refine ⟨((Array.range (n * info.size)).map (z.cells[· % z.cells.size]!)).toList, by simp, ?_, ?_⟩
  · intro i hi
    simp at hi
    simp [hi]
  · have hw : IntKind.i64.wrap (n : Int) = n := wrap_i64 (by omega) (by omega)
    have h1 : ¬ ((info.bytes : Int) * (n : Int) > 2 ^ 48) := by
      have : (info.bytes : Int) * (n : Int) = ((n * info.bytes : Nat) : Int) := by push_cast; exact Int.mul_comm _ _
      rw [this]; omega
    have h2 : ¬ ((n : Int) < 0) := by omega
    simp only [Instr.makeSlice, Sem.run_bind, run_underlying hu, Result.andThen_ok, asInt, asIntOf, Sem.run_pure, typeInfo, run_program, hi, hw]
    have hcond : (((decide ((n : Int) < 0) || decide ((info.bytes : Int) * (n : Int) > 2 ^ 48)) || decide ((n : Int) < 0)) || decide ((n : Int) > n)) = false := by
      simp [h1, h2]; omega
    simp only [hcond, Bool.false_eq_true, if_false, Sem.run_pure, Result.andThen_ok, Sem.run_bind, run_askRoom, sizeOf, typeInfo, run_program, hi, Int.toNat_natCast]
    by_cases h0 : n * info.size = 0
    · rw [if_pos h0]
      simp [h0, newRow]
      congr 2
      apply Array.ext'
      simp
    · rw [if_neg h0]
      simp [zeroValue, typeInfo, hi, hz, newRow]
      congr 2
      apply Array.ext'
      simp
end

section
variable {P : Program} {N : Nat} {ops : Array Oper} {Q : Exit → Act → World → Prop} {rest : List Oper} {s : Store} {w : World} {d : Nat} {ty : TypeId} {pos : String} {after : Array Edge}
  {S : World → Prop} {L : List Nat} {l : List Oper} {r : List (Nat × Bool)}

/-- What 'make', 'append' ask of an element type. -/
structure Elt (P : Program) (t e : TypeId) (size bytes : Nat) (z : Value) : Prop where
  und : P.underlying t = some (.slice e)
  info : ∃ i, P.info? e = some i ∧ i.zero = some z ∧ i.size = size ∧ i.bytes = bytes
  zsize : z.cells.size = size

theorem Elt.sz {t e : TypeId} {size bytes : Nat} {z : Value} (h : Elt P t e size bytes z) : Sz P e size := by
  obtain ⟨i, h1, h2, h3, h4⟩ := h.info; simp [Sz, h1, h3]
theorem Elt.zero {t e : TypeId} {size bytes : Nat} {z : Value} (h : Elt P t e size bytes z) : ZeroT P e z := by
  obtain ⟨i, h1, h2, h3, h4⟩ := h.info; simp [ZeroT, h1, h2]

theorem WL.make {t e : TypeId} {size bytes : Nat} {z : Value} {x : Operand} (n : Nat) (he : Elt P t e size bytes z) (hx : ev s x = some (.int .i64 n)) (hb : n * bytes ≤ 281474976710656) (hn : n ≤ 9223372036854775807)
    (hd : Nat.blt d N = true)
    (h : ∀ b w' c, b = w.heap.size → Own w' b e c → c.length = n * size → (∀ i, i < c.length → c[i]? = z.cells[i % z.cells.size]!) → Ext w w' → w'.heap.size = b + 1 →
      WL P N ops Q rest ((d, .slice (some ⟨b, 0, none⟩) n n) :: s) w') :
    WL P N ops Q (⟨some d, .makeSlice t x x, ty, pos, after, none⟩ :: rest) s w := by
  obtain ⟨i, h1, h2, rfl, rfl⟩ := he.info
  obtain ⟨c, hc1, hc2, hc3⟩ := run_makeSlice (P := P) (size := i.size) (bytes := i.bytes) n he.und h1 h2 hb hn w
  refine WL.step (v := .slice (some ⟨w.heap.size, 0, none⟩) n n) (w' := w.alloc (.cells c.toArray e)) ?_ hd (h _ _ c rfl (Own.new _ _ _) hc1 hc2 (Kp.alloc _ _ _) (by simp))
  intro ρ hρ o ho _
  simp only [execOp, ho, hρ _ _ hx, Sem.run_bind, hc3, Result.andThen_ok, Sem.run_pure]

theorem WL.buildSlice {t e : TypeId} {size bytes len : Nat} {z : Value} {ps : Array (Nat × Operand)} {vs : List Value} (res : List Value) (he : Elt P t e size bytes z)
    (hle : len * size ≤ 16777216) (h0 : len * size ≠ 0) (hv : evs s (ps.toList.map (·.2)) = some vs)
    (hres : fillL (fun i => some (i * size, size)) ((Array.range (len * size)).map (z.cells[· % z.cells.size]!)).toList ((ps.toList.map (·.1)).zip vs) = some res) (hd : Nat.blt d N = true)
    (h : ∀ b w', b = w.heap.size → Own w' b e res → Ext w w' → w'.heap.size = b + 1 → WL P N ops Q rest ((d, .slice (some ⟨b, 0, none⟩) len len) :: s) w') :
    WL P N ops Q (⟨some d, .buildSlice t len ps, ty, pos, after, none⟩ :: rest) s w :=
  WL.step (ok_buildSlice he.und he.sz he.zero hle h0 hv hres) hd (h _ _ rfl (Own.new _ _ _) (Kp.alloc _ _ _) (by simp))

theorem WO.buildSlice {i : Nat} {t e : TypeId} {size bytes len : Nat} {z : Value} {ps : Array (Nat × Operand)} {vs : List Value} (res : List Value) (hi : nth l i = some ⟨some d, .buildSlice t len ps, ty, pos, after, none⟩) (he : Elt P t e size bytes z)
    (hle : len * size ≤ 16777216) (h0 : len * size ≠ 0) (hv : evs s (ps.toList.map (·.2)) = some vs)
    (hres : fillL (fun i => some (i * size, size)) ((Array.range (len * size)).map (z.cells[· % z.cells.size]!)).toList ((ps.toList.map (·.1)).zip vs) = some res) (hd : Nat.blt d N = true)
    (h : ∀ b w', b = w.heap.size → Own w' b e res → Ext w w' → w'.heap.size = b + 1 → (L.contains i = false → S w') ∧ WO P N l Q S L r ((d, .slice (some ⟨b, 0, none⟩) len len) :: s) w') :
    WO P N l Q S L ((i, false) :: r) s w := by
  have := h _ _ rfl (Own.new w res e) (Kp.alloc _ _ _) (by simp)
  exact WO.loud hi (ok_buildSlice he.und he.sz he.zero hle h0 hv hres) this.1 hd this.2
end
end Go.Sx
