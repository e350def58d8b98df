/- A map from names to where they stand. -/
import Derived.Test.Qxb6605723aSxB
import Derived.MapKept
import Derived.Laws.StructEq
set_option linter.unusedVariables false
set_option linter.unusedSimpArgs false
namespace Go.Sx
open Go.Pl Go.MapKept

abbrev Nm := List (ByteArray × (List UInt8 × Bool))
def encV (v : List UInt8 × Bool) : Value := .agg (kc v.1 ++ [Value.bool v.2]).toArray
def MapAt (w : World) (mb : Nat) (nm : Nm) : Prop :=
  ∃ es clock, w.heap[mb]? = some (.map es clock) ∧ es.toList.map (fun e => (e.key, e.val)) = nm.map (fun x => (Value.string x.1, encV x.2)) ∧ (nm.map (·.1)).Nodup

theorem MapAt.kp {M : Nat → Prop} {w w' : World} {mb : Nat} {nm : Nm} (h : MapAt w mb nm) (k : Kp M w w') (hn : ¬ M mb) : MapAt w' mb nm := by
  obtain ⟨es, clock, h1, h2, h3⟩ := h
  exact ⟨es, clock, by rw [k.block mb (Array.getElem?_eq_some_iff.1 h1).1 hn]; exact h1, h2, h3⟩
theorem MapAt.ext {w w' : World} {mb : Nat} {nm : Nm} (h : MapAt w mb nm) (k : Ext w w') : MapAt w' mb nm := h.kp k (fun f => f)
theorem MapAt.lt {w : World} {mb : Nat} {nm : Nm} (h : MapAt w mb nm) : mb < w.heap.size := by
  obtain ⟨es, clock, h1, h2, h3⟩ := h
  exact (Array.getElem?_eq_some_iff.1 h1).1

def getN : Nm → ByteArray → Option (List UInt8 × Bool)
  | [], _ => none
  | x :: t, n => if x.1 = n then some x.2 else getN t n
def setN (nm : Nm) (n : ByteArray) (v : List UInt8 × Bool) : Nm := if (getN nm n).isSome then nm.map (fun x => if x.1 = n then (n, v) else x) else nm ++ [(n, v)]
def delN (nm : Nm) (n : ByteArray) : Nm := nm.filter (fun x => decide (x.1 ≠ n))

theorem getN_none {n : ByteArray} : ∀ {nm : Nm}, (∀ x ∈ nm, x.1 ≠ n) → getN nm n = none
  | [], _ => rfl
  | x :: t, h => by
    rw [getN, if_neg (h x (by simp))]
    exact getN_none (fun y hy => h y (List.mem_cons_of_mem _ hy))
theorem getN_of {n : ByteArray} {v : List UInt8 × Bool} : ∀ {nm : Nm} {j : Nat}, (nm.map (·.1)).Nodup → nm[j]? = some (n, v) → getN nm n = some v
  | [], j, _, h => by simp at h
  | x :: t, 0, _, h => by simp at h; subst h; simp [getN]
  | x :: t, j + 1, hn, h => by
    simp only [List.map_cons, List.nodup_cons] at hn
    simp only [List.getElem?_cons_succ] at h
    have : x.1 ≠ n := fun e => hn.1 (by rw [e]; exact List.mem_map.2 ⟨(n, v), List.mem_of_getElem? h, rfl⟩)
    rw [getN, if_neg this]
    exact getN_of hn.2 h
theorem getN_mem {n : ByteArray} {v : List UInt8 × Bool} : ∀ {nm : Nm}, getN nm n = some v → (n, v) ∈ nm
  | [], h => by simp [getN] at h
  | x :: t, h => by
    unfold getN at h
    split at h
    · rename_i e
      cases h
      subst e
      exact List.mem_cons_self
    · exact List.mem_cons_of_mem _ (getN_mem h)
theorem getN_iff {n : ByteArray} {v : List UInt8 × Bool} {nm : Nm} (hn : (nm.map (·.1)).Nodup) : getN nm n = some v ↔ (n, v) ∈ nm := by
  refine ⟨getN_mem, fun h => ?_⟩
  obtain ⟨j, hj, e⟩ := List.mem_iff_getElem.1 h
  exact getN_of hn (by rw [List.getElem?_eq_getElem hj, e])

/-- The find of a name. -/
theorem find_nm {es : List MapEntry} {nm : Nm} (he : es.map (fun e => (e.key, e.val)) = nm.map (fun x => (Value.string x.1, encV x.2))) (hn : (nm.map (·.1)).Nodup) (n : ByteArray) :
    (Instr.findNow .string (.string n) es 0 = some none ∧ getN nm n = none ∧ ∀ x ∈ nm, x.1 ≠ n) ∨
    ∃ j e v, Instr.findNow .string (.string n) es 0 = some (some (j, e.val)) ∧ es[j]? = some e ∧ e.key = .string n ∧ e.val = encV v ∧ nm[j]? = some (n, v) ∧ getN nm n = some v := by
  have hks : ∀ x ∈ es, IsKey .string x.key := by
    intro x hx
    have : (x.key, x.val) ∈ nm.map (fun x => (Value.string x.1, encV x.2)) := by rw [← he]; exact List.mem_map.2 ⟨x, hx, rfl⟩
    obtain ⟨y, _, hy⟩ := List.mem_map.1 this
    simp only [Prod.mk.injEq] at hy
    rw [← hy.1]; trivial
  rcases findNow_spec (d := .string) (k := .string n) trivial es 0 hks with ⟨h1, h2⟩ | ⟨j, e, h1, h2, h3⟩
  · left
    have : ∀ x ∈ nm, x.1 ≠ n := by
      intro x hx e
      have : (Value.string x.1, encV x.2) ∈ es.map (fun e => (e.key, e.val)) := by rw [he]; exact List.mem_map.2 ⟨x, hx, rfl⟩
      obtain ⟨y, hy, hy2⟩ := List.mem_map.1 this
      simp only [Prod.mk.injEq] at hy2
      exact h2 y hy (by rw [hy2.1, e])
    exact ⟨h1, getN_none this, this⟩
  · right
    have : (nm.map (fun x => (Value.string x.1, encV x.2)))[j]? = some (e.key, e.val) := by rw [← he, List.getElem?_map, h2]; rfl
    rw [List.getElem?_map] at this
    cases hx : nm[j]? with
    | none => rw [hx] at this; cases this
    | some x =>
      rw [hx] at this
      simp only [Option.map_some, Option.some.injEq, Prod.mk.injEq, h3, Value.string.injEq] at this
      obtain ⟨xn, xv⟩ := x
      obtain ⟨e1, e2⟩ := this
      simp only at e1 e2
      subst e1
      exact ⟨j, e, xv, by simpa using h1, h2, h3, e2.symm, hx, getN_of hn hx⟩

section
variable {P : Program} {s : Store} {ty : TypeId} {w w' : World} {N : Nat} {ops : Array Oper} {Q : Exit → Act → World → Prop} {rest : List Oper} {pos : String} {after : Array Edge}

theorem ok_lookup {t kt et : TypeId} {x y : Operand} {mb : Nat} {n : ByteArray} {nm : Nm} {z : Value} (hx : ev s x = some (.map (some mb))) (hy : ev s y = some (.string n)) (hm : P.underlying t = some (.map kt et)) (hk : P.underlying kt = some .string)
    (hz : ZeroT P et z) (h : MapAt w mb nm) : OpOk P s (.lookup t x y true) ty w (.tuple #[((getN nm n).map encV).getD z, .bool (getN nm n).isSome]) w := by
  obtain ⟨es, clock, hb, he, hn⟩ := h
  intro ρ hρ o ho _
  have hkk : IsKey .string (.string n) := trivial
  rcases find_nm he hn n with ⟨h1, h2, _⟩ | ⟨j, e, v, h1, _, _, h4, _, h6⟩
  · simp [execOp, ho, hρ _ _ hx, hρ _ _ hy, Instr.lookup, run_underlying hm, MapKept.run_getObj_map hb, MapKept.run_checkKey hk hkk, MapKept.run_findKey hk h1, run_zero hz, h2, Result.andThen]
  · simp [execOp, ho, hρ _ _ hx, hρ _ _ hy, Instr.lookup, run_underlying hm, MapKept.run_getObj_map hb, MapKept.run_checkKey hk hkk, MapKept.run_findKey hk h1, h6, h4, Result.andThen]
theorem ok_lookupNil {t kt et : TypeId} {x y : Operand} {n : ByteArray} {z : Value} (hx : ev s x = some (.map none)) (hy : ev s y = some (.string n)) (hm : P.underlying t = some (.map kt et)) (hk : P.underlying kt = some .string)
    (hz : ZeroT P et z) : OpOk P s (.lookup t x y true) ty w (.tuple #[z, .bool false]) w := by
  intro ρ hρ o ho _
  have hkk : IsKey .string (.string n) := trivial
  have h1 : Instr.findNow .string (.string n) [] 0 = some none := rfl
  simp [execOp, ho, hρ _ _ hx, hρ _ _ hy, Instr.lookup, run_underlying hm, MapKept.run_checkKey hk hkk, MapKept.run_findKey hk h1, run_zero hz, Result.andThen]

/-! ### Writing -/
theorem set_keys {nm : Nm} {n : ByteArray} {v : List UInt8 × Bool} : ((nm.map (fun x => if x.1 = n then (n, v) else x)).map (·.1)) = nm.map (·.1) := by
  rw [List.map_map]
  refine List.map_congr_left ?_
  intro x _
  simp only [Function.comp]
  split
  · rename_i h; exact h.symm
  · rfl
theorem set_at : ∀ {nm : Nm} {j : Nat} {n : ByteArray} {v u : List UInt8 × Bool}, (nm.map (·.1)).Nodup → nm[j]? = some (n, u) → nm.map (fun x => if x.1 = n then (n, v) else x) = nm.set j (n, v)
  | [], j, n, v, u, _, h => by simp at h
  | x :: t, 0, n, v, u, hn, h => by
    simp at h
    subst h
    simp only [List.map_cons, List.nodup_cons] at hn
    simp only [List.map_cons, if_true, List.set_cons_zero]
    congr 1
    refine (List.map_congr_left (g := id) ?_).trans (List.map_id _)
    intro y hy
    rw [if_neg]
    · rfl
    · intro e; exact hn.1 (by rw [← e]; exact List.mem_map.2 ⟨y, hy, rfl⟩)
  | x :: t, j + 1, n, v, u, hn, h => by
    simp only [List.map_cons, List.nodup_cons] at hn
    simp only [List.getElem?_cons_succ] at h
    have : x.1 ≠ n := fun e => hn.1 (by rw [e]; exact List.mem_map.2 ⟨(n, u), List.mem_of_getElem? h, rfl⟩)
    simp only [List.map_cons, if_neg this, List.set_cons_succ, set_at hn.2 h]
theorem setN_nodup {nm : Nm} {n : ByteArray} {v : List UInt8 × Bool} (hn : (nm.map (·.1)).Nodup) : ((setN nm n v).map (·.1)).Nodup := by
  unfold setN
  split
  · rw [set_keys]; exact hn
  · rename_i h
    rw [List.map_append, List.nodup_append]
    refine ⟨hn, by simp, ?_⟩
    intro a ha b hb e
    simp at hb
    obtain ⟨x, hx, rfl⟩ := List.mem_map.1 ha
    subst hb
    apply h
    have : getN nm x.1 = some x.2 := (getN_iff hn).2 hx
    rw [← e, this]; rfl
theorem del_at : ∀ {nm : Nm} {j : Nat} {n : ByteArray} {u : List UInt8 × Bool}, (nm.map (·.1)).Nodup → nm[j]? = some (n, u) → delN nm n = nm.eraseIdx j
  | [], j, n, u, _, h => by simp at h
  | x :: t, 0, n, u, hn, h => by
    simp at h
    subst h
    simp only [List.map_cons, List.nodup_cons] at hn
    unfold delN
    simp only [List.filter_cons, ne_eq, not_true_eq_false, decide_false, Bool.false_eq_true, if_false, List.eraseIdx_cons_zero]
    rw [List.filter_eq_self]
    intro y hy
    simp only [decide_eq_true_eq]
    intro e; exact hn.1 (by rw [← e]; exact List.mem_map.2 ⟨y, hy, rfl⟩)
  | x :: t, j + 1, n, u, hn, h => by
    simp only [List.map_cons, List.nodup_cons] at hn
    simp only [List.getElem?_cons_succ] at h
    have : x.1 ≠ n := fun e => hn.1 (by rw [e]; exact List.mem_map.2 ⟨(n, u), List.mem_of_getElem? h, rfl⟩)
    have ih := del_at hn.2 h
    unfold delN at ih ⊢
    simp only [List.filter_cons, ne_eq, this, not_false_eq_true, decide_true, if_true, List.eraseIdx_cons_succ, ih]

theorem ok_mapUpdate {t kt et : TypeId} {x y z : Operand} {mb : Nat} {n : ByteArray} {v : List UInt8 × Bool} {nm : Nm} (hx : ev s x = some (.map (some mb))) (hy : ev s y = some (.string n)) (hv : ev s z = some (encV v)) (hm : P.underlying t = some (.map kt et)) (hk : P.underlying kt = some .string)
    (h : MapAt w mb nm) : ∃ w', OpSkip P s (.mapUpdate t x y z) ty w w' ∧ MapAt w' mb (setN nm n v) ∧ Kp (· = mb) w w' ∧ w'.heap.size = w.heap.size := by
  obtain ⟨es, clock, hb, he, hn⟩ := h
  have hkk : IsKey .string (.string n) := trivial
  have hkp : ∀ o : Obj, Kp (· = mb) w { w with heap := w.heap.setIfInBounds mb o } := fun o => ⟨rfl, rfl, rfl, by simp, fun i hi hne => (heap_set (o' := o) hb).2 i hne⟩
  rcases find_nm he hn n with ⟨h1, h2, _⟩ | ⟨j, e, u, h1, hj, h3, h4, h5, h6⟩
  · refine ⟨_, fun ρ hρ o ho _ => ?_, ⟨_, _, (heap_set (o' := .map (es.push { key := .string n, val := encV v, born := clock }) (clock + 1)) hb).1, ?_, setN_nodup hn⟩, hkp _, by simp⟩
    · simp [execOp, ho, hρ _ _ hx, hρ _ _ hy, hρ _ _ hv, Instr.mapUpdate, run_underlying hm, MapKept.run_getObj_map hb, MapKept.run_checkKey hk hkk, MapKept.run_findKey hk h1, MapKept.run_setObj_map _ hb, Result.andThen]
    · unfold setN
      rw [h2]
      simp [he]
  · have hj' : es[j]? = some e := by simpa using hj
    refine ⟨_, fun ρ hρ o ho _ => ?_, ⟨_, _, (heap_set (o' := .map (es.modify j fun e => { e with key := .string n, val := encV v }) clock) hb).1, ?_, setN_nodup hn⟩, hkp _, by simp⟩
    · simp [execOp, ho, hρ _ _ hx, hρ _ _ hy, hρ _ _ hv, Instr.mapUpdate, run_underlying hm, MapKept.run_getObj_map hb, MapKept.run_checkKey hk hkk, MapKept.run_findKey hk h1, hj', h3, MapKept.run_keyThatStays hkk, MapKept.run_setObj_map _ hb, Result.andThen]
    · unfold setN
      rw [h6, if_pos (show (some u).isSome = true from rfl), set_at hn h5, List.map_set]
      rw [← he]
      apply List.ext_getElem?
      intro i
      simp only [Array.toList_modify, List.getElem?_map, List.getElem?_modify, List.getElem?_set, List.length_map]
      by_cases hij : j = i
      · subst hij
        have hl : j < es.toList.length := lt_of_get hj
        simp [hj]
        simpa using hl
      · simp [hij]
theorem ok_delete {t kt et : TypeId} {x y : Operand} {mb : Nat} {n : ByteArray} {nm : Nm} (hx : ev s x = some (.map (some mb))) (hy : ev s y = some (.string n)) (hm : P.underlying t = some (.map kt et)) (hk : P.underlying kt = some .string)
    (h : MapAt w mb nm) : ∃ w', OpOk P s (.call ⟨.builtin .delete, #[x, y], #[t, kt]⟩) ty w (.tuple #[]) w' ∧ MapAt w' mb (delN nm n) ∧ Kp (· = mb) w w' ∧ w'.heap.size = w.heap.size := by
  obtain ⟨es, clock, hb, he, hn⟩ := h
  have hkk : IsKey .string (.string n) := trivial
  have hkp : ∀ o : Obj, Kp (· = mb) w { w with heap := w.heap.setIfInBounds mb o } := fun o => ⟨rfl, rfl, rfl, by simp, fun i hi hne => (heap_set (o' := o) hb).2 i hne⟩
  have hnd : ((delN nm n).map (·.1)).Nodup := hn.sublist (List.filter_sublist.map _)
  rcases find_nm he hn n with ⟨h1, h2, h3⟩ | ⟨j, e, u, h1, hj, h3, h4, h5, h6⟩
  · refine ⟨_, fun ρ hρ o ho _ => ?_, ⟨_, _, (heap_set (o' := .map es clock) hb).1, ?_, hnd⟩, hkp _, by simp⟩
    · simp [execOp, ho, resolve, invoke, builtin, hρ _ _ hx, hρ _ _ hy, Builtin.delete_, run_underlying hm, MapKept.run_getObj_map hb, MapKept.run_checkKey hk hkk, MapKept.run_findKey hk h1, MapKept.run_setObj_map _ hb, Result.andThen]
    · have : delN nm n = nm := by unfold delN; rw [List.filter_eq_self]; intro a ha; simpa using h3 a ha
      rw [this, he]
  · refine ⟨_, fun ρ hρ o ho _ => ?_, ⟨_, _, (heap_set (o' := .map (es.eraseIdxIfInBounds j) clock) hb).1, ?_, hnd⟩, hkp _, by simp⟩
    · simp [execOp, ho, resolve, invoke, builtin, hρ _ _ hx, hρ _ _ hy, Builtin.delete_, run_underlying hm, MapKept.run_getObj_map hb, MapKept.run_checkKey hk hkk, MapKept.run_findKey hk h1, MapKept.run_setObj_map _ hb, Result.andThen]
    · have hl : j < es.size := by simpa using lt_of_get hj
      rw [del_at hn h5]
      unfold Array.eraseIdxIfInBounds
      rw [dif_pos hl, Array.toList_eraseIdx]
      have em : ∀ {α β : Type} (f : α → β) (l : List α) (k : Nat), (l.map f).eraseIdx k = (l.eraseIdx k).map f := by
        intro α β f l
        induction l with
        | nil => intro k; simp
        | cons a l ih => intro k; cases k <;> simp [ih]
      rw [← em, he, em]
theorem ok_makeMap {t : TypeId} : OpOk P s (.makeMap t none) ty w (.map (some w.heap.size)) (w.alloc (.map #[] 0)) := by
  intro ρ hρ o ho _
  simp [execOp, ho, Instr.makeMap, Result.andThen]
theorem MapAt.new (w : World) : MapAt (w.alloc (.map #[] 0)) w.heap.size [] := ⟨#[], 0, (heap_alloc w _).1, rfl, by simp⟩
theorem Kp.allocM (M : Nat → Prop) (w : World) (o : Obj) : Kp M w (w.alloc o) := ⟨rfl, rfl, rfl, by simp, fun i hi _ => (heap_alloc w o).2 i hi⟩
theorem ok_lenMap {x : Operand} {t kt et : TypeId} {mb : Nat} {nm : Nm} (hx : ev s x = some (.map (some mb))) (hm : P.underlying t = some (.map kt et)) (h : MapAt w mb nm) : OpOk P s (.call ⟨.builtin .len, #[x], #[t]⟩) ty w (.int .i64 nm.length) w := by
  obtain ⟨es, clock, hb, he, hn⟩ := h
  have hl : es.size = nm.length := by have := congrArg List.length he; simpa using this
  intro ρ hρ o ho ht
  simp [execOp, ho, resolve, invoke, builtin, Builtin.len_, run_underlying hm, hρ _ _ hx, goInt, MapKept.run_getObj_map hb, Result.andThen, hl]
theorem ok_lenMapNil {x : Operand} {t kt et : TypeId} (hx : ev s x = some (.map none)) (hm : P.underlying t = some (.map kt et)) : OpOk P s (.call ⟨.builtin .len, #[x], #[t]⟩) ty w (.int .i64 0) w := by
  intro ρ hρ o ho ht
  simp [execOp, ho, resolve, invoke, builtin, Builtin.len_, run_underlying hm, hρ _ _ hx, goInt, Result.andThen]
theorem ok_eqlMapNil {x : Operand} {t t' kt et : TypeId} {a : Option Nat} (hx : ev s x = some (.map a)) (hm : P.underlying t = some (.map kt et)) : OpOk P s (.binOp .eql t x (.const (.map none)) t') ty w (.bool a.isNone) w := by
  intro ρ hρ o ho _
  have hc : ρ (.const (.map none)) = .map none := hρ _ _ rfl
  have e : binOp .eql t (.map a) (.map none) = (do pure (.bool (← Op.equal t (.map a) (.map none)))) := rfl
  have e2 : (Op.equal t (.map a) (.map none)).run P w = .ok a.isNone w := by
    unfold Op.equal Op.maxDepth Op.equalIn
    cases a <;> simp [run_underlying hm, Result.andThen]
  simp only [execOp, ho, hρ _ _ hx, hc, eqGuard_at_map, e, Sem.run_bind, Sem.run_pure, Result.andThen_ok, e2]
theorem WL.valNone {op : Op} {v : Value} (ho : OpOk P s op ty w v w') (h : WL P N ops Q rest s w') : WL P N ops Q (⟨none, op, ty, pos, after, none⟩ :: rest) s w := by
  intro a ha
  unfold wpList
  rw [if_pos (by simp [Region.wanted])]
  refine .inl ?_
  unfold Oper.wp
  rw [ho _ ha.agr _ rfl rfl]
  exact h _ ha

theorem run_equal_kcD (d : Nat) {t : TypeId} {len : Nat} (hk : KeyTy P t len) (a b : List UInt8) (ha : a.length = len) (hb : b.length = len) (w : World) :
    (Op.equalIn (d + 2) t (.agg (kc a).toArray) (.agg (kc b).toArray)).run P w = .ok (decide (a = b)) w := by
  obtain ⟨e, h1, h2, h3⟩ := hk.elem
  rw [run_equalIn_array (P := P) (d + 1) t e len 1 (kc a).toArray (kc b).toArray h1 h3 w, List.range_eq_range', run_eqFrom_kc d h2 a b (by omega) w len 0 (by omega)]
  simp
theorem run_part0 {t : TypeId} (v : List UInt8 × Bool) (hv : v.1.length = 20) (ha : AggT P t) (hs : Sz P t 20) (w : World) : (part t (kc v.1 ++ [Value.bool v.2]).toArray 0).run P w = .ok (.agg (kc v.1).toArray) w := by
  simp only [part, Sem.run_bind, run_isAgg ha, Result.andThen_ok, if_true, run_sizeOf hs, Sem.run_pure]
  congr 2
  apply Array.ext'
  simp [List.take_append, hv]
theorem run_part20 {t : TypeId} (v : List UInt8 × Bool) (hv : v.1.length = 20) (ho : OneT P t) (w : World) : (part t (kc v.1 ++ [Value.bool v.2]).toArray 20).run P w = .ok (.bool v.2) w := by
  have h1 : (kc v.1 ++ [Value.bool v.2]).toArray[20]? = some (.bool v.2) := by
    simp [List.getElem?_append, hv]
  simp only [part, Sem.run_bind, run_isAgg ho, Result.andThen_ok, Bool.false_eq_true, if_false, h1, Sem.run_pure]

/-- Where a name stands, compared. -/
theorem ok_neqV {x y : Operand} {t t' : TypeId} {f0 f1 : Field} {a b : List UInt8 × Bool} (hx : ev s x = some (encV a)) (hy : ev s y = some (encV b)) (hu : P.underlying t = some (.struct (P.fieldsOf t))) (hf : (P.fieldsOf t).toList = [f0, f1])
    (n0 : f0.name ≠ "_") (n1 : f1.name ≠ "_") (o0 : f0.offset = 0) (o1 : f1.offset = 20) (hk : KeyTy P f0.type 20) (hs0 : Sz P f0.type 20) (ha0 : AggT P f0.type) (hb1 : P.underlying f1.type = some .bool) (hone : OneT P f1.type)
    (hp : P.stoodInHeld t = false) (hg : P.eqGuardType P.depth t = false) (ka : a.1.length = 20) (kb : b.1.length = 20) :
    OpOk P s (.binOp .neq t x y t') ty w (.bool (!decide (a = b))) w := by
  intro ρ hρ o ho _
  have e1 : (Op.equalIn 10000 t (encV a) (encV b)).run P w = .ok (decide (a = b)) w := by
    unfold encV
    have := run_equalIn_struct (P := P) w 9999 t (kc a.1 ++ [Value.bool a.2]).toArray (kc b.1 ++ [Value.bool b.2]).toArray hu hp
    rw [show 9999 + 1 = 10000 from rfl] at this
    rw [this, hf]
    have k1 := run_equal_kcD 9997 hk a.1 b.1 ka kb w
    rw [show 9997 + 2 = 9999 from rfl] at k1
    have k2 := run_equalIn_bool' (P := P) w 9998 f1.type a.2 b.2 hb1
    rw [show 9998 + 1 = 9999 from rfl] at k2
    simp only [Op.eqFields, n0, n1, o0, o1, ne_eq, not_false_eq_true, if_true, Sem.run_bind, run_part0 a ka ha0 hs0, run_part0 b kb ha0 hs0, run_part20 a ka hone, run_part20 b kb hone, Result.andThen_ok, k1]
    obtain ⟨a1, a2⟩ := a
    obtain ⟨b1, b2⟩ := b
    by_cases h : a1 = b1
    · subst h
      have hd : decide (a1 = a1) = true := decide_eq_true rfl
      have p1 : (part f1.type (kc a1 ++ [Value.bool a2]).toArray 20).run P w = .ok (.bool a2) w := run_part20 (a1, a2) ka hone w
      have p2 : (part f1.type (kc a1 ++ [Value.bool b2]).toArray 20).run P w = .ok (.bool b2) w := run_part20 (a1, b2) kb hone w
      have k3 : (Op.equalIn 9999 f1.type (.bool a2) (.bool b2)).run P w = .ok (a2 == b2) w := k2
      simp only [hd, Bool.not_true, Bool.false_eq_true, if_false, Sem.run_bind, p1, p2, k3, Result.andThen_ok]
      cases a2 <;> cases b2 <;> simp [Op.eqFields, p1, p2, k3]
    · simp [h]
  have e2 : (binOp .neq t (encV a) (encV b)).run P w = .ok (.bool (!decide (a = b))) w := by
    have := run_neq_struct (P := P) w t (kc a.1 ++ [Value.bool a.2]).toArray (kc b.1 ++ [Value.bool b.2]).toArray
    unfold encV at e1 ⊢
    rw [this, e1]
    rfl
  have e3 : (eqGuard .neq t x y (encV a) (encV b)).run P w = .ok () w := run_eqGuard_agg w .neq t x y _ _ hg
  simp only [execOp, ho, hρ _ _ hx, hρ _ _ hy, Sem.run_bind, e3, Result.andThen_ok, e2, Sem.run_pure]
end
end Go.Sx
