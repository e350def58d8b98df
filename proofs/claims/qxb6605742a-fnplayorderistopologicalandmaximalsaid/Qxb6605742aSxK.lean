/-
  SxK: byte arrays as keys, and small additions.
-/
import Derived.Test.Qxb6605742aSxM
import Derived.Laws.StructEq
set_option linter.unusedVariables false
set_option linter.unusedSimpArgs false
namespace Go.Sx

theorem inL {L : List Nat} {i : Nat} {p : Prop} (h : L.contains i = true) : L.contains i = false → p := fun h' => by rw [h] at h'; cases h'

section
variable {P : Program} {N : Nat} {Q : Exit → Act → World → Prop} {s : Store} {w : World}
theorem WC.condTb {c : Operand} {x y : Code} {b : Bool} (hc : ev s c = some (.bool b)) (hb : b = true) (h : WC P N Q x s w) : WC P N Q (.cond c x y) s w := by
  subst hb; exact WC.condT hc h
theorem WC.condFb {c : Operand} {x y : Code} {b : Bool} (hc : ev s c = some (.bool b)) (hb : b = false) (h : WC P N Q y s w) : WC P N Q (.cond c x y) s w := by
  subst hb; exact WC.condF hc h
end

/-! ### New memory and stores, the world behind a letter -/
section
variable {P : Program} {N : Nat} {ops : Array Oper} {Q : Exit → Act → World → Prop} {rest : List Oper} {s : Store} {w : World} {d : Nat} {ty : TypeId} {pos : String} {after : Array Edge}
  {S : World → Prop} {L : List Nat} {l : List Oper} {r : List (Nat × Bool)}

theorem WL.box {x : Operand} {t : TypeId} {v : Value} {c : List Value} (hx : ev s x = some v) (hc : v.cells.toList = c) (hd : Nat.blt d N = true)
    (h : ∀ b w', b = w.heap.size → Own w' b t c → Ext w w' → w'.heap.size = b + 1 → WL P N ops Q rest ((d, .pointer (some ⟨b, 0, none⟩)) :: s) w') :
    WL P N ops Q (⟨some d, .box t x, ty, pos, after, none⟩ :: rest) s w :=
  WL.step (ok_box hx) hd (h _ _ rfl (hc ▸ Own.new _ _ _) (Kp.alloc _ _ _) (by simp))

theorem WL.alloc {t : TypeId} {z : Value} (hz : ZeroT P t z) (hd : Nat.blt d N = true)
    (h : ∀ b w', b = w.heap.size → Own w' b t z.cells.toList → Ext w w' → w'.heap.size = b + 1 → WL P N ops Q rest ((d, .pointer (some ⟨b, 0, none⟩)) :: s) w') :
    WL P N ops Q (⟨some d, .alloc t, ty, pos, after, none⟩ :: rest) s w :=
  WL.step (ok_alloc hz) hd (h _ _ rfl (Own.new _ _ _) (Kp.alloc _ _ _) (by simp))

theorem WO.alloc {i : Nat} {t : TypeId} {z : Value} (hi : nth l i = some ⟨some d, .alloc t, ty, pos, after, none⟩) (hz : ZeroT P t z) (hd : Nat.blt d N = true)
    (h : ∀ b w', b = w.heap.size → Own w' b t z.cells.toList → Ext w w' → w'.heap.size = b + 1 → (L.contains i = false → S w') ∧ WO P N l Q S L r ((d, .pointer (some ⟨b, 0, none⟩)) :: s) w') :
    WO P N l Q S L ((i, false) :: r) s w := by
  have := h _ _ rfl (Own.new w z.cells.toList t) (Kp.alloc _ _ _) (by simp)
  exact WO.loud hi (ok_alloc hz) this.1 hd this.2

theorem setRow_size (w : World) (b : Nat) (c : Array Value) : (w.setRow b c).heap.size = w.heap.size := by simp [World.setRow]

theorem WL.store {x y : Operand} {t e : TypeId} {b off n : Nat} {c : List Value} {v : Value} (hx : ev s x = some (.pointer (some ⟨b, off, none⟩))) (hy : ev s y = some v) (hsz : Sz P t n)
    (ho : Own w b e c) (hn : v.cells.toList.length = n) (hl : off + v.cells.toList.length ≤ c.length) (h1 : ∀ u ∈ v.cells.toList, u.oneCell' = true)
    (h : ∀ w', Own w' b e (splice c off v.cells.toList) → Kp (· = b) w w' → w'.heap.size = w.heap.size → WL P N ops Q rest s w') :
    WL P N ops Q (⟨none, .store t x y, ty, pos, after, none⟩ :: rest) s w :=
  WL.skip (ok_store hx hy hsz hn ho hl h1) (h _ (ho.put _) (Kp.put _ _ _ rfl) (setRow_size _ _ _))

theorem WO.store {i : Nat} {x y : Operand} {t e : TypeId} {b off n : Nat} {c : List Value} {v : Value} (hi : nth l i = some ⟨none, .store t x y, ty, pos, after, none⟩)
    (hx : ev s x = some (.pointer (some ⟨b, off, none⟩))) (hy : ev s y = some v) (hsz : Sz P t n)
    (ho : Own w b e c) (hn : v.cells.toList.length = n) (hl : off + v.cells.toList.length ≤ c.length) (h1 : ∀ u ∈ v.cells.toList, u.oneCell' = true)
    (h : ∀ w', Own w' b e (splice c off v.cells.toList) → Kp (· = b) w w' → w'.heap.size = w.heap.size → (L.contains i = false → S w') ∧ WO P N l Q S L r s w') :
    WO P N l Q S L ((i, false) :: r) s w := by
  have := h _ (ho.put (splice c off v.cells.toList)) (Kp.put _ _ _ rfl) (setRow_size _ _ _)
  exact WO.loudSkip hi (ok_store hx hy hsz hn ho hl h1) this.1 this.2
end

theorem Own.rd0 {w : World} {b : Nat} {e : TypeId} {c : List Value} (h : Own w b e c) : Rd w b 0 c := h.rd 0 c (fun j v hv => by simpa using hv)
theorem Own.ext {w w' : World} {b : Nat} {e : TypeId} {c : List Value} (h : Own w b e c) (k : Ext w w') : Own w' b e c := k.own h (fun f => f)

/-- A second step that wrote only what the first may have turned, or what is new. -/
theorem Kp.over {M M' : Nat → Prop} {w w1 w2 : World} (h : Kp M w w1) (k : Kp M' w1 w2) (hM : ∀ i, i < w.heap.size → M' i → M i) : Kp M w w2 :=
  ⟨k.os.trans h.os, k.tape.trans h.tape, k.output.trans h.output, Nat.le_trans h.size k.size, fun i hi hm => (k.block i (Nat.lt_of_lt_of_le hi h.size) (fun q => hm (hM i hi q))).trans (h.block i hi hm)⟩

/-- Bytes as cells. -/
def kc (k : List UInt8) : List Value := k.map fun b => .int .u8 b.toNat

@[simp] theorem kc_length (k : List UInt8) : (kc k).length = k.length := by simp [kc]
theorem kc_one (k : List UInt8) : ∀ v ∈ kc k, v.oneCell' = true := by
  intro v hv
  simp only [kc, List.mem_map] at hv
  obtain ⟨b, _, rfl⟩ := hv
  rfl
theorem kc_get (k : List UInt8) (j : Nat) (hj : j < k.length) : (kc k)[j]? = some (.int .u8 k[j].toNat) := by
  simp [kc, hj]

section
variable {P : Program} {s : Store} {ty : TypeId} {w : World}

def eqFrom (P : Program) (d : Nat) (e : TypeId) (n : Nat) (xs ys : Array Value) : List Nat → Sem Bool
  | [] => pure true
  | i :: is => do
    let a ← part e xs (i * n)
    let b ← part e ys (i * n)
    let r ← Op.equalIn d e a b
    if (!r) = true then pure false else eqFrom P d e n xs ys is

theorem run_equalIn_array (d : Nat) (t e : TypeId) (len n : Nat) (xs ys : Array Value) (ht : P.underlying t = some (.array len e)) (hs : Sz P e n) (w : World) :
    (Op.equalIn (d + 1) t (.agg xs) (.agg ys)).run P w = (eqFrom P d e n xs ys (List.range len)).run P w := by
  simp only [Op.equalIn, Sem.run_bind, run_underlying ht, Result.andThen_ok, run_sizeOf hs]
  rw [Std.Legacy.Range.forIn_eq_forIn_range']
  simp only [Std.Legacy.Range.size, Nat.sub_zero, Nat.add_sub_cancel, Nat.div_one]
  rw [← List.range_eq_range']
  generalize List.range len = is
  clear ht
  induction is generalizing w with
  | nil => simp [eqFrom]
  | cons i is ih =>
    simp only [List.forIn_cons, eqFrom, Sem.run_bind]
    generalize (part e xs (i * n)).run P w = r1
    cases r1 with
    | ok a w1 =>
      simp only [Result.andThen_ok]
      generalize (part e ys (i * n)).run P w1 = r2
      cases r2 with
      | ok b w2 =>
        simp only [Result.andThen_ok]
        generalize (Op.equalIn d e a b).run P w2 = r3
        cases r3 with
        | ok r w3 =>
          cases r
          · simp
          · simp only [Result.andThen_ok, Bool.not_true, Bool.false_eq_true, if_false, Sem.run_pure]
            exact ih w3
        | halt x w3 => simp [Result.andThen]
      | halt x w2 => simp [Result.andThen]
    | halt x w1 => simp [Result.andThen]

theorem run_part_kc {e : TypeId} (ho : OneT P e) (k : List UInt8) (i : Nat) (hi : i < k.length) (w : World) : (part e (kc k).toArray i).run P w = .ok (.int .u8 k[i].toNat) w := by
  have h1 : (kc k).toArray[i]? = some (.int .u8 k[i].toNat) := by simpa using kc_get k i hi
  simp only [part, Sem.run_bind, run_isAgg ho, Result.andThen_ok, Bool.false_eq_true, if_false, h1, Sem.run_pure]

theorem run_eqFrom_kc {e : TypeId} (d : Nat) (hu : P.underlying e = some (.int .u8)) (a b : List UInt8) (hl : a.length = b.length) (w : World) :
    ∀ (m i : Nat), a.length = i + m → (eqFrom P (d + 1) e 1 (kc a).toArray (kc b).toArray (List.range' i m)).run P w = .ok (decide (a.drop i = b.drop i)) w
  | 0, i, hm => by
    have h1 : a.drop i = [] := List.drop_of_length_le (by omega)
    have h2 : b.drop i = [] := List.drop_of_length_le (by omega)
    simp [eqFrom, h1, h2]
  | m + 1, i, hm => by
    have ho : OneT P e := by simp [OneT, hu, isAggD]
    have hia : i < a.length := by omega
    have hib : i < b.length := by omega
    have ih := run_eqFrom_kc d hu a b hl w m (i + 1) (by omega)
    simp only [List.range'_succ, eqFrom, Nat.mul_one, Sem.run_bind, run_part_kc ho a i hia, run_part_kc ho b i hib, Result.andThen_ok, run_equalIn_int w d e .u8 .u8 _ _ hu]
    have e1 : (a.drop i = b.drop i) ↔ (a[i] = b[i] ∧ a.drop (i + 1) = b.drop (i + 1)) := by
      rw [List.drop_eq_getElem_cons hia, List.drop_eq_getElem_cons hib, List.cons.injEq]
    by_cases h : a[i] = b[i]
    · simp only [h, beq_self_eq_true, Bool.not_true, Bool.false_eq_true, if_false]
      rw [ih]
      congr 1
      exact decide_eq_decide.2 (by rw [e1]; exact ⟨fun q => ⟨h, q⟩, fun q => q.2⟩)
    · have hne : ¬ (((a[i].toNat : Nat) : Int) = (b[i].toNat : Nat)) := fun e => h (UInt8.toNat_inj.1 (by omega))
      have : ((((a[i].toNat : Nat) : Int) == (b[i].toNat : Nat))) = false := by simpa using hne
      simp only [this, Bool.not_false, if_true, Sem.run_pure]
      congr 1
      exact (decide_eq_false (fun q => h (e1.1 q).1)).symm

/-- What is asked of an array-of-bytes type for '=='. -/
structure KeyTy (P : Program) (t : TypeId) (len : Nat) : Prop where
  elem : ∃ e, P.underlying t = some (.array len e) ∧ P.underlying e = some (.int .u8) ∧ Sz P e 1
  guard : P.eqGuardType P.depth t = false

theorem run_equal_kc {t : TypeId} {len : Nat} (hk : KeyTy P t len) (a b : List UInt8) (ha : a.length = len) (hb : b.length = len) (w : World) :
    (Op.equalIn 10000 t (.agg (kc a).toArray) (.agg (kc b).toArray)).run P w = .ok (decide (a = b)) w := by
  obtain ⟨e, h1, h2, h3⟩ := hk.elem
  have := run_equalIn_array (P := P) 9999 t e len 1 (kc a).toArray (kc b).toArray h1 h3 w
  rw [show (9999 + 1) = 10000 from rfl] at this
  rw [this, List.range_eq_range', run_eqFrom_kc 9998 h2 a b (by omega) w len 0 (by omega)]
  simp

theorem ok_eqlK {x y : Operand} {t t' : TypeId} {len : Nat} {a b : List UInt8} (hx : ev s x = some (.agg (kc a).toArray)) (hy : ev s y = some (.agg (kc b).toArray)) (hk : KeyTy P t len) (ha : a.length = len) (hb : b.length = len) :
    OpOk P s (.binOp .eql t x y t') ty w (.bool (decide (a = b))) w := by
  intro ρ hρ o ho _
  simp only [execOp, ho, hρ _ _ hx, hρ _ _ hy, Sem.run_bind, run_eqGuard_agg w .eql t x y _ _ hk.guard, Result.andThen_ok, run_eql_struct, run_equal_kc hk a b ha hb, Sem.run_pure]
end

end Go.Sx
