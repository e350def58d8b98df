/-
  SxI: unsigned arithmetic modulo, methods behind interface values, a string's bytes.
-/
import Derived.Test.Qxb6605723aSxB
import Derived.Laws.Build
set_option linter.unusedVariables false
set_option linter.unusedSimpArgs false
namespace Go.Sx
section
variable {P : Program} {s : Store} {ty : TypeId} {w : World} {x y : Operand} {t t' : TypeId} {k : IntKind}

theorem ok_xorN {a b : Nat} (hk : k.signed = false) (hx : ev s x = some (.int k (a : Nat))) (hy : ev s y = some (.int k (b : Nat))) (ha : a < 2 ^ k.bits) (hb : b < 2 ^ k.bits) :
    OpOk P s (.binOp .xor t x y t') ty w (.int k ((a ^^^ b : Nat))) w := by
  have h := ok_xor (P := P) (t := t) (t' := t') (ty := ty) (w := w) hx hy
  have e1 : (BitVec.ofInt k.bits (a : Int)).toNat = a := by rw [BitVec.ofInt_natCast, BitVec.toNat_ofNat, Nat.mod_eq_of_lt ha]
  have e2 : (BitVec.ofInt k.bits (b : Int)).toNat = b := by rw [BitVec.ofInt_natCast, BitVec.toNat_ofNat, Nat.mod_eq_of_lt hb]
  have h3 : a ^^^ b < 2 ^ k.bits := Nat.xor_lt_two_pow ha hb
  rw [BitVec.toNat_xor, e1, e2, wrap_uns hk _ h3] at h
  exact h

theorem ok_orL {a b : Nat} (hk : k.signed = false) (hx : ev s x = some (.int k (a : Nat))) (hy : ev s y = some (.int k (b : Nat))) (ha : a < 2 ^ k.bits) (hb : b < 2 ^ k.bits) :
    OpOk P s (.binOp .or t x y t') ty w (.int k ((a ||| b : Nat))) w := by
  have h := ok_or (P := P) (t := t) (t' := t') (ty := ty) (w := w) hx hy
  have e1 : (BitVec.ofInt k.bits (a : Int)).toNat = a := by rw [BitVec.ofInt_natCast, BitVec.toNat_ofNat, Nat.mod_eq_of_lt ha]
  have e2 : (BitVec.ofInt k.bits (b : Int)).toNat = b := by rw [BitVec.ofInt_natCast, BitVec.toNat_ofNat, Nat.mod_eq_of_lt hb]
  have h3 : a ||| b < 2 ^ k.bits := Nat.or_lt_two_pow ha hb
  rw [BitVec.toNat_or, e1, e2, wrap_uns hk _ h3] at h
  exact h

theorem wrap_mod (hk : k.signed = false) (n : Nat) : k.wrap (n : Int) = ((n % 2 ^ k.bits : Nat) : Int) := by
  simp only [IntKind.wrap, hk, Bool.false_and, Bool.false_eq_true, if_false]
  have : ((2 : Int) ^ k.bits) = ((2 ^ k.bits : Nat) : Int) := by push_cast; rfl
  rw [this, ← Int.natCast_emod]

theorem ok_mulN {a b : Nat} {c : Int} (hk : k.signed = false) (hx : ev s x = some (.int k (a : Nat))) (hy : ev s y = some (.int k c)) (hc : c = (b : Nat)) :
    OpOk P s (.binOp .mul t x y t') ty w (.int k ((a * b % 2 ^ k.bits : Nat))) w := by
  subst hc
  have h := ok_mulW (P := P) (t := t) (t' := t') (ty := ty) (w := w) hx hy
  have e : (a : Int) * (b : Int) = ((a * b : Nat) : Int) := by push_cast; rfl
  rw [e, wrap_mod hk] at h
  exact h

theorem ok_convM {src dst : TypeId} {k' : IntKind} {n : Nat} (hx : ev s x = some (.int k (n : Nat))) (hs : (P.underlying src).isSome = true) (hd : P.underlying dst = some (.int k')) (hk : k'.signed = false) :
    OpOk P s (.convert src dst x) ty w (.int k' ((n % 2 ^ k'.bits : Nat))) w := by
  have h := ok_convInt (P := P) (ty := ty) (w := w) hx hs hd
  rw [wrap_mod hk] at h
  exact h

theorem ok_makeIface {v : Value} (hx : ev s x = some v) (ht : P.concrete t = true) : OpOk P s (.makeInterface t x) ty w (.iface t v) w := by
  intro ρ hρ o ho _
  simp [execOp, ho, hρ _ _ hx, run_makeInterface _ _ _ ht]

/-- A method with a pointer receiver, of the type itself. -/
def Mth (P : Program) (t : TypeId) (name : String) (f : FuncId) : Prop :=
  ∃ i m e, P.info? t = some i ∧ i.methods.find? (·.name == name) = some m ∧ m.path = #[] ∧ m.func = some (f, true) ∧ P.underlying t = some (.pointer e)

theorem run_method {name : String} {f : FuncId} (h : Mth P t name f) (n : Nat) (v : Value) (w : World) : (method (n + 1) t v name).run P w = .ok (f, v) w := by
  obtain ⟨i, m, e, h1, h2, h3, h4, h5⟩ := h
  simp [method, typeInfo, h1, h2, h3, h4, follow, receiverAt, run_underlying h5, Place.get]

theorem run_nilAhead {name : String} {f : FuncId} (h : Mth P t name f) (n : Nat) (v : Value) (w : World) : (nilAhead (n + 1) t v name).run P w = .ok (some false) w := by
  obtain ⟨i, m, e, h1, h2, h3, h4, h5⟩ := h
  simp [nilAhead, typeInfo, h1, h2, h3, h4, followBlind]

theorem ok_invoke {recv : Operand} {name : String} {f : FuncId} {as : Array Operand} {ts : Array TypeId} {vs : List Value} {v : Value} (hr : ev s recv = some (.iface t v)) (ha : evs s as.toList = some vs)
    (hm : Mth P t name f) (h : IsFn P f) : OpCall P s (.call ⟨.invoke recv name, as, ts⟩) ty w f (v :: vs).toArray := by
  intro ρ hρ op ho _
  have e1 : as.map ρ = vs.toArray := by apply Array.ext'; simpa using hρ.evs _ _ ha
  have hd : Made.depth = 99 + 1 := rfl
  have hmr := run_method hm (P.types.size + 99) v w
  rw [Nat.add_assoc, ← hd] at hmr
  simp only [execOp, ho, resolve, hρ _ _ hr, e1, Sem.run_bind, Sem.run_pure, Result.andThen_ok, invoke]
  have e2 : (#[Value.iface t v] ++ vs.toArray)[0]? = some (.iface t v) := by simp
  have e3 : (#[Value.iface t v] ++ vs.toArray).extract 1 (#[Value.iface t v] ++ vs.toArray).size = vs.toArray := by apply Array.ext'; simp
  simp only [e2, e3, callMethod, Sem.run_bind, run_program, Result.andThen_ok, hmr, run_callFunc h]
  congr 2
  apply Array.ext'
  simp

theorem ok_nilCheckM {name : String} {f : FuncId} {v : Value} {cap : Array Value} (hx : ev s x = some (.func (.method name) #[.iface t v] cap)) (hm : Mth P t name f) :
    OpOk P s (.nilCheck x) ty w (.func (.method name) #[.iface t v] cap) w := by
  intro ρ hρ op ho _
  have hd : Made.depth = 99 + 1 := rfl
  have hmr := run_nilAhead hm (P.types.size + 99) v w
  rw [Nat.add_assoc, ← hd] at hmr
  simp only [execOp, ho, hρ _ _ hx]
  simp [hmr]
end

/-! ### []byte(s) -/
theorem freeze_heap (w : World) (a : Addr) (n : Nat) (k : Nat) (hk : k ≠ a.block) : (w.freeze a n).heap[k]? = w.heap[k]? := by
  unfold World.freeze
  split
  · rfl
  · simp only [Array.getElem?_modify]
    rw [if_neg (by omega)]
theorem freeze_cell (w : World) (a : Addr) (n : Nat) (b : Addr) : (w.freeze a n).cell? b = w.cell? b := by
  unfold World.freeze
  split
  · rfl
  · unfold World.cell?
    simp only [Array.getElem?_modify]
    by_cases h : a.block = b.block
    · rw [if_pos h]
      cases hb : w.heap[b.block]? with
      | none => simp
      | some o => cases o <;> simp
    · rw [if_neg h]

theorem run_s2b {P : Program} (e : TypeId) (s : ByteArray) (w : World) : ∃ w' cap, (Conv.stringToBytes e s).run P w = .ok (.slice (some ⟨w.heap.size, 0, none⟩) s.size cap) w' ∧ Rd w' w.heap.size 0 (kc s.data.toList) ∧ Ext w w' := by
  let cap := (Question.appendCap s.size 0 e).cut (w.tape w.drawn (.appendCap s.size 0 e))
  let c : Array Value := s.data.map (fun b => .int .u8 b.toNat) ++ Array.replicate (cap - s.size) (.int .u8 0)
  let w1 := w.drew.alloc (.cells c e)
  have hsh : w1.shape? w.heap.size = some (e, c.size) := by
    have : w1.heap[w.heap.size]? = some (.cells c e) := heap_alloc_new w.drew _
    simp [World.shape?, this]
  refine ⟨w1.freeze ⟨w.heap.size, c.size, none⟩ 1, cap, ?_, ?_, ?_⟩
  · simp only [Conv.stringToBytes, Sem.run_bind, run_choose, Question.forced, Bool.false_eq_true, if_false, Result.andThen_ok, newRow, run_newObj, Sem.run_pure, markStringish, run_shape, World.drew_eq, World.alloc_eq]
    have hsh' : World.shape? (w.drew.alloc (.cells c e)) w.drew.heap.size = some (e, c.size) := hsh
    simp only [show ((s.data.map fun b => Value.int .u8 b.toNat) ++ Array.replicate ((Question.appendCap s.size 0 e).cut (w.tape w.drawn (.appendCap s.size 0 e)) - s.size) (Value.int .u8 0)) = c from rfl, hsh', run_freeze, Result.andThen_ok]
    rfl
  · intro j v hv
    rw [freeze_cell]
    have ho := Own.new w.drew c.toList e
    have ho' : Own w1 w.heap.size e c.toList := by simpa using ho
    rw [ho'.cell]
    have hlt := lt_of_get hv
    simp only [kc_length] at hlt
    show c.toList[0 + j]? = some v
    rw [Nat.zero_add]
    simp only [c, Array.toList_append, Array.toList_map]
    rw [List.getElem?_append_left (by simpa using hlt)]
    exact hv
  · refine ⟨?_, ?_, ?_, ?_, ?_⟩
    · unfold World.freeze; split <;> rfl
    · unfold World.freeze; split <;> rfl
    · unfold World.freeze; split <;> rfl
    · unfold World.freeze
      split
      · show w.heap.size ≤ (w.heap.push _).size; simp
      · show w.heap.size ≤ ((w.heap.push _).modify _ _).size; simp
    · intro k hk _
      rw [freeze_heap _ _ _ _ (by simp; omega)]
      exact heap_alloc_old w.drew _ k hk

theorem WL.s2b {P : Program} {N : Nat} {ops : Array Oper} {Q : Exit → Act → World → Prop} {rest : List Oper} {s : Store} {w : World} {d : Nat} {ty : TypeId} {pos : String} {after : Array Edge}
    {src dst e : TypeId} {x : Operand} {b : ByteArray} (hx : ev s x = some (.string b)) (hs : P.underlying src = some .string) (hd' : P.underlying dst = some (.slice e)) (he : P.underlying e = some (.int .u8)) (hd : Nat.blt d N = true)
    (h : ∀ g w' cap, g = w.heap.size → Rd w' g 0 (kc b.data.toList) → Ext w w' → WL P N ops Q rest ((d, .slice (some ⟨g, 0, none⟩) b.size cap) :: s) w') :
    WL P N ops Q (⟨some d, .convert src dst x, ty, pos, after, none⟩ :: rest) s w := by
  obtain ⟨w', cap, h1, h2, h3⟩ := run_s2b (P := P) e b w
  refine WL.step (v := .slice (some ⟨w.heap.size, 0, none⟩) b.size cap) (w' := w') ?_ hd (h _ w' cap rfl h2 h3)
  intro ρ hρ o ho _
  simp only [execOp, ho, hρ _ _ hx, convert, Sem.run_bind, run_underlying hs, run_underlying hd', run_underlying he, Result.andThen_ok, h1, Sem.run_pure]
end Go.Sx
