/-
  SxM: memory by whole blocks, and one lemma an operation.
-/
import Derived.Test.Qxb6605742aSxD
import Derived.Laws.CopyRow
import Derived.Laws.Append
import Derived.Laws.Strings
import Derived.Laws.Rows
import Derived.Below
set_option linter.unusedVariables false
set_option linter.unusedSimpArgs false
namespace Go.Sx

/-! ### Memory -/
def Own (w : World) (b : Nat) (e : TypeId) (c : List Value) : Prop := w.heap[b]? = some (.cells c.toArray e (0, 0))

/-- Everything but the blocks of M is as it was; nothing has gone. -/
structure Kp (M : Nat → Prop) (w w' : World) : Prop where
  os : w'.os = w.os
  tape : w'.tape = w.tape
  output : w'.output = w.output
  size : w.heap.size ≤ w'.heap.size
  block : ∀ k, k < w.heap.size → ¬ M k → w'.heap[k]? = w.heap[k]?

abbrev Ext (w w' : World) : Prop := Kp (fun _ => False) w w'

section
variable {w w' w'' : World} {b b' : Nat} {e e' : TypeId} {c c' : List Value} {M M' : Nat → Prop}

theorem Own.lt (h : Own w b e c) : b < w.heap.size := by
  rcases Nat.lt_or_ge b w.heap.size with h' | h'
  · exact h'
  · simp [Own, Array.getElem?_eq_none h'] at h

theorem Own.cell (h : Own w b e c) (i : Nat) : w.cell? ⟨b, i, none⟩ = c[i]? := by
  rw [cell_of_row w b i c.toArray e _ h]; simp

theorem Own.put (h : Own w b e c) (c' : List Value) : Own (w.setRow b c'.toArray) b e c' := setRow_heap w b _ _ e _ h

theorem setRow_other (w : World) (g : Nat) (cs : Array Value) (k : Nat) (hk : k ≠ g) : (w.setRow g cs).heap[k]? = w.heap[k]? := by
  simp only [World.setRow, Array.getElem?_modify]
  rw [if_neg (by omega)]

theorem Own.put_ne (h : Own w b e c) (hne : b ≠ b') (cs : Array Value) : Own (w.setRow b' cs) b e c := by
  unfold Own; rw [setRow_other _ _ _ _ hne]; exact h

theorem Own.alloc (h : Own w b e c) (o : Obj) : Own (w.alloc o) b e c := by
  unfold Own; rw [heap_alloc_old w o b h.lt]; exact h

theorem Own.new (w : World) (c : List Value) (e : TypeId) : Own (w.alloc (.cells c.toArray e)) w.heap.size e c := heap_alloc_new w _

theorem Own.drew (h : Own w b e c) : Own w.drew b e c := h

theorem Own.eq (h : Own w b e c) (h' : Own w b e' c') : c = c' := by
  unfold Own at h h'; rw [h] at h'; simp at h'; exact h'.1

theorem Kp.refl (M : Nat → Prop) (w : World) : Kp M w w := ⟨rfl, rfl, rfl, Nat.le_refl _, fun _ _ _ => rfl⟩
theorem Kp.trans (h : Kp M w w') (k : Kp M w' w'') : Kp M w w'' :=
  ⟨k.os.trans h.os, k.tape.trans h.tape, k.output.trans h.output, Nat.le_trans h.size k.size, fun i hi hm => (k.block i (Nat.lt_of_lt_of_le hi h.size) hm).trans (h.block i hi hm)⟩
theorem Kp.mono (h : Kp M w w') (hm : ∀ k, k < w.heap.size → M k → M' k) : Kp M' w w' := ⟨h.os, h.tape, h.output, h.size, fun k hk hn => h.block k hk fun hM => hn (hm k hk hM)⟩
theorem Kp.of_ext (h : Ext w w') : Kp M w w' := h.mono fun _ _ f => f.elim
theorem Kp.alloc (M : Nat → Prop) (w : World) (o : Obj) : Kp M w (w.alloc o) := ⟨rfl, rfl, rfl, by simp, fun k hk _ => heap_alloc_old w o k hk⟩
theorem Kp.drew (M : Nat → Prop) (w : World) : Kp M w w.drew := ⟨rfl, rfl, rfl, Nat.le_refl _, fun _ _ _ => rfl⟩
theorem Kp.put (w : World) (g : Nat) (cs : Array Value) (hg : M g) : Kp M w (w.setRow g cs) :=
  ⟨rfl, rfl, rfl, by simp [World.setRow], fun k _ hn => setRow_other w g cs k (fun e => hn (e ▸ hg))⟩
theorem Kp.own (h : Kp M w w') (ho : Own w b e c) (hn : ¬ M b) : Own w' b e c := by
  unfold Own; rw [h.block b ho.lt hn]; exact ho
theorem Kp.cell (h : Kp M w w') {v : Value} {off : Nat} (hc : w.cell? ⟨b, off, none⟩ = some v) (hn : ¬ M b) : w'.cell? ⟨b, off, none⟩ = some v := by
  have hlt := block_lt_of_cell hc
  rw [World.cell?_of_block (w := w) (h.block b hlt hn)]; exact hc
theorem Kp.below (h : Ext w w') : RowKit.Below w.heap.size w w' := ⟨h.os, h.tape, h.output, h.size, fun k hk => h.block k hk (fun f => f)⟩

end

/-- A drawn region under 'what lay there lies there still'. -/
theorem WC.drawE {P : Program} {N : Nat} {Q : Exit → Act → World → Prop} {s : Store} {w : World} {l : List Oper} {id : Nat} (L : List Nat) (F : Nat) (ord : List (Nat × Bool)) (hm : P.follows .mixedOrders = true)
    (hB : okRegion l.toArray L F ord = true) (h : Ext w w.drew → WO P N l Q (Ext w) L ord s w.drew) : WC P N Q (.region id l.toArray true) s w :=
  WC.draw (Ext w) L F ord hm hB (h (Kp.drew _ _))

/-- The cells 'vs' lie in block b from 'off' on. -/
def Rd (w : World) (b off : Nat) (vs : List Value) : Prop := ∀ j v, vs[j]? = some v → w.cell? ⟨b, off + j, none⟩ = some v

theorem Own.rd {w : World} {b : Nat} {e : TypeId} {c : List Value} (h : Own w b e c) (off : Nat) (vs : List Value) (hs : ∀ j v, vs[j]? = some v → c[off + j]? = some v) : Rd w b off vs :=
  fun j v hv => by rw [h.cell]; exact hs j v hv

theorem Rd.kp {M : Nat → Prop} {w w' : World} {b off : Nat} {vs : List Value} (h : Rd w b off vs) (k : Kp M w w') (hn : ¬ M b) : Rd w' b off vs :=
  fun j v hv => k.cell (h j v hv) hn

theorem add_lit (b o n : Nat) : Addr.add ⟨b, o, none⟩ n = ⟨b, o + n, none⟩ := Addr.add_lit b o n

/-! ### Types -/
def Sz (P : Program) (t : TypeId) (n : Nat) : Prop := (P.info? t).map (·.size) = some n
def isAggD : TypeDesc → Bool
  | .struct _ | .array _ _ => true
  | _ => false
def OneT (P : Program) (t : TypeId) : Prop := (P.underlying t).map isAggD = some false
def AggT (P : Program) (t : TypeId) : Prop := (P.underlying t).map isAggD = some true

section
variable {P : Program} {s : Store} {ty : TypeId} {w : World}

theorem run_sizeOf {t : TypeId} {n : Nat} (h : Sz P t n) (w : World) : (sizeOf t).run P w = .ok n w := by
  unfold Sz at h
  cases hq : P.info? t with
  | none => simp [hq] at h
  | some i => simp [hq] at h; simp [sizeOf, typeInfo, hq, h]

theorem run_isAgg {t : TypeId} {b : Bool} (h : (P.underlying t).map isAggD = some b) (w : World) : (isAgg t).run P w = .ok b w := by
  cases hq : P.underlying t with
  | none => simp [hq] at h
  | some d =>
    simp only [hq, Option.map_some, Option.some.injEq] at h
    unfold isAgg
    rw [Sem.run_bind, run_underlying hq w]
    subst h
    cases d <;> rfl

/-! ### Copies -/
theorem ok_move {x : Operand} {v : Value} (h : ev s x = some v) : OpOk P s (.move x) ty w v w := by
  intro ρ hρ o ho _; simp [execOp, ho, hρ _ _ h]
theorem ok_assign {x : Operand} {v : Value} (h : ev s x = some v) : OpOk P s (.assign x) ty w v w := by
  intro ρ hρ o ho _; simp [execOp, ho, hρ _ _ h]
theorem ok_pickT {c x y : Operand} {v : Value} (hc : ev s c = some (.bool true)) (h : ev s x = some v) : OpOk P s (.pick c x y) ty w v w := by
  intro ρ hρ o ho _; simp [execOp, ho, hρ _ _ h, hρ _ _ hc, asBool]
theorem ok_pickF {c x y : Operand} {v : Value} (hc : ev s c = some (.bool false)) (h : ev s y = some v) : OpOk P s (.pick c x y) ty w v w := by
  intro ρ hρ o ho _; simp [execOp, ho, hρ _ _ h, hρ _ _ hc, asBool]
theorem ok_nilCheck {x : Operand} {a : Addr} (h : ev s x = some (.pointer (some a))) : OpOk P s (.nilCheck x) ty w (.pointer (some a)) w := by
  intro ρ hρ o ho _; simp [execOp, ho, hρ _ _ h]
theorem ok_extract {x : Operand} {vs : Array Value} {i : Nat} {v : Value} (h : ev s x = some (.tuple vs)) (hv : vs[i]? = some v) : OpOk P s (.extract x i) ty w v w := by
  intro ρ hρ o ho _; simp [execOp, ho, hρ _ _ h, Instr.extract, hv]
theorem ok_not {x : Operand} {t : TypeId} {b : Bool} (h : ev s x = some (.bool b)) : OpOk P s (.unOp .not t x) ty w (.bool (!b)) w := by
  intro ρ hρ o ho _; simp [execOp, ho, hρ _ _ h, Op.unary]

/-! ### Integers -/
theorem beqI (a b : Int) : (a == b) = decide (a = b) := by by_cases h : a = b <;> simp [h]
theorem beqL (a b : List UInt8) : (a == b) = decide (a = b) := by by_cases h : a = b <;> simp [h]
section
variable {x y : Operand} {t t' : TypeId} {k : IntKind} {a b : Int}
theorem ok_lss (hx : ev s x = some (.int k a)) (hy : ev s y = some (.int k b)) : OpOk P s (.binOp .lss t x y t') ty w (.bool (decide (a < b))) w := by
  intro ρ hρ o ho _; simp [execOp, ho, hρ _ _ hx, hρ _ _ hy, eqGuard_at_int, binOp_lss]
theorem ok_leq (hx : ev s x = some (.int k a)) (hy : ev s y = some (.int k b)) : OpOk P s (.binOp .leq t x y t') ty w (.bool (decide (a ≤ b))) w := by
  intro ρ hρ o ho _; simp [execOp, ho, hρ _ _ hx, hρ _ _ hy, eqGuard_at_int, binOp_leq]
theorem ok_gtr (hx : ev s x = some (.int k a)) (hy : ev s y = some (.int k b)) : OpOk P s (.binOp .gtr t x y t') ty w (.bool (decide (b < a))) w := by
  intro ρ hρ o ho _; simp [execOp, ho, hρ _ _ hx, hρ _ _ hy, eqGuard_at_int, binOp_gtr]
theorem ok_geq (hx : ev s x = some (.int k a)) (hy : ev s y = some (.int k b)) : OpOk P s (.binOp .geq t x y t') ty w (.bool (decide (b ≤ a))) w := by
  intro ρ hρ o ho _; simp [execOp, ho, hρ _ _ hx, hρ _ _ hy, eqGuard_at_int, binOp_geq]
theorem ok_eql (hx : ev s x = some (.int k a)) (hy : ev s y = some (.int k b)) : OpOk P s (.binOp .eql t x y t') ty w (.bool (decide (a = b))) w := by
  intro ρ hρ o ho _; simp [execOp, ho, hρ _ _ hx, hρ _ _ hy, eqGuard_at_int, binOp_eql, beqI]
theorem ok_neq (hx : ev s x = some (.int k a)) (hy : ev s y = some (.int k b)) : OpOk P s (.binOp .neq t x y t') ty w (.bool (!decide (a = b))) w := by
  intro ρ hρ o ho _; simp [execOp, ho, hρ _ _ hx, hρ _ _ hy, eqGuard_at_int, binOp_neq, bne, beqI]
theorem ok_addW (hx : ev s x = some (.int k a)) (hy : ev s y = some (.int k b)) : OpOk P s (.binOp .add t x y t') ty w (.int k (k.wrap (a + b))) w := by
  intro ρ hρ o ho _; simp [execOp, ho, hρ _ _ hx, hρ _ _ hy, eqGuard_at_int, binOp_add, Op.intArith]
theorem ok_subW (hx : ev s x = some (.int k a)) (hy : ev s y = some (.int k b)) : OpOk P s (.binOp .sub t x y t') ty w (.int k (k.wrap (a - b))) w := by
  intro ρ hρ o ho _; simp [execOp, ho, hρ _ _ hx, hρ _ _ hy, eqGuard_at_int, binOp_sub, Op.intArith]
theorem ok_mulW (hx : ev s x = some (.int k a)) (hy : ev s y = some (.int k b)) : OpOk P s (.binOp .mul t x y t') ty w (.int k (k.wrap (a * b))) w := by
  intro ρ hρ o ho _; simp [execOp, ho, hρ _ _ hx, hρ _ _ hy, eqGuard_at_int, binOp_mul, Op.intArith]
theorem ok_quoW (hx : ev s x = some (.int k a)) (hy : ev s y = some (.int k b)) (h0 : b ≠ 0) : OpOk P s (.binOp .quo t x y t') ty w (.int k (k.wrap (a.tdiv b))) w := by
  intro ρ hρ o ho _; simp [execOp, ho, hρ _ _ hx, hρ _ _ hy, eqGuard_at_int, binOp_quo, Op.intDiv, h0]
theorem ok_xor (hx : ev s x = some (.int k a)) (hy : ev s y = some (.int k b)) : OpOk P s (.binOp .xor t x y t') ty w (.int k (k.wrap ((BitVec.ofInt k.bits a ^^^ BitVec.ofInt k.bits b).toNat))) w := by
  intro ρ hρ o ho _; simp [execOp, ho, hρ _ _ hx, hρ _ _ hy, eqGuard_at_int, binOp_xor, Op.intBits]
theorem ok_or (hx : ev s x = some (.int k a)) (hy : ev s y = some (.int k b)) : OpOk P s (.binOp .or t x y t') ty w (.int k (k.wrap ((BitVec.ofInt k.bits a ||| BitVec.ofInt k.bits b).toNat))) w := by
  intro ρ hρ o ho _; simp [execOp, ho, hρ _ _ hx, hρ _ _ hy, eqGuard_at_int, binOp_or, Op.intBits]
theorem ok_shr {k' : IntKind} (n : Nat) (hx : ev s x = some (.int k a)) (hy : ev s y = some (.int k' b)) (hb : b = n) (hn : n ≤ k.bits) : OpOk P s (.binOp .shr t x y t') ty w (.int k (a.fdiv (2 ^ n))) w := by
  intro ρ hρ o ho _
  subst hb
  have h1 : ¬ ((n : Int) < 0) := by omega
  have h2 : min n k.bits = n := by omega
  simp [execOp, ho, hρ _ _ hx, hρ _ _ hy, eqGuard_at_int, binOp_shr, Op.shift, h1, h2]
theorem ok_shl {k' : IntKind} (n : Nat) (hx : ev s x = some (.int k a)) (hy : ev s y = some (.int k' b)) (hb : b = n) (hn : n ≤ k.bits) : OpOk P s (.binOp .shl t x y t') ty w (.int k (k.wrap (a * 2 ^ n))) w := by
  intro ρ hρ o ho _
  subst hb
  have h1 : ¬ ((n : Int) < 0) := by omega
  have h2 : min n k.bits = n := by omega
  simp [execOp, ho, hρ _ _ hx, hρ _ _ hy, eqGuard_at_int, binOp_shl, Op.shift, h1, h2]

theorem wrap_i64 {n : Int} (h1 : -9223372036854775808 ≤ n) (h2 : n ≤ 9223372036854775807) : IntKind.i64.wrap n = n := by
  simp only [IntKind.wrap, IntKind.bits, IntKind.signed]
  simp
  omega
theorem wrap_u64 {n : Int} (h1 : 0 ≤ n) (h2 : n ≤ 18446744073709551615) : IntKind.u64.wrap n = n := by
  simp only [IntKind.wrap, IntKind.bits, IntKind.signed]
  simp
  omega
theorem wrap_u32 {n : Int} (h1 : 0 ≤ n) (h2 : n ≤ 4294967295) : IntKind.u32.wrap n = n := by
  simp only [IntKind.wrap, IntKind.bits, IntKind.signed]
  simp
  omega
theorem wrap_u8 {n : Int} (h1 : 0 ≤ n) (h2 : n ≤ 255) : IntKind.u8.wrap n = n := by
  simp only [IntKind.wrap, IntKind.bits, IntKind.signed]
  simp
  omega

/-- Sums of int whose result is known and fits. -/
theorem ok_add (c : Int) (hx : ev s x = some (.int .i64 a)) (hy : ev s y = some (.int .i64 b)) (hc : a + b = c) (h1 : -9223372036854775808 ≤ c) (h2 : c ≤ 9223372036854775807) :
    OpOk P s (.binOp .add t x y t') ty w (.int .i64 c) w := by
  have := ok_addW (P := P) (t := t) (t' := t') (ty := ty) (w := w) hx hy
  rw [hc, wrap_i64 h1 h2] at this; exact this
theorem ok_sub (c : Int) (hx : ev s x = some (.int .i64 a)) (hy : ev s y = some (.int .i64 b)) (hc : a - b = c) (h1 : -9223372036854775808 ≤ c) (h2 : c ≤ 9223372036854775807) :
    OpOk P s (.binOp .sub t x y t') ty w (.int .i64 c) w := by
  have := ok_subW (P := P) (t := t) (t' := t') (ty := ty) (w := w) hx hy
  rw [hc, wrap_i64 h1 h2] at this; exact this
theorem ok_mul (c : Int) (hx : ev s x = some (.int .i64 a)) (hy : ev s y = some (.int .i64 b)) (hc : a * b = c) (h1 : -9223372036854775808 ≤ c) (h2 : c ≤ 9223372036854775807) :
    OpOk P s (.binOp .mul t x y t') ty w (.int .i64 c) w := by
  have := ok_mulW (P := P) (t := t) (t' := t') (ty := ty) (w := w) hx hy
  rw [hc, wrap_i64 h1 h2] at this; exact this
end

theorem run_equal_bool {t : TypeId} (a b : Bool) (hu : P.underlying t = some .bool) (w : World) : (Op.equal t (.bool a) (.bool b)).run P w = .ok (a == b) w := by
  have h : ∀ d, (Op.equalIn (d + 1) t (.bool a) (.bool b)).run P w = .ok (a == b) w := fun d => by simp [Op.equalIn, run_underlying hu]
  exact h 9999

theorem ok_eqlBool {x y : Operand} {t t' : TypeId} {a b : Bool} (hx : ev s x = some (.bool a)) (hy : ev s y = some (.bool b)) (hu : P.underlying t = some .bool) :
    OpOk P s (.binOp .eql t x y t') ty w (.bool (a == b)) w := by
  intro ρ hρ o ho _
  have e : binOp .eql t (.bool a) (.bool b) = (do pure (.bool (← Op.equal t (.bool a) (.bool b)))) := rfl
  simp only [execOp, ho, hρ _ _ hx, hρ _ _ hy, eqGuard_at_bool, e, Sem.run_bind, Sem.run_pure, Result.andThen_ok, run_equal_bool a b hu]
theorem ok_neqBool {x y : Operand} {t t' : TypeId} {a b : Bool} (hx : ev s x = some (.bool a)) (hy : ev s y = some (.bool b)) (hu : P.underlying t = some .bool) :
    OpOk P s (.binOp .neq t x y t') ty w (.bool (!(a == b))) w := by
  intro ρ hρ o ho _
  have e : binOp .neq t (.bool a) (.bool b) = (do pure (.bool (!(← Op.equal t (.bool a) (.bool b))))) := rfl
  simp only [execOp, ho, hρ _ _ hx, hρ _ _ hy, eqGuard_at_bool, e, Sem.run_bind, Sem.run_pure, Result.andThen_ok, run_equal_bool a b hu]

theorem ok_convInt {src dst : TypeId} {x : Operand} {k k' : IntKind} {n : Int} (hx : ev s x = some (.int k n)) (hs : (P.underlying src).isSome = true) (hd : P.underlying dst = some (.int k')) :
    OpOk P s (.convert src dst x) ty w (.int k' (k'.wrap n)) w := by
  intro ρ hρ o ho _
  obtain ⟨d, hd'⟩ := Option.isSome_iff_exists.mp hs
  simp [execOp, ho, hρ _ _ hx, convert, run_underlying hd', run_underlying hd, Conv.intToInt]

/-! ### Strings -/
section
variable {x y : Operand} {t t' : TypeId} {a b : ByteArray}
theorem ok_eqlS (hx : ev s x = some (.string a)) (hy : ev s y = some (.string b)) : OpOk P s (.binOp .eql t x y t') ty w (.bool (decide (a.toList = b.toList))) w := by
  intro ρ hρ o ho _
  simp only [execOp, ho, hρ _ _ hx, hρ _ _ hy, eqGuard_at_string, binOp_string_eql, Sem.run_bind, Sem.run_pure, Result.andThen_ok, beqL]
theorem ok_neqS (hx : ev s x = some (.string a)) (hy : ev s y = some (.string b)) : OpOk P s (.binOp .neq t x y t') ty w (.bool (!decide (a.toList = b.toList))) w := by
  intro ρ hρ o ho _
  simp only [execOp, ho, hρ _ _ hx, hρ _ _ hy, eqGuard_at_string, binOp_string_neq, Sem.run_bind, Sem.run_pure, Result.andThen_ok, beqL]
theorem ok_lssS (hx : ev s x = some (.string a)) (hy : ev s y = some (.string b)) : OpOk P s (.binOp .lss t x y t') ty w (.bool (Op.bytesLess a.toList b.toList)) w := by
  intro ρ hρ o ho _
  simp [execOp, ho, hρ _ _ hx, hρ _ _ hy, eqGuard_at_string, binOp, Op.stringOp]
theorem ok_geqS (hx : ev s x = some (.string a)) (hy : ev s y = some (.string b)) : OpOk P s (.binOp .geq t x y t') ty w (.bool (!Op.bytesLess a.toList b.toList)) w := by
  intro ρ hρ o ho _
  simp [execOp, ho, hρ _ _ hx, hρ _ _ hy, eqGuard_at_string, binOp, Op.stringOp]
end

/-! ### Lengths -/
theorem ok_lenSlice {x : Operand} {t e : TypeId} {a : Option Addr} {n c : Nat} (hx : ev s x = some (.slice a n c)) (hu : P.underlying t = some (.slice e)) :
    OpOk P s (.call ⟨.builtin .len, #[x], #[t]⟩) ty w (.int .i64 n) w := by
  intro ρ hρ o ho ht
  simp [execOp, ho, resolve, invoke, builtin, Builtin.len_, run_underlying hu, hρ _ _ hx, goInt]
theorem ok_lenString {x : Operand} {t : TypeId} {b : ByteArray} (hx : ev s x = some (.string b)) (hu : P.underlying t = some .string) :
    OpOk P s (.call ⟨.builtin .len, #[x], #[t]⟩) ty w (.int .i64 b.size) w := by
  intro ρ hρ o ho ht
  simp [execOp, ho, resolve, invoke, builtin, Builtin.len_, run_underlying hu, hρ _ _ hx, goInt]

/-! ### Addresses -/
/-- Field i of struct type t lies at offset 'off' (and takes up cells). -/
def Fld (P : Program) (t : TypeId) (i off : Nat) : Prop :=
  ∃ fs f n, P.underlying t = some (.struct fs) ∧ fs[i]? = some f ∧ f.offset = off ∧ Sz P f.type n ∧ n ≠ 0

theorem ok_field {x : Operand} {t : TypeId} {i off b o : Nat} (hx : ev s x = some (.pointer (some ⟨b, o, none⟩))) (hf : Fld P t i off) :
    OpOk P s (.fieldAddr t x i) ty w (.pointer (some ⟨b, o + off, none⟩)) w := by
  intro ρ hρ op ho _
  obtain ⟨fs, f, n, hu, hi, rfl, hsz, hn⟩ := hf
  simp [execOp, ho, hρ _ _ hx, Instr.fieldAt, run_underlying hu, hi, Instr.sureAddr, fieldPlace, run_sizeOf hsz, hn, add_lit]

theorem ok_indexS {x i : Operand} {t e : TypeId} {b o len cap m : Nat} {k : IntKind} {n : Int} (j : Nat) (hx : ev s x = some (.slice (some ⟨b, o, none⟩) len cap)) (hi : ev s i = some (.int k n))
    (hn : n = j) (hj : j < len) (hu : P.underlying t = some (.slice e)) (hsz : Sz P e m) :
    OpOk P s (.indexAddr t x i) ty w (.pointer (some ⟨b, o + j * m, none⟩)) w := by
  intro ρ hρ op ho _
  subst hn
  simp [execOp, ho, hρ _ _ hx, hρ _ _ hi, Instr.indexAt, asIntOf, run_underlying hu, run_sizeOf hsz, hj, add_lit]

theorem ok_indexA {x i : Operand} {t e : TypeId} {b o len m : Nat} {k : IntKind} {n : Int} (j : Nat) (hx : ev s x = some (.pointer (some ⟨b, o, none⟩))) (hi : ev s i = some (.int k n))
    (hn : n = j) (hj : j < len) (hu : P.underlying t = some (.array len e)) (hsz : Sz P e m) :
    OpOk P s (.indexAddr t x i) ty w (.pointer (some ⟨b, o + j * m, none⟩)) w := by
  intro ρ hρ op ho _
  subst hn
  simp [execOp, ho, hρ _ _ hx, hρ _ _ hi, Instr.indexAt, asIntOf, run_underlying hu, run_sizeOf hsz, hj, add_lit, Instr.sureAddr]

/-! ### Loads, stores -/
theorem ok_load {x : Operand} {t : TypeId} {a : Addr} {v : Value} (hx : ev s x = some (.pointer (some a))) (ht : OneT P t) (hc : w.cell? a = some v) : OpOk P s (.load t x) ty w v w := by
  intro ρ hρ op ho _
  simp [execOp, ho, hρ _ _ hx, Instr.loadAt, Instr.sureAddr, loadVar, run_isAgg ht, hc]

theorem run_loadCells_rd {b off : Nat} {vs : List Value} (h : Rd w b off vs) : (loadCells ⟨b, off, none⟩ vs.length).run P w = .ok vs.toArray w :=
  run_loadCells_list (P := P) w ⟨b, off, none⟩ vs (fun j v hv => by rw [add_lit]; exact h j v hv)

theorem ok_loadN {x : Operand} {t : TypeId} {b off n : Nat} {vs : List Value} (hx : ev s x = some (.pointer (some ⟨b, off, none⟩))) (ht : AggT P t) (hsz : Sz P t n) (hn : vs.length = n) (hc : Rd w b off vs) :
    OpOk P s (.load t x) ty w (.agg vs.toArray) w := by
  intro ρ hρ op ho _
  subst hn
  simp [execOp, ho, hρ _ _ hx, Instr.loadAt, Instr.sureAddr, loadVar, run_isAgg ht, run_sizeOf hsz, run_loadCells_rd hc]

def splice (c : List Value) (off : Nat) (vs : List Value) : List Value := c.take off ++ vs ++ c.drop (off + vs.length)

theorem run_storeCells_own {b off : Nat} {e : TypeId} {c vs : List Value} (h : Own w b e c) (hl : off + vs.length ≤ c.length) (h1 : ∀ v ∈ vs, v.oneCell' = true) :
    (storeCells ⟨b, off, none⟩ vs).run P w = .ok () (w.setRow b (splice c off vs).toArray) := by
  have := run_storeCells_at P b off e vs 0 c.toArray w h (by simpa using hl) h1
  simpa [splice] using this

theorem ok_store {x y : Operand} {t e : TypeId} {b off n : Nat} {c : List Value} {v : Value} (hx : ev s x = some (.pointer (some ⟨b, off, none⟩))) (hy : ev s y = some v) (hsz : Sz P t n)
    (hn : v.cells.toList.length = n) (ho : Own w b e c) (hl : off + v.cells.toList.length ≤ c.length) (h1 : ∀ u ∈ v.cells.toList, u.oneCell' = true) :
    OpSkip P s (.store t x y) ty w (w.setRow b (splice c off v.cells.toList).toArray) := by
  intro ρ hρ op hop _
  subst hn
  have h2 : v.cells.size = v.cells.toList.length := by simp
  simp only [execOp, hop, hρ _ _ hx, hρ _ _ hy, Instr.storeAt, Instr.sureAddr, storeVar, Sem.run_bind, Sem.run_pure, Result.andThen_ok, run_sizeOf hsz, h2, ne_eq, not_true, if_false, run_storeCells_own ho hl h1]

/-! ### New memory -/
theorem ok_box {x : Operand} {t : TypeId} {v : Value} (hx : ev s x = some v) :
    OpOk P s (.box t x) ty w (.pointer (some ⟨w.heap.size, 0, none⟩)) (w.alloc (.cells v.cells.toList.toArray t)) := by
  intro ρ hρ op ho _
  simp [execOp, ho, hρ _ _ hx, Instr.box, newVar, newRow]

def ZeroT (P : Program) (t : TypeId) (z : Value) : Prop := (P.info? t).bind (·.zero) = some z

theorem run_zero {t : TypeId} {z : Value} (h : ZeroT P t z) (w : World) : (zeroValue t).run P w = .ok z w := by
  unfold ZeroT at h
  cases hq : P.info? t with
  | none => simp [hq] at h
  | some i => simp [hq] at h; simp [zeroValue, typeInfo, hq, h]

theorem ok_alloc {t : TypeId} {z : Value} (hz : ZeroT P t z) :
    OpOk P s (.alloc t) ty w (.pointer (some ⟨w.heap.size, 0, none⟩)) (w.alloc (.cells z.cells.toList.toArray t)) := by
  intro ρ hρ op ho _
  simp [execOp, ho, Instr.alloc, run_zero hz, newVar, newRow]

theorem ok_makeFunc {f : Fn} {fs cs : Array Operand} {us vs : List Value} (hf : evs s fs.toList = some us) (hc : evs s cs.toList = some vs) :
    OpOk P s (.makeFunc f fs cs) ty w (.func f us.toArray vs.toArray) w := by
  intro ρ hρ op ho _
  have e1 : fs.map ρ = us.toArray := by apply Array.ext'; simpa using hρ.evs _ _ hf
  have e2 : cs.map ρ = vs.toArray := by apply Array.ext'; simpa using hρ.evs _ _ hc
  simp [execOp, ho, Instr.makeFunc, e1, e2]

/-! ### Calls -/
def IsFn (P : Program) (f : FuncId) : Prop := ∃ fn, P.funcs[f]? = some fn ∧ (fn.name == "runtime.NumGoroutine") = false ∧ fn.body.isNone = false

theorem run_callFunc {f : FuncId} (h : IsFn P f) (args : Array Value) (w : World) : (callFunc f args).run P w = .ok (.enter f args) w := by
  obtain ⟨fn, h1, h2, h3⟩ := h
  have h2' : ¬ (fn.name = "runtime.NumGoroutine") := fun e => by rw [e] at h2; simp at h2
  have h3' : ¬ (fn.body = none) := fun e => by rw [e] at h3; simp at h3
  simp [callFunc, h1, h2', h3']

theorem ok_call {fo : Operand} {f : FuncId} {as : Array Operand} {ts : Array TypeId} {vs : List Value} {cap : Array Value} (hf : ev s fo = some (.func (.func f) #[] cap)) (ha : evs s as.toList = some vs)
    (h : IsFn P f) : OpCall P s (.call ⟨.value fo, as, ts⟩) ty w f (vs.toArray ++ cap) := by
  intro ρ hρ op ho _
  have e1 : as.map ρ = vs.toArray := by apply Array.ext'; simpa using hρ.evs _ _ ha
  simp [execOp, ho, resolve, hρ _ _ hf, Deferred.ofValue, e1, invoke, run_callFunc h]

/-- A plain call of a named function: no captured variables. -/
theorem ok_callF {f : FuncId} {as : Array Operand} {ts : Array TypeId} {vs : List Value} (ha : evs s as.toList = some vs) (h : IsFn P f) :
    OpCall P s (.call ⟨.value (.func f), as, ts⟩) ty w f vs.toArray := by
  have := ok_call (P := P) (ty := ty) (w := w) (ts := ts) (fo := .func f) (cap := #[]) rfl ha h
  simpa using this

end
end Go.Sx
