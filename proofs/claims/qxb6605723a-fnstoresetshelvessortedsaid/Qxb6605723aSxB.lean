/-
  SxB: unsigned words out of bytes.
-/
import Derived.Test.Qxb6605723aDat
set_option linter.unusedVariables false
set_option linter.unusedSimpArgs false
namespace Go.Sx
section
variable {P : Program} {s : Store} {ty : TypeId} {w : World} {x y : Operand} {t t' : TypeId} {k : IntKind}

theorem wrap_uns (hk : k.signed = false) (n : Nat) (h : n < 2 ^ k.bits) : k.wrap (n : Int) = n := by
  simp only [IntKind.wrap, hk, Bool.false_and, Bool.false_eq_true, if_false]
  have : ((2 : Int) ^ k.bits) = ((2 ^ k.bits : Nat) : Int) := by push_cast; rfl
  rw [this, ← Int.natCast_emod, Nat.mod_eq_of_lt h]

theorem ok_orN (j : Nat) {a b : Nat} (hk : k.signed = false) (hx : ev s x = some (.int k (a : Nat))) (hy : ev s y = some (.int k ((b * 2 ^ j : Nat)))) (ha : a < 2 ^ j) (hb : a + b * 2 ^ j < 2 ^ k.bits) :
    OpOk P s (.binOp .or t x y t') ty w (.int k ((a + b * 2 ^ j : Nat))) w := by
  have h := ok_or (P := P) (t := t) (t' := t') (ty := ty) (w := w) hx hy
  have e1 : (BitVec.ofInt k.bits (a : Int)).toNat = a := by
    rw [BitVec.ofInt_natCast, BitVec.toNat_ofNat, Nat.mod_eq_of_lt (by omega)]
  have e2 : (BitVec.ofInt k.bits ((b * 2 ^ j : Nat) : Int)).toNat = b * 2 ^ j := by
    rw [BitVec.ofInt_natCast, BitVec.toNat_ofNat, Nat.mod_eq_of_lt (by omega)]
  have e3 : a ||| b * 2 ^ j = a + b * 2 ^ j := by
    have := Nat.two_pow_add_eq_or_of_lt ha b
    rw [Nat.or_comm, Nat.mul_comm b, ← this]; omega
  rw [BitVec.toNat_or, e1, e2, e3, wrap_uns hk _ hb] at h
  exact h

theorem ok_shlN (n : Nat) {k' : IntKind} {a : Nat} {c : Int} (hk : k.signed = false) (hx : ev s x = some (.int k (a : Nat))) (hy : ev s y = some (.int k' c)) (hc : c = n) (hn : n ≤ k.bits) (hb : a * 2 ^ n < 2 ^ k.bits) :
    OpOk P s (.binOp .shl t x y t') ty w (.int k ((a * 2 ^ n : Nat))) w := by
  have h := ok_shl (P := P) (t := t) (t' := t') (ty := ty) (w := w) n hx hy hc hn
  have : (a : Int) * 2 ^ n = ((a * 2 ^ n : Nat) : Int) := by push_cast; rfl
  rw [this, wrap_uns hk _ hb] at h
  exact h

theorem ok_convN {src dst : TypeId} {k' : IntKind} {n : Nat} (hx : ev s x = some (.int k (n : Nat))) (hs : (P.underlying src).isSome = true) (hd : P.underlying dst = some (.int k')) (hk : k'.signed = false) (hb : n < 2 ^ k'.bits) :
    OpOk P s (.convert src dst x) ty w (.int k' (n : Nat)) w := by
  have h := ok_convInt (P := P) (ty := ty) (w := w) hx hs hd
  rw [wrap_uns hk _ hb] at h
  exact h
end

/-- A byte of a row of bytes. -/
def at8 (l : List UInt8) (j : Nat) : Nat := (l.getD j 0).toNat
theorem at8_lt (l : List UInt8) (j : Nat) : at8 l j < 256 := UInt8.toNat_lt _
theorem rd_byte {w : World} {b off : Nat} {l : List UInt8} (h : Rd w b off (kc l)) (j : Nat) (hj : j < l.length) : w.cell? ⟨b, off + j * 1, none⟩ = some (.int .u8 (at8 l j : Nat)) := by
  rw [Nat.mul_one]
  refine h j _ ?_
  rw [kc_get l j hj]
  simp [at8, hj]

def be8 (l : List UInt8) : Nat := at8 l 7 + at8 l 6 * 2 ^ 8 + at8 l 5 * 2 ^ 16 + at8 l 4 * 2 ^ 24 + at8 l 3 * 2 ^ 32 + at8 l 2 * 2 ^ 40 + at8 l 1 * 2 ^ 48 + at8 l 0 * 2 ^ 56
def be4 (l : List UInt8) : Nat := at8 l 3 + at8 l 2 * 2 ^ 8 + at8 l 1 * 2 ^ 16 + at8 l 0 * 2 ^ 24
end Go.Sx
namespace Go.Sx
open Go.Pl
theorem rd_drop {w : World} {b off : Nat} {l : List UInt8} (h : Rd w b off (kc l)) (n : Nat) : Rd w b (off + n * 1) (kc (l.drop n)) := by
  rw [Nat.mul_one]
  refine h.sub n fun j v hv => ?_
  simp only [kc, List.getElem?_map, List.getElem?_drop] at hv ⊢
  exact hv

theorem val_append : ∀ (x y : List UInt8), val (x ++ y) = val x * 256 ^ y.length + val y
  | [], y => by simp [val]
  | b :: x, y => by
    simp only [List.cons_append, val, val_append x y, List.length_append, Nat.pow_add, Nat.add_mul, Nat.mul_assoc]
    omega
theorem val8 : ∀ (l : List UInt8), l.length = 8 → val l = be8 l
  | [x0, x1, x2, x3, x4, x5, x6, x7], _ => by
    simp only [val, be8, at8, List.getD_cons_zero, List.getD_cons_succ, List.length_cons, List.length_nil, Nat.reduceAdd, Nat.reducePow, Nat.mul_one]
    generalize x0.toNat = n0; generalize x1.toNat = n1; generalize x2.toNat = n2; generalize x3.toNat = n3
    generalize x4.toNat = n4; generalize x5.toNat = n5; generalize x6.toNat = n6; generalize x7.toNat = n7
    omega
theorem val4 : ∀ (l : List UInt8), l.length = 4 → val l = be4 l
  | [x0, x1, x2, x3], _ => by
    simp only [val, be4, at8, List.getD_cons_zero, List.getD_cons_succ, List.length_cons, List.length_nil, Nat.reduceAdd, Nat.reducePow, Nat.mul_one]
    generalize x0.toNat = n0; generalize x1.toNat = n1; generalize x2.toNat = n2; generalize x3.toNat = n3
    omega
theorem at8_take (l : List UInt8) (n j : Nat) (h : j < n) : at8 (l.take n) j = at8 l j := by
  simp [at8, List.getD, List.getElem?_take, h]
theorem be8_take (l : List UInt8) : be8 (l.take 8) = be8 l := by
  unfold be8
  rw [at8_take l 8 0 (by omega), at8_take l 8 1 (by omega), at8_take l 8 2 (by omega), at8_take l 8 3 (by omega), at8_take l 8 4 (by omega), at8_take l 8 5 (by omega), at8_take l 8 6 (by omega), at8_take l 8 7 (by omega)]
theorem val_words (a : List UInt8) (ha : a.length = 20) : val a = be8 (a.drop 0) * 2 ^ 96 + be8 (a.drop 8) * 2 ^ 32 + be4 (a.drop 16) := by
  have e1 : val a = val (a.take 8 ++ a.drop 8) := by rw [List.take_append_drop]
  have e2 : val (a.drop 8) = val ((a.drop 8).take 8 ++ (a.drop 8).drop 8) := by rw [List.take_append_drop]
  have l1 : (a.drop 8).length = 12 := by rw [List.length_drop]; omega
  have l2 : ((a.drop 8).drop 8).length = 4 := by rw [List.length_drop]; omega
  rw [e1, val_append, e2, val_append, l1, l2, val8 _ (by rw [List.length_take]; omega), val8 _ (by rw [List.length_take]; omega), val4 _ l2, be8_take, be8_take, List.drop_drop, List.drop_zero]
  have p1 : (256 : Nat) ^ 12 = 2 ^ 96 := by decide
  have p2 : (256 : Nat) ^ 4 = 2 ^ 32 := by decide
  rw [p1, p2, Nat.add_assoc]
theorem be8_lt (l : List UInt8) : be8 l < 2 ^ 64 := by
  have h0 := at8_lt l 0; have h1 := at8_lt l 1; have h2 := at8_lt l 2; have h3 := at8_lt l 3
  have h4 := at8_lt l 4; have h5 := at8_lt l 5; have h6 := at8_lt l 6; have h7 := at8_lt l 7
  unfold be8; omega
theorem be4_lt (l : List UInt8) : be4 l < 2 ^ 32 := by
  have h0 := at8_lt l 0; have h1 := at8_lt l 1; have h2 := at8_lt l 2; have h3 := at8_lt l 3
  unfold be4; omega
theorem cmp_words (a b : List UInt8) (ha : a.length = 20) (hb : b.length = 20) :
    (be8 (a.drop 0) ≠ be8 (b.drop 0) → cmpK a b = cmpN (be8 (a.drop 0)) (be8 (b.drop 0))) ∧
    (be8 (a.drop 0) = be8 (b.drop 0) → be8 (a.drop 8) ≠ be8 (b.drop 8) → cmpK a b = cmpN (be8 (a.drop 8)) (be8 (b.drop 8))) ∧
    (be8 (a.drop 0) = be8 (b.drop 0) → be8 (a.drop 8) = be8 (b.drop 8) → cmpK a b = cmpN (be4 (a.drop 16)) (be4 (b.drop 16))) := by
  rw [cmpK_val a b (by omega), val_words a ha, val_words b hb]
  have h1 := be8_lt (a.drop 0); have h2 := be8_lt (b.drop 0); have h3 := be8_lt (a.drop 8); have h4 := be8_lt (b.drop 8)
  have h5 := be4_lt (a.drop 16); have h6 := be4_lt (b.drop 16)
  generalize be8 (a.drop 0) = x at *; generalize be8 (b.drop 0) = x' at *
  generalize be8 (a.drop 8) = y at *; generalize be8 (b.drop 8) = y' at *
  generalize be4 (a.drop 16) = z at *; generalize be4 (b.drop 16) = z' at *
  unfold cmpN
  refine ⟨fun h => ?_, fun h h' => ?_, fun h h' => ?_⟩
  · by_cases c : x < x'
    · rw [if_pos (by omega), if_pos c]
    · rw [if_neg (by omega), if_neg c, if_pos (by omega), if_pos (by omega)]
  · by_cases c : y < y'
    · rw [if_pos (by omega), if_pos c]
    · rw [if_neg (by omega), if_neg c, if_pos (by omega), if_pos (by omega)]
  · by_cases c : z < z'
    · rw [if_pos (by omega), if_pos c]
    · by_cases c2 : z' < z
      · rw [if_neg (by omega), if_neg c, if_pos (by omega), if_pos c2]
      · rw [if_neg (by omega), if_neg c, if_neg (by omega), if_neg c2]
end Go.Sx
namespace Go.Sx
theorem neqT {a b : Int} (h : (!decide (a = b)) = true) : a ≠ b := by simpa using h
theorem neqF {a b : Int} (h : (!decide (a = b)) = false) : a = b := by simpa using h
end Go.Sx
