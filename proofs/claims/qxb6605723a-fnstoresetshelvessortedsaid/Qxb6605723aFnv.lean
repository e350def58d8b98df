/- FNV-1a and uvarints, plainly; bytes in memory. -/
import Derived.Test.Qxb6605723aSxI
set_option linter.unusedVariables false
set_option linter.unusedSimpArgs false
namespace Go.Sx
open Go.Pl

def fnvStep (h b : Nat) : Nat := (h ^^^ b) * 1099511628211 % 2 ^ 64
def fnvL (h : Nat) (l : List UInt8) : Nat := l.foldl (fun h b => fnvStep h b.toNat) h
theorem fnvStep_lt (h b : Nat) : fnvStep h b < 2 ^ 64 := Nat.mod_lt _ (by decide)
theorem fnvL_lt : ∀ (l : List UInt8) (h : Nat), h < 2 ^ 64 → fnvL h l < 2 ^ 64
  | [], h, hh => hh
  | b :: l, h, _ => fnvL_lt l _ (fnvStep_lt h _)
theorem foldl_take_succ (f : Nat → UInt8 → Nat) (h : Nat) (l : List UInt8) (k : Nat) (hk : k < l.length) : (l.take (k + 1)).foldl f h = f ((l.take k).foldl f h) l[k] := by
  rw [List.take_succ_eq_append_getElem hk, List.foldl_append]
  rfl
theorem fnvL_take_succ (h : Nat) (l : List UInt8) (k : Nat) (hk : k < l.length) : fnvL h (l.take (k + 1)) = fnvStep (fnvL h (l.take k)) (at8 l k) := by
  have e : at8 l k = l[k].toNat := by simp [at8, hk]
  unfold fnvL
  rw [foldl_take_succ _ _ _ _ hk, e]
theorem fnvStep_eq (h b : Nat) : (h ^^^ b) * 1099511628211 % 2 ^ IntKind.u64.bits = fnvStep h b := by
  unfold fnvStep
  rw [show IntKind.u64.bits = 64 from rfl]
theorem fnvL_append (h : Nat) (x y : List UInt8) : fnvL h (x ++ y) = fnvL (fnvL h x) y := by unfold fnvL; rw [List.foldl_append]

/-- A slice of bytes as a value. -/
def BytesAt (w : World) (a : Option Addr) (l : List UInt8) : Prop := l ≠ [] → ∃ b off, a = some ⟨b, off, none⟩ ∧ Rd w b off (kc l)
theorem BytesAt.kp {M : Nat → Prop} {w w' : World} {a : Option Addr} {l : List UInt8} (h : BytesAt w a l) (k : Kp M w w') (hn : ∀ b off, a = some ⟨b, off, none⟩ → ¬ M b) : BytesAt w' a l := fun hne => by
  obtain ⟨b, off, h1, h2⟩ := h hne
  exact ⟨b, off, h1, h2.kp k (hn b off h1)⟩
theorem BytesAt.ext {w w' : World} {a : Option Addr} {l : List UInt8} (h : BytesAt w a l) (k : Ext w w') : BytesAt w' a l := h.kp k (fun _ _ _ f => f)
theorem BytesAt.at {w : World} {a : Option Addr} {l : List UInt8} (h : BytesAt w a l) {k : Nat} (hk : k < l.length) : ∃ b off, a = some ⟨b, off, none⟩ ∧ Rd w b off (kc l) :=
  h (fun e => by rw [e] at hk; simp at hk)
theorem BytesAt.of {w : World} {b off : Nat} {l : List UInt8} (h : Rd w b off (kc l)) : BytesAt w (some ⟨b, off, none⟩) l := fun _ => ⟨b, off, rfl, h⟩
theorem BytesAt.nil (w : World) (a : Option Addr) : BytesAt w a [] := fun h => absurd rfl h

/-- Unsigned varint. -/
def uvF : Nat → Nat → List UInt8
  | 0, _ => []
  | f + 1, x => if x < 128 then [UInt8.ofNat x] else UInt8.ofNat (x % 128 + 128) :: uvF f (x / 128)
def uv (x : Nat) : List UInt8 := uvF 10 x

theorem uvF_length : ∀ (f x : Nat), (uvF f x).length ≤ f
  | 0, x => by simp [uvF]
  | f + 1, x => by
    simp only [uvF]
    split
    · simp
    · have := uvF_length f (x / 128); simp; omega

theorem or128 (x : Nat) : x % 2 ^ 8 ||| 128 = x % 128 + 128 := by
  have h := Nat.two_pow_add_eq_or_of_lt (i := 7) (b := x % 128) (Nat.mod_lt _ (by decide)) 1
  have e : x % 2 ^ 8 ||| 128 = (x % 128) ||| 128 := by
    have h1 : x % 2 ^ 8 = x % 128 + 128 * (x / 128 % 2) := by omega
    rcases Nat.mod_two_eq_zero_or_one (x / 128) with h2 | h2
    · rw [h1, h2]; simp
    · rw [h1, h2]
      have h3 : x % 128 + 128 * 1 = 2 ^ 7 * 1 ||| x % 128 := by rw [← h]; omega
      rw [h3, Nat.or_comm, ← Nat.or_assoc]
      simp [Nat.or_comm]
  rw [e, Nat.or_comm]
  have : 2 ^ 7 * 1 = 128 := by decide
  rw [this] at h
  omega

/-- The term of a name and a value. -/
def term (n v : List UInt8) : Nat := fnvL (fnvL (fnvL 14695981039346656037 (uv n.length)) n) v

theorem pow128 (f x : Nat) (h1 : 128 ≤ x) (h2 : x < 128 ^ f) : ∃ f', f = f' + 1 ∧ 0 < f' ∧ x / 128 < 128 ^ f' := by
  cases f with
  | zero => simp at h2; omega
  | succ f =>
    refine ⟨f, rfl, ?_, ?_⟩
    · cases f with
      | zero => simp at h2; omega
      | succ f => omega
    · rw [Nat.pow_succ] at h2
      exact Nat.div_lt_of_lt_mul (by rw [Nat.mul_comm]; exact h2)
end Go.Sx
