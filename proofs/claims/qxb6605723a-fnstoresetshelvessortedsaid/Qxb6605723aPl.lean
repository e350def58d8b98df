/- Plain facts: no Go in sight. -/
import GoSem.Op.String
namespace Go.Pl

def cmpK : List UInt8 → List UInt8 → Int
  | a :: x, b :: y => if a < b then -1 else if b < a then 1 else cmpK x y
  | _, _ => 0

theorem cmpK_drop {a b : List UInt8} {k : Nat} (ha : k < a.length) (hb : k < b.length) :
    cmpK (a.drop k) (b.drop k) = if a[k] < b[k] then -1 else if b[k] < a[k] then 1 else cmpK (a.drop (k + 1)) (b.drop (k + 1)) := by
  rw [List.drop_eq_getElem_cons ha, List.drop_eq_getElem_cons hb, cmpK]

theorem lt_iff (a b : UInt8) : (a < b) ↔ ((a.toNat : Int) < b.toNat) := by
  rw [UInt8.lt_iff_toNat_lt]; omega

/-- The order of pairs, as zzLessPair has it. -/
def ltP (a x b y : List UInt8) : Bool := if cmpK a b = 0 then Op.bytesLess x y else decide (cmpK a b < 0)
end Go.Pl
namespace Go.Pl

def cmpN (a b : Nat) : Int := if a < b then -1 else if b < a then 1 else 0

def val : List UInt8 → Nat
  | [] => 0
  | b :: l => b.toNat * 256 ^ l.length + val l

theorem val_lt : ∀ l : List UInt8, val l < 256 ^ l.length
  | [] => by simp [val]
  | b :: l => by
    have h := val_lt l
    have hb : b.toNat < 256 := UInt8.toNat_lt b
    have h2 : (b.toNat + 1) * 256 ^ l.length ≤ 256 * 256 ^ l.length := Nat.mul_le_mul_right _ (by omega)
    simp only [val, List.length_cons, Nat.pow_succ]
    rw [Nat.add_mul, Nat.one_mul] at h2
    rw [Nat.mul_comm (256 ^ l.length) 256]
    omega

theorem cmpK_val : ∀ (a b : List UInt8), a.length = b.length → cmpK a b = cmpN (val a) (val b)
  | [], [], _ => by simp [cmpK, cmpN, val]
  | [], _ :: _, h => by simp at h
  | _ :: _, [], h => by simp at h
  | x :: a, y :: b, h => by
    have hl : a.length = b.length := by simpa using h
    have ih := cmpK_val a b hl
    have h1 := val_lt a
    have h2 := val_lt b
    rw [hl] at h1
    simp only [cmpK, val, hl]
    have hxy : (x < y) ↔ x.toNat < y.toNat := UInt8.lt_iff_toNat_lt
    have hyx : (y < x) ↔ y.toNat < x.toNat := UInt8.lt_iff_toNat_lt
    generalize 256 ^ b.length = p at *
    by_cases c1 : x.toNat < y.toNat
    · have h3 : (x.toNat + 1) * p ≤ y.toNat * p := Nat.mul_le_mul_right _ c1
      rw [Nat.add_mul, Nat.one_mul] at h3
      rw [if_pos (hxy.2 c1)]
      unfold cmpN
      rw [if_pos (by omega)]
    · rw [if_neg (fun q => c1 (hxy.1 q))]
      by_cases c2 : y.toNat < x.toNat
      · have h3 : (y.toNat + 1) * p ≤ x.toNat * p := Nat.mul_le_mul_right _ c2
        rw [Nat.add_mul, Nat.one_mul] at h3
        rw [if_pos (hyx.2 c2)]
        unfold cmpN
        rw [if_neg (by omega), if_pos (by omega)]
      · rw [if_neg (fun q => c2 (hyx.1 q)), ih]
        have : x.toNat = y.toNat := by omega
        unfold cmpN
        rw [this]
        simp only [Nat.add_lt_add_iff_left]
end Go.Pl
