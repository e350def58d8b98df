/- How the program's data lie in memory. -/
import Derived.Test.Qxb6605723aSxA
import Derived.Test.Qxb6605723aPl
set_option linter.unusedVariables false
set_option linter.unusedSimpArgs false
namespace Go.Sx

theorem flatMap_length {α : Type} (f : α → List Value) (n : Nat) : ∀ (l : List α), (∀ a ∈ l, (f a).length = n) → (l.flatMap f).length = l.length * n
  | [], _ => by simp
  | a :: l, h => by
    simp only [List.flatMap_cons, List.length_append, List.length_cons, h a (by simp), flatMap_length f n l (fun x hx => h x (by simp [hx]))]
    rw [Nat.add_mul]; omega

theorem flatMap_get {α : Type} (f : α → List Value) (n : Nat) : ∀ (l : List α), (∀ a ∈ l, (f a).length = n) → ∀ (k : Nat) (hk : k < l.length) (j : Nat), j < n → (l.flatMap f)[k * n + j]? = (f l[k])[j]?
  | [], _, k, hk, j, hj => by simp at hk
  | a :: l, h, 0, hk, j, hj => by
    simp only [List.flatMap_cons, Nat.zero_mul, Nat.zero_add, List.getElem_cons_zero]
    rw [List.getElem?_append_left (by rw [h a (by simp)]; exact hj)]
  | a :: l, h, k + 1, hk, j, hj => by
    simp only [List.flatMap_cons, List.getElem_cons_succ]
    have ha := h a (by simp)
    rw [List.getElem?_append_right (by rw [ha, Nat.add_mul]; omega), ha]
    have e : (k + 1) * n + j - n = k * n + j := by rw [Nat.add_mul]; omega
    rw [e]
    exact flatMap_get f n l (fun x hx => h x (by simp [hx])) k (by simpa using hk) j hj

theorem Rd.sub {w : World} {b off : Nat} {vs us : List Value} (h : Rd w b off vs) (o : Nat) (hs : ∀ j v, us[j]? = some v → vs[o + j]? = some v) : Rd w b (off + o) us :=
  fun j v hv => by rw [Nat.add_assoc]; exact h (o + j) v (hs j v hv)

theorem Rd.cell {w : World} {b off : Nat} {vs : List Value} (h : Rd w b off vs) (o : Nat) (v : Value) (hs : vs[o]? = some v) : w.cell? ⟨b, off + o, none⟩ = some v := h o v hs

theorem lt_of_get {α : Type} {l : List α} {j : Nat} {v : α} (h : l[j]? = some v) : j < l.length := (List.getElem?_eq_some_iff.1 h).1

/-- An element of a row of structs. -/
theorem Rd.elem {α : Type} {f : α → List Value} {n : Nat} {l : List α} {w : World} {b off : Nat} (h : Rd w b off (l.flatMap f)) (hn : ∀ a ∈ l, (f a).length = n) (k : Nat) (hk : k < l.length) : Rd w b (off + k * n) (f l[k]) :=
  h.sub (k * n) fun j v hv => by
    rw [flatMap_get f n l hn k hk j (by have := lt_of_get hv; rw [hn _ (List.getElem_mem hk)] at this; exact this)]
    exact hv

theorem Rd.append_left {w : World} {b off : Nat} {xs ys : List Value} (h : Rd w b off (xs ++ ys)) : Rd w b off xs := fun j v hv => h j v (by rw [List.getElem?_append_left (lt_of_get hv)]; exact hv)
theorem Rd.append_right {w : World} {b off : Nat} {xs ys : List Value} (h : Rd w b off (xs ++ ys)) : Rd w b (off + xs.length) ys :=
  h.sub xs.length fun j v hv => by rw [List.getElem?_append_right (by omega)]; simpa using hv

/-! ### Items -/
structure Itm where
  key : List UInt8
  name : ByteArray

def Itm.cells (i : Itm) : List Value := kc i.key ++ [.string i.name]
def encI (l : List Itm) : List Value := l.flatMap Itm.cells
def OkI (l : List Itm) : Prop := ∀ i ∈ l, i.key.length = 20

theorem Itm.len {l : List Itm} (h : OkI l) : ∀ i ∈ l, i.cells.length = 21 := fun i hi => by simp [Itm.cells, h i hi]
theorem encI_length {l : List Itm} (h : OkI l) : (encI l).length = l.length * 21 := flatMap_length _ _ l (Itm.len h)

theorem rd_key {w : World} {b off : Nat} {l : List Itm} (h : Rd w b off (encI l)) (ho : OkI l) (k : Nat) (hk : k < l.length) : Rd w b (off + k * 21 + 0) (kc l[k].key) := by
  have := (Rd.elem h (Itm.len ho) k hk)
  exact this.append_left
theorem rd_name {w : World} {b off : Nat} {l : List Itm} (h : Rd w b off (encI l)) (ho : OkI l) (k : Nat) (hk : k < l.length) : w.cell? ⟨b, off + k * 21 + 20, none⟩ = some (.string l[k].name) := by
  have := (Rd.elem h (Itm.len ho) k hk)
  refine this.cell 20 _ ?_
  have hl : (kc l[k].key).length = 20 := by simp [ho _ (List.getElem_mem hk)]
  simp only [Itm.cells]
  rw [List.getElem?_append_right (by omega), hl]
  rfl

/-- A slice of items as a value. -/
def ItemsAt (w : World) (a : Option Addr) (l : List Itm) : Prop := l ≠ [] → ∃ b off, a = some ⟨b, off, none⟩ ∧ Rd w b off (encI l)

theorem ItemsAt.kp {M : Nat → Prop} {w w' : World} {a : Option Addr} {l : List Itm} (h : ItemsAt w a l) (k : Kp M w w') (hn : ∀ b off, a = some ⟨b, off, none⟩ → ¬ M b) : ItemsAt w' a l := fun hne => by
  obtain ⟨b, off, h1, h2⟩ := h hne
  exact ⟨b, off, h1, h2.kp k (hn b off h1)⟩
theorem ItemsAt.ext {w w' : World} {a : Option Addr} {l : List Itm} (h : ItemsAt w a l) (k : Ext w w') : ItemsAt w' a l := h.kp k (fun _ _ _ f => f)
theorem ItemsAt.at {w : World} {a : Option Addr} {l : List Itm} (h : ItemsAt w a l) {k : Nat} (hk : k < l.length) : ∃ b off, a = some ⟨b, off, none⟩ ∧ Rd w b off (encI l) :=
  h (fun e => by rw [e] at hk; simp at hk)

def same (x y : Itm) : Bool := decide (x.key = y.key) && decide (x.name.toList = y.name.toList)
def laterSame (l : List Itm) (k : Nat) : Bool := match l[k]? with
  | none => false
  | some x => (l.drop (k + 1)).any fun y => same y x
def absent (l : List Itm) (x : Itm) : Bool := !(l.any fun y => same y x)

theorem any_drop {α : Type} (p : α → Bool) (l : List α) (j : Nat) (hj : j < l.length) : (l.drop j).any p = (p l[j] || (l.drop (j + 1)).any p) := by
  rw [List.drop_eq_getElem_cons hj, List.any_cons]

end Go.Sx
namespace Go.Sx

theorem splice_mid (xs ys vs : List Value) (off : Nat) (h : off = xs.length) : splice (xs ++ ys) off vs = xs ++ vs ++ ys.drop vs.length := by
  subst h
  unfold splice
  rw [List.take_left, List.drop_append, List.drop_of_length_le (l := xs) (by omega)]
  simp

theorem flatMap_take_succ {α : Type} (f : α → List Value) (l : List α) (k : Nat) (hk : k < l.length) : (l.take (k + 1)).flatMap f = (l.take k).flatMap f ++ f l[k] := by
  rw [List.take_succ_eq_append_getElem hk]; simp only [List.flatMap_append, List.flatMap_cons, List.flatMap_nil, List.append_nil]

/-- Naturals as ints. -/
def nc (l : List Nat) : List Value := l.map fun (n : Nat) => .int .i64 (n : Int)
@[simp] theorem nc_length (l : List Nat) : (nc l).length = l.length := by simp [nc]
theorem nc_get (l : List Nat) (j : Nat) (hj : j < l.length) : (nc l)[j]? = some (.int .i64 (l[j] : Nat)) := by simp [nc, hj]
theorem rd_nat {w : World} {b off : Nat} {l : List Nat} (h : Rd w b off (nc l)) (j : Nat) (hj : j < l.length) : w.cell? ⟨b, off + j * 1, none⟩ = some (.int .i64 (l[j] : Nat)) := by
  rw [Nat.mul_one]; exact h j _ (nc_get l j hj)

/-- Runs within their bounds. -/
def Bd (l : List Nat) : Prop := ∀ r (h : r < l.length), 1 ≤ l[r] ∧ l[r] ≤ 128 ∧ (0 < r → 64 < l[r - 1] + l[r])

def placeOf : List Nat → Nat → Nat × Nat
  | [], _ => (0, 0)
  | n :: l, c => if c < n then (0, c) else ((placeOf l (c - n)).1 + 1, (placeOf l (c - n)).2)

def sumL (l : List Nat) : Nat := l.foldr (· + ·) 0

theorem placeOf_drop (l : List Nat) (c r acc : Nat) (hr : r < l.length) (h : placeOf l c = ((placeOf (l.drop r) (c - acc)).1 + r, (placeOf (l.drop r) (c - acc)).2)) (hacc : acc ≤ c) :
    (c < acc + l[r] → placeOf l c = (r, c - acc)) ∧ (¬ c < acc + l[r] → placeOf l c = ((placeOf (l.drop (r + 1)) (c - (acc + l[r]))).1 + (r + 1), (placeOf (l.drop (r + 1)) (c - (acc + l[r]))).2)) := by
  rw [List.drop_eq_getElem_cons hr, placeOf] at h
  refine ⟨fun hc => ?_, fun hc => ?_⟩
  · rw [if_pos (by omega)] at h; rw [h]; simp
  · rw [if_neg (by omega)] at h
    rw [h, Nat.sub_add_eq]
    simp; omega

theorem sumL_take_succ (l : List Nat) (k : Nat) (hk : k < l.length) : sumL (l.take (k + 1)) = sumL (l.take k) + l[k] := by
  rw [List.take_succ_eq_append_getElem hk]
  unfold sumL
  rw [List.foldr_append]
  simp only [List.foldr_cons, List.foldr_nil, Nat.add_zero]
  generalize l.take k = m
  generalize l[k] = x
  induction m with
  | nil => simp
  | cons y m ih => simp only [List.foldr_cons]; rw [ih]; omega

theorem sumL_take_le (l : List Nat) (k : Nat) : sumL (l.take k) ≤ sumL l := by
  induction l generalizing k with
  | nil => simp
  | cons x l ih =>
    cases k with
    | zero => simp [sumL]
    | succ k => have := ih k; simp only [sumL, List.take_succ_cons, List.foldr_cons] at this ⊢; omega
theorem sumL_take_all (l : List Nat) (k : Nat) (hk : l.length ≤ k) : sumL (l.take k) = sumL l := by rw [List.take_of_length_le hk]

end Go.Sx
namespace Go.Sx
theorem one_append {xs ys : List Value} (hx : ∀ u ∈ xs, u.oneCell' = true) (hy : ∀ u ∈ ys, u.oneCell' = true) : ∀ u ∈ xs ++ ys, u.oneCell' = true := by
  intro u hu
  rcases List.mem_append.1 hu with h | h
  · exact hx u h
  · exact hy u h
theorem one_cons {v : Value} {ys : List Value} (hv : v.oneCell' = true) (hy : ∀ u ∈ ys, u.oneCell' = true) : ∀ u ∈ v :: ys, u.oneCell' = true := by
  intro u hu
  rcases List.mem_cons.1 hu with rfl | h
  · exact hv
  · exact hy u h
theorem one_nil : ∀ u ∈ ([] : List Value), u.oneCell' = true := by intro u hu; cases hu
end Go.Sx
