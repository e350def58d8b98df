/- How the program's data lie in memory. -/
import Derived.Test.Qxb6605742aSxA
import Derived.Test.Qxb6605742aPo
set_option linter.unusedVariables false
set_option linter.unusedSimpArgs false
namespace Go.Sx
open Go.Po

theorem flatMap_length {α : Type} (f : α → List Value) (n : Nat) : ∀ (l : List α), (∀ a ∈ l, (f a).length = n) → (l.flatMap f).length = l.length * n
  | [], _ => by simp
  | a :: l, h => by
    simp only [List.flatMap_cons, List.length_append, List.length_cons, h a (by simp), flatMap_length f n l (fun x hx => h x (by simp [hx]))]
    rw [Nat.add_mul]; omega

theorem flatMap_get {α : Type} (f : α → List Value) (n : Nat) : ∀ (l : List α), (∀ a ∈ l, (f a).length = n) → ∀ (k : Nat) (hk : k < l.length) (j : Nat), j < n → (l.flatMap f)[k * n + j]? = (f l[k])[j]?
  | [], _, k, hk, j, hj => by simp at hk
  | a :: l, h, 0, hk, j, hj => by
    simp only [List.flatMap_cons, Nat.zero_mul, Nat.zero_add, List.getElem_cons_zero]
    rw [List.getElem?_append_left (by rw [h a (by simp)]; exact hj)]
  | a :: l, h, k + 1, hk, j, hj => by
    simp only [List.flatMap_cons, List.getElem_cons_succ]
    have ha := h a (by simp)
    rw [List.getElem?_append_right (by rw [ha, Nat.add_mul]; omega), ha]
    have e : (k + 1) * n + j - n = k * n + j := by rw [Nat.add_mul]; omega
    rw [e]
    exact flatMap_get f n l (fun x hx => h x (by simp [hx])) k (by simpa using hk) j hj

theorem Rd.sub {w : World} {b off : Nat} {vs us : List Value} (h : Rd w b off vs) (o : Nat) (hs : ∀ j v, us[j]? = some v → vs[o + j]? = some v) : Rd w b (off + o) us :=
  fun j v hv => by rw [Nat.add_assoc]; exact h (o + j) v (hs j v hv)

theorem Rd.cell {w : World} {b off : Nat} {vs : List Value} (h : Rd w b off vs) (o : Nat) (v : Value) (hs : vs[o]? = some v) : w.cell? ⟨b, off + o, none⟩ = some v := h o v hs

theorem lt_of_get {α : Type} {l : List α} {j : Nat} {v : α} (h : l[j]? = some v) : j < l.length := (List.getElem?_eq_some_iff.1 h).1

theorem Rd.elem {α : Type} {f : α → List Value} {n : Nat} {l : List α} {w : World} {b off : Nat} (h : Rd w b off (l.flatMap f)) (hn : ∀ a ∈ l, (f a).length = n) (k : Nat) (hk : k < l.length) : Rd w b (off + k * n) (f l[k]) :=
  h.sub (k * n) fun j v hv => by
    rw [flatMap_get f n l hn k hk j (by have := lt_of_get hv; rw [hn _ (List.getElem_mem hk)] at this; exact this)]
    exact hv

theorem Rd.append_left {w : World} {b off : Nat} {xs ys : List Value} (h : Rd w b off (xs ++ ys)) : Rd w b off xs := fun j v hv => h j v (by rw [List.getElem?_append_left (lt_of_get hv)]; exact hv)

theorem Rd.append_right {w : World} {b off : Nat} {xs ys : List Value} (h : Rd w b off (xs ++ ys)) : Rd w b (off + xs.length) ys :=
  h.sub xs.length fun j v hv => by rw [List.getElem?_append_right (by omega)]; simpa using hv

theorem splice_mid (xs ys vs : List Value) (off : Nat) (h : off = xs.length) : splice (xs ++ ys) off vs = xs ++ vs ++ ys.drop vs.length := by
  subst h
  unfold splice
  rw [List.take_left, List.drop_append, List.drop_of_length_le (l := xs) (by omega)]
  simp

theorem flatMap_take_succ {α : Type} (f : α → List Value) (l : List α) (k : Nat) (hk : k < l.length) : (l.take (k + 1)).flatMap f = (l.take k).flatMap f ++ f l[k] := by
  rw [List.take_succ_eq_append_getElem hk]; simp only [List.flatMap_append, List.flatMap_cons, List.flatMap_nil, List.append_nil]

def nc (l : List Nat) : List Value := l.map fun (n : Nat) => .int .i64 (n : Int)

@[simp] theorem nc_length (l : List Nat) : (nc l).length = l.length := by simp [nc]

theorem nc_get (l : List Nat) (j : Nat) (hj : j < l.length) : (nc l)[j]? = some (.int .i64 (l[j] : Nat)) := by simp [nc, hj]

theorem rd_nat {w : World} {b off : Nat} {l : List Nat} (h : Rd w b off (nc l)) (j : Nat) (hj : j < l.length) : w.cell? ⟨b, off + j * 1, none⟩ = some (.int .i64 (l[j] : Nat)) := by
  rw [Nat.mul_one]; exact h j _ (nc_get l j hj)

theorem one_append {xs ys : List Value} (hx : ∀ u ∈ xs, u.oneCell' = true) (hy : ∀ u ∈ ys, u.oneCell' = true) : ∀ u ∈ xs ++ ys, u.oneCell' = true := by
  intro u hu
  rcases List.mem_append.1 hu with h | h
  · exact hx u h
  · exact hy u h

theorem one_cons {v : Value} {ys : List Value} (hv : v.oneCell' = true) (hy : ∀ u ∈ ys, u.oneCell' = true) : ∀ u ∈ v :: ys, u.oneCell' = true := by
  intro u hu
  rcases List.mem_cons.1 hu with rfl | h
  · exact hv
  · exact hy u h

theorem one_nil : ∀ u ∈ ([] : List Value), u.oneCell' = true := by intro u hu; cases hu

theorem fill_one (size : Nat) (zs : List Value) (v : Value) (hz : zs.length = 1 * size) (hv : v.cells.size = size) :
    fillL (fun i => some (i * size, size)) zs (([0] : List Nat).zip [v]) = some v.cells.toList := by
  have h1 : v.cells.toList.length = size := by simpa using hv
  have h2 : List.drop size zs = [] := List.drop_of_length_le (by omega)
  simp only [List.zip_cons_cons, List.zip_nil_right, fillL, Nat.zero_mul, Nat.zero_add]
  rw [if_pos ⟨hv, by omega⟩]
  simp [splice, h1, hv, h2]

theorem splice_set (A sp : List Value) (r : Nat) (v : Value) (hr : r < A.length) : splice (A ++ sp) r [v] = A.set r v ++ sp := by
  unfold splice
  rw [List.take_append_of_le_length (by omega), List.set_eq_take_append_cons_drop, if_pos hr]
  have : (A ++ sp).drop (r + [v].length) = A.drop (r + 1) ++ sp := by
    rw [List.drop_append_of_le_length (by simp; omega)]; rfl
  rw [this]
  simp [List.append_assoc]

theorem Slo.some {w : World} {v : Value} {e : TypeId} {size n : Nat} {xs : List Value} {g : Option Nat} (h : Slo w v e size n xs g) (hn : 0 < n) :
    ∃ b cap spare, v = .slice (.some ⟨b, 0, none⟩) n cap ∧ Own w b e (xs ++ spare) ∧ xs.length = n * size ∧ xs.length + spare.length = cap * size ∧ n ≤ cap ∧ g = .some b := by
  rcases h with ⟨_, h2, _, _⟩ | h
  · omega
  · exact h

theorem sloNext {w : World} {b cap m : Nat} {L L' news : List Nat} {g : Option Nat} (h : Slo w (.slice (some ⟨b, 0, none⟩) (L.length + m) cap) 3 1 (L.length + m) (nc L ++ nc news) g) (hL : L' = L ++ news) (hm : news.length = m) :
    Slo w (.slice (some ⟨b, 0, none⟩) L'.length cap) 3 1 L'.length (nc L') g := by
  subst hL
  subst hm
  rw [List.length_append]
  have : nc (L ++ news) = nc L ++ nc news := by simp [nc]
  rw [this]
  exact h

theorem nc_one (l : List Nat) : ∀ u ∈ nc l, u.oneCell' = true := by
  intro u hu
  simp only [nc, List.mem_map] at hu
  obtain ⟨n, _, rfl⟩ := hu
  rfl

theorem fill_two (zs : List Value) (x y : Int) (hz : zs.length = 2 * 1) :
    fillL (fun i => some (i * 1, 1)) zs (([0, 1] : List Nat).zip [.int .i64 x, .int .i64 y]) = some [.int .i64 x, .int .i64 y] := by
  match zs, hz with
  | [a, b], _ => simp [fillL, splice, Value.cells]

theorem splice_all (c vs : List Value) (h : c.length = vs.length) : splice c 0 vs = vs := by
  unfold splice
  rw [Nat.zero_add, ← h, List.drop_length]
  simp

theorem nc_set (p : List Nat) (b v : Nat) (sp : List Value) (hb : b < p.length) : splice (nc p ++ sp) (0 + b * 1) [.int .i64 (v : Nat)] = nc (p.set b v) ++ sp := by
  rw [Nat.mul_one, Nat.zero_add, splice_set _ _ _ _ (by simpa using hb)]
  simp [nc, List.map_set]

/-- Ints. -/
def ic (l : List Int) : List Value := l.map fun z => .int .i64 z
@[simp] theorem ic_length (l : List Int) : (ic l).length = l.length := by simp [ic]
theorem ic_get (l : List Int) (j : Nat) (hj : j < l.length) : (ic l)[j]? = some (.int .i64 l[j]) := by simp [ic, hj]
theorem rd_int {w : World} {b off : Nat} {l : List Int} (h : Rd w b off (ic l)) (j : Nat) (hj : j < l.length) : w.cell? ⟨b, off + j * 1, none⟩ = some (.int .i64 l[j]) := by
  rw [Nat.mul_one]; exact h j _ (ic_get l j hj)
theorem ic_one (l : List Int) : ∀ u ∈ ic l, u.oneCell' = true := by
  intro u hu
  simp only [ic, List.mem_map] at hu
  obtain ⟨n, _, rfl⟩ := hu
  rfl
theorem ic_append (x y : List Int) : ic (x ++ y) = ic x ++ ic y := by simp [ic]
theorem ic_take_succ (l : List Int) (j : Nat) (hj : j < l.length) (rest : List Value) (z : Int) (hz : z = l[j]) : splice (ic (l.take j) ++ rest) (0 + j * 1) [.int .i64 z] = ic (l.take (j + 1)) ++ rest.drop 1 := by
  rw [splice_mid _ _ _ _ (by simp; omega), List.take_succ_eq_append_getElem hj, hz]
  simp only [ic, List.map_append, List.map_cons, List.map_nil, List.append_assoc, List.length_cons, List.length_nil]
theorem ic_set (p : List Int) (b : Nat) (v : Int) (sp : List Value) (hb : b < p.length) : splice (ic p ++ sp) (0 + b * 1) [.int .i64 v] = ic (p.set b v) ++ sp := by
  rw [Nat.mul_one, Nat.zero_add, splice_set _ _ _ _ (by simpa using hb)]
  simp [ic, List.map_set]
theorem splice_at (X R : List Value) (o i : Nat) (v : Value) (ho : o = X.length + i) (hi : i < R.length) : splice (X ++ R) o [v] = X ++ R.set i v := by
  have h := splice_set (X ++ R) [] o v (by simp; omega)
  rw [List.append_nil, List.append_nil] at h
  rw [h, ho, List.set_append_right _ _ (by omega)]
  simp
/-- A slice of ints as a value. -/
def IntsAt (w : World) (a : Option Addr) (l : List Int) : Prop := l ≠ [] → ∃ b off, a = some ⟨b, off, none⟩ ∧ Rd w b off (ic l)
theorem IntsAt.kp {M : Nat → Prop} {w w' : World} {a : Option Addr} {l : List Int} (h : IntsAt w a l) (k : Kp M w w') (hn : ∀ b off, a = some ⟨b, off, none⟩ → ¬ M b) : IntsAt w' a l := fun hne => by
  obtain ⟨b, off, h1, h2⟩ := h hne
  exact ⟨b, off, h1, h2.kp k (hn b off h1)⟩
theorem IntsAt.ext {w w' : World} {a : Option Addr} {l : List Int} (h : IntsAt w a l) (k : Ext w w') : IntsAt w' a l := h.kp k (fun _ _ _ f => f)
theorem IntsAt.at {w : World} {a : Option Addr} {l : List Int} (h : IntsAt w a l) {k : Nat} (hk : k < l.length) : ∃ b off, a = some ⟨b, off, none⟩ ∧ Rd w b off (ic l) :=
  h (fun e => by rw [e] at hk; simp at hk)
/-- A step. -/
structure Stp where
  kind : Int
  prev : Int
  send : Int
  ca : Option Addr
  cl : List Int
  ccap : Nat
def Stp.cells (s : Stp) : List Value := [.int .i64 s.kind, .int .i64 s.prev, .int .i64 s.send, .slice s.ca s.cl.length s.ccap]
def Stp.js (s : Stp) : List Int := s.prev :: s.send :: s.cl
def encT (l : List Stp) : List Value := l.flatMap Stp.cells
theorem Stp.len (l : List Stp) : ∀ s ∈ l, s.cells.length = 4 := fun s _ => rfl
theorem encT_length (l : List Stp) : (encT l).length = l.length * 4 := flatMap_length _ _ l (Stp.len l)
theorem stp_one {s : Stp} : ∀ u ∈ s.cells, u.oneCell' = true := one_cons rfl (one_cons rfl (one_cons rfl (one_cons rfl one_nil)))
structure StpsAt (w : World) (a : Option Addr) (l : List Stp) : Prop where
  row : l ≠ [] → ∃ b off, a = some ⟨b, off, none⟩ ∧ Rd w b off (encT l)
  val : ∀ s ∈ l, IntsAt w s.ca s.cl
theorem StpsAt.ext {w w' : World} {a : Option Addr} {l : List Stp} (h : StpsAt w a l) (k : Ext w w') : StpsAt w' a l :=
  ⟨fun hne => by obtain ⟨b, off, h1, h2⟩ := h.row hne; exact ⟨b, off, h1, h2.kp k (fun f => f)⟩, fun o ho => (h.val o ho).ext k⟩
theorem StpsAt.at {w : World} {a : Option Addr} {l : List Stp} (h : StpsAt w a l) {k : Nat} (hk : k < l.length) : ∃ b off, a = some ⟨b, off, none⟩ ∧ Rd w b off (encT l) :=
  h.row (fun e => by rw [e] at hk; simp at hk)
theorem rs_at {w : World} {b off : Nat} {l : List Stp} (h : Rd w b off (encT l)) (k : Nat) (hk : k < l.length) (j : Nat) (v : Value) (hv : l[k].cells[j]? = some v) : w.cell? ⟨b, off + k * 4 + j, none⟩ = some v :=
  (Rd.elem h (Stp.len l) k hk).cell j v hv
theorem rs_kind {w : World} {b off : Nat} {l : List Stp} (h : Rd w b off (encT l)) (k : Nat) (hk : k < l.length) : w.cell? ⟨b, off + k * 4 + 0, none⟩ = some (.int .i64 l[k].kind) := rs_at h k hk 0 _ rfl
theorem rs_prev {w : World} {b off : Nat} {l : List Stp} (h : Rd w b off (encT l)) (k : Nat) (hk : k < l.length) : w.cell? ⟨b, off + k * 4 + 1, none⟩ = some (.int .i64 l[k].prev) := rs_at h k hk 1 _ rfl
theorem rs_send {w : World} {b off : Nat} {l : List Stp} (h : Rd w b off (encT l)) (k : Nat) (hk : k < l.length) : w.cell? ⟨b, off + k * 4 + 2, none⟩ = some (.int .i64 l[k].send) := rs_at h k hk 2 _ rfl
theorem rs_cit {w : World} {b off : Nat} {l : List Stp} (h : Rd w b off (encT l)) (k : Nat) (hk : k < l.length) : w.cell? ⟨b, off + k * 4 + 3, none⟩ = some (.slice l[k].ca l[k].cl.length l[k].ccap) := rs_at h k hk 3 _ rfl
def lkL (l : List Stp) : Lk := l.map (fun s => lks s.js)
theorem lkL_length (l : List Stp) : (lkL l).length = l.length := by simp [lkL]
theorem lkOf_lkL (l : List Stp) (k : Nat) (hk : k < l.length) : lkOf (lkL l) k = lks l[k].js := by rw [lkOf_eq _ _ (by rw [lkL_length]; exact hk)]; simp [lkL]
/-- How many links all the steps have. -/
def cites (l : List Stp) : Nat := (l.map (fun s => s.cl.length)).sum
theorem cites_take_succ (l : List Stp) (k : Nat) (hk : k < l.length) : cites (l.take (k + 1)) = cites (l.take k) + l[k].cl.length := by
  unfold cites
  rw [List.take_succ_eq_append_getElem hk, List.map_append, List.sum_append]
  simp only [List.map_cons, List.map_nil, List.sum_cons, List.sum_nil, Nat.add_zero]
theorem mem_le_sum : ∀ (m : List Nat) (x : Nat), x ∈ m → x ≤ m.sum
  | a :: m, x, h => by
    rw [List.sum_cons]
    rcases List.mem_cons.1 h with rfl | h
    · omega
    · have := mem_le_sum m x h; omega
theorem mem_cites {l : List Stp} {s : Stp} (h : s ∈ l) : s.cl.length ≤ cites l := by
  unfold cites
  exact mem_le_sum _ _ (List.mem_map.2 ⟨s, h, rfl⟩)
theorem lks_length_le (js : List Int) : (lks js).length ≤ js.length := by
  unfold lks; rw [List.length_map]; exact List.length_filter_le _ _
theorem sum_take_le (m : List Nat) (k : Nat) : (m.take k).sum ≤ m.sum := by
  have h := congrArg List.sum (List.take_append_drop k m)
  rw [List.sum_append] at h
  omega
theorem sum_lk_le : ∀ (l : List Stp), ((lkL l).map List.length).sum ≤ 2 * l.length + cites l
  | [] => by simp [lkL, cites]
  | s :: l => by
    have ih := sum_lk_le l
    have h1 := lks_length_le s.js
    have h2 : s.js.length = s.cl.length + 2 := rfl
    unfold lkL cites at *
    simp only [List.map_cons, List.sum_cons, List.length_cons] at *
    omega
/-- No list of waiting steps is longer than there are links. -/
theorem lst_small (l : List Stp) (i : Nat) (hi : i ≤ l.length) (j : Nat) : (aft (lkL l) i j).length ≤ 2 * l.length + cites l := by
  have h1 := aft_le (lkL l) j i (by rw [lkL_length]; exact hi)
  rw [List.map_take] at h1
  have h2 := sum_take_le ((lkL l).map List.length) i
  have h3 := sum_lk_le l
  omega
end Go.Sx
