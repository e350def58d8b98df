/- Slots, runs, shelves: how they lie in memory; results that lie in memory; the search's arithmetic. -/
import Derived.Test.Qxb6605723aSxB
set_option linter.unusedVariables false
set_option linter.unusedSimpArgs false
namespace Go.Sx
open Go.Pl

section
variable {P : Program} {N : Nat} {fn : Func} {R : Ending → World → Prop} {s : Store} {w : World}

theorem run_loadVar_agg {t : TypeId} {b o : Nat} {vs : List Value} (ht : AggT P t) (hsz : Sz P t vs.length) (hr : Rd w b o vs) : (loadVar t ⟨b, o, none⟩).run P w = .ok (.agg vs.toArray) w := by
  simp only [loadVar, Sem.run_bind, run_isAgg ht, Result.andThen_ok, if_true, run_sizeOf hsz, run_loadCells_rd hr, Sem.run_pure]

theorem WX.retC {t b o : Nat} {ty : TypeId} {vs : List Value} (hres : fn.results = #[.cell t ty]) (hp : get s t = some (.pointer (some ⟨b, o, none⟩))) (ht : AggT P ty) (hsz : Sz P ty vs.length) (hr : Rd w b o vs)
    (h : R (.returned (.agg vs.toArray)) w) : WX N (bodyPost P fn R) .ret s w := fun a ha => by
  refine bodyPost_ret (v := .agg vs.toArray) ?_ ha.defers h
  have hp' := ha.look t _ hp
  simp [results, hres, hp', asAddr, run_loadVar_agg ht hsz hr]

theorem WX.retCT {t u b o : Nat} {ty : TypeId} {vs : List Value} {v : Value} (hres : fn.results = #[.cell t ty, .tmp u]) (hp : get s t = some (.pointer (some ⟨b, o, none⟩))) (hu : get s u = some v) (ht : AggT P ty) (hsz : Sz P ty vs.length) (hr : Rd w b o vs)
    (h : R (.returned (.tuple #[.agg vs.toArray, v])) w) : WX N (bodyPost P fn R) .ret s w := fun a ha => by
  refine bodyPost_ret (v := .tuple #[.agg vs.toArray, v]) ?_ ha.defers h
  have hp' := ha.look t _ hp
  have hu' := ha.look u _ hu
  simp [results, hres, hp', hu', asAddr, run_loadVar_agg ht hsz hr]

variable {ty : TypeId} {x y : Operand} {t t' : TypeId} {k : IntKind}
theorem ok_shrN (n : Nat) {k' : IntKind} {a : Nat} {c : Int} (hx : ev s x = some (.int k (a : Nat))) (hy : ev s y = some (.int k' c)) (hc : c = n) (hn : n ≤ k.bits) :
    OpOk P s (.binOp .shr t x y t') ty w (.int k ((a / 2 ^ n : Nat))) w := by
  have h := ok_shr (P := P) (t := t) (t' := t') (ty := ty) (w := w) n hx hy hc hn
  have e : Int.fdiv (a : Int) (2 ^ n) = ((a / 2 ^ n : Nat) : Int) := by
    have h2 : (2 : Int) ^ n = ((2 ^ n : Nat) : Int) := by push_cast; rfl
    rw [h2]; exact (Int.ofNat_fdiv a (2 ^ n)).symm
  rw [e] at h; exact h
theorem ok_convS {src dst : TypeId} {n : Nat} (hx : ev s x = some (.int k (n : Nat))) (hs : (P.underlying src).isSome = true) (hd : P.underlying dst = some (.int .i64)) (hb : n ≤ 9223372036854775807) :
    OpOk P s (.convert src dst x) ty w (.int .i64 (n : Nat)) w := by
  have h := ok_convInt (P := P) (ty := ty) (w := w) hx hs hd
  rw [wrap_i64 (by omega) (by omega)] at h
  exact h
end

/-! ### Slots -/
structure Slot where
  key : List UInt8
  name : ByteArray
  val : Value
  term : Int

def Slot.cells (s : Slot) : List Value := kc s.key ++ [.string s.name, s.val, .int .u64 s.term]
def Slot.ent (s : Slot) : List Value := kc s.key ++ [.string s.name, s.val]
def encS (l : List Slot) : List Value := l.flatMap Slot.cells
def OkSl (s : Slot) : Prop := s.key.length = 20 ∧ s.val.oneCell' = true
def OkS (l : List Slot) : Prop := ∀ s ∈ l, OkSl s

theorem Slot.len {l : List Slot} (h : OkS l) : ∀ s ∈ l, s.cells.length = 23 := fun s hs => by simp [Slot.cells, (h s hs).1]
theorem encS_length {l : List Slot} (h : OkS l) : (encS l).length = l.length * 23 := flatMap_length _ _ l (Slot.len h)
theorem Slot.one {s : Slot} (h : OkSl s) : ∀ u ∈ s.cells, u.oneCell' = true := one_append (kc_one _) (one_cons rfl (one_cons h.2 (one_cons rfl one_nil)))
theorem encS_one {l : List Slot} (h : OkS l) : ∀ u ∈ encS l, u.oneCell' = true := by
  intro u hu
  obtain ⟨s, hs, hu⟩ := List.mem_flatMap.1 hu
  exact Slot.one (h s hs) u hu

theorem rd_skey {w : World} {b off : Nat} {s : Slot} (h : Rd w b off s.cells) : Rd w b (off + 0 + 0) (kc s.key) := h.append_left
theorem rd_sname {w : World} {b off : Nat} {s : Slot} (h : Rd w b off s.cells) (hs : s.key.length = 20) : w.cell? ⟨b, off + 0 + 20, none⟩ = some (.string s.name) := by
  refine h.cell 20 _ ?_
  simp only [Slot.cells]
  rw [List.getElem?_append_right (by simp [hs]), kc_length, hs]
  rfl
theorem rd_sval {w : World} {b off : Nat} {s : Slot} (h : Rd w b off s.cells) (hs : s.key.length = 20) : w.cell? ⟨b, off + 0 + 21, none⟩ = some s.val := by
  refine h.cell 21 _ ?_
  simp only [Slot.cells]
  rw [List.getElem?_append_right (by simp [hs]), kc_length, hs]
  rfl
theorem rd_sterm {w : World} {b off : Nat} {s : Slot} (h : Rd w b off s.cells) (hs : s.key.length = 20) : w.cell? ⟨b, off + 22, none⟩ = some (.int .u64 s.term) := by
  refine h.cell 22 _ ?_
  simp only [Slot.cells]
  rw [List.getElem?_append_right (by simp [hs]), kc_length, hs]
  rfl
theorem rd_sent {w : World} {b off : Nat} {s : Slot} (h : Rd w b off s.cells) : Rd w b (off + 0) s.ent := by
  have : s.cells = s.ent ++ [.int .u64 s.term] := by simp [Slot.cells, Slot.ent]
  rw [this] at h
  exact h.append_left

/-! ### Runs -/
structure CRun where
  b : Nat
  cap : Nat
  sl : List Slot

def CRun.hdr (r : CRun) : Value := .slice (some ⟨r.b, 0, none⟩) r.sl.length r.cap
def RunOk (w : World) (r : CRun) : Prop := OkS r.sl ∧ Slo w r.hdr 54 23 r.sl.length (encS r.sl) (some r.b)
def fp (g : Option Nat) (rs : List CRun) : List Nat := g.toList ++ rs.map (·.b)
def slots (rs : List CRun) : List (List Slot) := rs.map (·.sl)

structure RunsAt (w : World) (hd : Value) (rs : List CRun) (g : Option Nat) : Prop where
  row : Slo w hd 49 1 rs.length (rs.map CRun.hdr) g
  run : ∀ r ∈ rs, RunOk w r
  nodup : (fp g rs).Nodup

theorem RunsAt.kp {M : Nat → Prop} {w w' : World} {hd : Value} {rs : List CRun} {g : Option Nat} (h : RunsAt w hd rs g) (k : Kp M w w') (hn : ∀ b ∈ fp g rs, ¬ M b) : RunsAt w' hd rs g := by
  refine ⟨h.row.kp k fun b hb => hn b (by simp [fp, hb]), fun r hr => ⟨(h.run r hr).1, (h.run r hr).2.kp k fun b hb => ?_⟩, h.nodup⟩
  cases hb
  exact hn r.b (by simp only [fp, List.mem_append, List.mem_map]; exact .inr ⟨r, hr, rfl⟩)
theorem RunsAt.ext {w w' : World} {hd : Value} {rs : List CRun} {g : Option Nat} (h : RunsAt w hd rs g) (k : Ext w w') : RunsAt w' hd rs g := h.kp k (fun _ _ f => f)

theorem RunsAt.lt {w : World} {hd : Value} {rs : List CRun} {g : Option Nat} (h : RunsAt w hd rs g) : ∀ b ∈ fp g rs, b < w.heap.size := by
  intro b hb
  simp only [fp, List.mem_append, List.mem_map, Option.mem_toList] at hb
  rcases hb with hb | ⟨r, hr, rfl⟩
  · exact h.row.lt b hb
  · exact (h.run r hr).2.lt r.b rfl

/-- The header written out, where there is a run. -/
theorem RunsAt.hd {w : World} {hd : Value} {rs : List CRun} {g : Option Nat} (h : RunsAt w hd rs g) (hne : rs ≠ []) :
    ∃ gb cap spare, hd = .slice (some ⟨gb, 0, none⟩) rs.length cap ∧ g = some gb ∧ Own w gb 49 (rs.map CRun.hdr ++ spare) ∧ rs.length + spare.length = cap := by
  rcases h.row with ⟨_, h2, _, _⟩ | ⟨b, cap, spare, h1, h2, h3, h4, h5, h6⟩
  · exact absurd (List.eq_nil_of_length_eq_zero h2) hne
  · exact ⟨b, cap, spare, h1, h6, h2, by simpa using h4⟩

theorem RunsAt.hdl {w : World} {hd : Value} {rs : List CRun} {g : Option Nat} (h : RunsAt w hd rs g) : ∃ a cap, hd = .slice a rs.length cap := by
  obtain ⟨a, cap, h1, _⟩ := h.row.form
  exact ⟨a, cap, h1⟩

theorem rd_hdr {w : World} {gb : Nat} {rs : List CRun} {spare : List Value} (h : Own w gb 49 (rs.map CRun.hdr ++ spare)) (r : Nat) (hr : r < rs.length) : w.cell? ⟨gb, 0 + r * 1, none⟩ = some rs[r].hdr := by
  rw [h.cell]
  simp [List.getElem?_append, hr]

theorem RunOk.rd {w : World} {r : CRun} (h : RunOk w r) : Rd w r.b 0 (encS r.sl) := by
  rcases h.2 with ⟨h1, _⟩ | ⟨b, cap, spare, h1, h2, h3, h4, h5, h6⟩
  · simp [CRun.hdr] at h1
  · cases h6; exact h2.rd0.append_left
theorem RunOk.slot {w : World} {r : CRun} (h : RunOk w r) (i : Nat) (hi : i < r.sl.length) : Rd w r.b (0 + i * 23) r.sl[i].cells := Rd.elem h.rd (Slot.len h.1) i hi
theorem RunOk.own {w : World} {r : CRun} (h : RunOk w r) : ∃ spare, Own w r.b 54 (encS r.sl ++ spare) ∧ (encS r.sl).length + spare.length = r.cap * 23 ∧ r.sl.length ≤ r.cap := by
  rcases h.2 with ⟨h1, _⟩ | ⟨b, cap, spare, h1, h2, h3, h4, h5, h6⟩
  · simp [CRun.hdr] at h1
  · cases h6
    simp only [CRun.hdr, Value.slice.injEq] at h1
    obtain ⟨_, _, rfl⟩ := h1
    exact ⟨spare, h2, h4, h5⟩

/-- What 'in' says of a slot, in every world that grows out of w0. -/
def InOk (P : Program) (w0 : World) (fid : FuncId) (cap : Array Value) (p : Slot → Bool) : Prop :=
  ∀ w b off s, Ext w0 w → OkSl s → Rd w b off s.cells → CallsV P fid (#[.pointer (some ⟨b, off, none⟩)] ++ cap) w fun v w' => v = .bool (p s) ∧ Ext w w'
theorem InOk.ext {P : Program} {w0 w1 : World} {fid : FuncId} {cap : Array Value} {p : Slot → Bool} (h : InOk P w0 fid cap p) (k : Ext w0 w1) : InOk P w1 fid cap p :=
  fun w b off s hE => h w b off s (k.trans hE)

/-! ### The place a search finds -/
def lens (runs : List (List Slot)) : List Nat := runs.map (·.length)
def cntF (p : Slot → Bool) (l : List Slot) : Nat := l.countP fun s => !p s
def Mono (p : Slot → Bool) (l : List Slot) : Prop := l.Pairwise fun x y => p x = true → p y = true

theorem cntF_all_false {p : Slot → Bool} {l : List Slot} (h : ∀ s ∈ l, p s = false) : cntF p l = l.length := by
  unfold cntF; rw [List.countP_eq_length]; intro s hs; simp [h s hs]
theorem cntF_all_true {p : Slot → Bool} {l : List Slot} (h : ∀ s ∈ l, p s = true) : cntF p l = 0 := by
  unfold cntF; rw [List.countP_eq_zero]; intro s hs; simp [h s hs]

theorem cntF_append (p : Slot → Bool) (x y : List Slot) : cntF p (x ++ y) = cntF p x + cntF p y := by unfold cntF; rw [List.countP_append]

theorem cntF_first {p : Slot → Bool} : ∀ (l : List Slot) (i : Nat) (s : Slot), Mono p l → (∀ j u, j < i → l[j]? = some u → p u = false) → l[i]? = some s → p s = true → cntF p l = i
  | [], i, s, _, _, hi, _ => by simp at hi
  | x :: l, 0, s, hm, _, hi, hp => by
    have hx : x = s := by simpa using hi
    subst hx
    refine cntF_all_true fun u hu => ?_
    rcases List.mem_cons.1 hu with rfl | hu
    · exact hp
    · exact (List.pairwise_cons.1 hm).1 u hu hp
  | x :: l, i + 1, s, hm, hf, hi, hp => by
    have h0 : p x = false := hf 0 x (by omega) rfl
    have ih := cntF_first l i s (List.pairwise_cons.1 hm).2 (fun j u hj hu => hf (j + 1) u (by omega) (by simpa using hu)) (by simpa using hi) hp
    unfold cntF at ih ⊢
    rw [List.countP_cons, ih]
    simp [h0]

/-- What p says of a run's last entry. -/
def pl (p : Slot → Bool) (run : List Slot) : Bool := match run.getLast? with
  | some s => p s
  | none => false
theorem pl_concat (p : Slot → Bool) (l : List Slot) (x : Slot) : pl p (l ++ [x]) = p x := by simp [pl]

theorem place_found {p : Slot → Bool} : ∀ (runs : List (List Slot)) (r i : Nat), (∀ run ∈ runs, run ≠ []) → Mono p runs.flatten →
    (∀ k run, k < r → runs[k]? = some run → pl p run = false) →
    (∀ run, runs[r]? = some run → pl p run = true ∧ (∀ j u, j < i → run[j]? = some u → p u = false) ∧ ∃ s, run[i]? = some s ∧ p s = true) →
    (runs.length ≤ r → r = runs.length ∧ i = 0) → placeOf (lens runs) (cntF p runs.flatten) = (r, i)
  | [], r, i, _, _, _, _, h => by
    obtain ⟨h1, h2⟩ := h (by simp)
    simp at h1
    subst h1; subst h2
    simp [lens, placeOf]
  | run :: runs, 0, i, hne, hm, h1, h2, h3 => by
    obtain ⟨hl, hf, s, hs, hp⟩ := h2 run rfl
    simp only [List.flatten_cons] at hm
    obtain ⟨hm1, hm2, hm3⟩ := List.pairwise_append.1 hm
    have hrun : run ≠ [] := hne run (by simp)
    rcases List.eq_nil_or_concat run with h0 | ⟨ini, x, rfl⟩
    · exact absurd h0 hrun
    rw [List.concat_eq_append] at *
    rw [pl_concat] at hl
    have e : cntF p (ini ++ [x] ++ runs.flatten) = i := by
      have c1 := cntF_first (ini ++ [x]) i s hm1 hf hs hp
      have c2 : cntF p runs.flatten = 0 := cntF_all_true fun u hu => hm3 x (by simp) u hu hl
      rw [cntF_append, c1, c2, Nat.add_zero]
    simp only [lens, List.map_cons, placeOf, List.flatten_cons, e]
    rw [if_pos (lt_of_get hs)]
  | run :: runs, r + 1, i, hne, hm, h1, h2, h3 => by
    simp only [List.flatten_cons] at hm
    obtain ⟨hm1, hm2, hm3⟩ := List.pairwise_append.1 hm
    have hrun : run ≠ [] := hne run (by simp)
    have hl : pl p run = false := h1 0 run (by omega) rfl
    have hall : ∀ s ∈ run, p s = false := by
      intro s hs
      rcases List.eq_nil_or_concat run with h0 | ⟨ini, x, rfl⟩
      · exact absurd h0 hrun
      rw [List.concat_eq_append] at *
      rw [pl_concat] at hl
      rcases List.mem_append.1 hs with hs | hs
      · cases hps : p s with
        | false => rfl
        | true => have := (List.pairwise_append.1 hm1).2.2 s hs x (by simp) hps; rw [hl] at this; cases this
      · rw [List.mem_singleton.1 hs]; exact hl
    have ih := place_found runs r i (fun x hx => hne x (by simp [hx])) hm2 (fun k u hk hu => h1 (k + 1) u (by omega) (by simpa using hu))
      (fun u hu => h2 u (by simpa using hu)) (fun hr => by have := h3 (by simpa using hr); simp at this; exact this)
    have e : cntF p (run ++ runs.flatten) = run.length + cntF p runs.flatten := by rw [cntF_append, cntF_all_false hall]
    simp only [lens] at ih ⊢
    simp only [List.map_cons, placeOf, List.flatten_cons, e]
    rw [if_neg (by omega), Nat.add_sub_cancel_left, ih]
end Go.Sx
namespace Go.Pl
theorem cmpK_range : ∀ (a b : List UInt8), -1 ≤ cmpK a b ∧ cmpK a b ≤ 1
  | [], _ => by simp [cmpK]
  | _ :: _, [] => by simp [cmpK]
  | x :: a, y :: b => by
    have := cmpK_range a b
    simp only [cmpK]
    split
    · omega
    · split <;> omega
end Go.Pl
namespace Go.Sx
open Go.Pl

structure ShAt (w : World) (sb so : Nat) (hd : Value) (rs : List CRun) (g : Option Nat) : Prop where
  cell : w.cell? ⟨sb, so, none⟩ = some hd
  runs : RunsAt w hd rs g

theorem ShAt.ext {w w' : World} {sb so : Nat} {hd : Value} {rs : List CRun} {g : Option Nat} (h : ShAt w sb so hd rs g) (k : Ext w w') : ShAt w' sb so hd rs g :=
  ⟨k.cell h.cell (fun f => f), h.runs.ext k⟩
theorem ShAt.lt {w : World} {sb so : Nat} {hd : Value} {rs : List CRun} {g : Option Nat} (h : ShAt w sb so hd rs g) : sb < w.heap.size := block_lt_of_cell h.cell

theorem placeOf_le : ∀ (l : List Nat) (c : Nat), (placeOf l c).1 ≤ l.length
  | [], c => by simp [placeOf]
  | n :: l, c => by
    have := placeOf_le l (c - n)
    simp only [placeOf]
    split <;> simp; omega
theorem placeOf_snd : ∀ (l : List Nat) (c : Nat) (m : Nat), l[(placeOf l c).1]? = some m → (placeOf l c).2 < m
  | [], c, m, h => by simp at h
  | n :: l, c, m, h => by
    have ih := placeOf_snd l (c - n) m
    simp only [placeOf] at h ⊢
    split
    · rename_i hc; rw [if_pos hc] at h; simp at h; subst h; exact hc
    · rename_i hc; rw [if_neg hc] at h; simp at h; exact ih h
theorem placeOf_end : ∀ (l : List Nat) (c : Nat), (placeOf l c).1 = l.length → (placeOf l c).2 = 0
  | [], c, _ => by simp [placeOf]
  | n :: l, c, h => by
    have ih := placeOf_end l (c - n)
    simp only [placeOf] at h ⊢
    split
    · rename_i hc; rw [if_pos hc] at h; simp at h
    · rename_i hc; rw [if_neg hc] at h; simp at h; exact ih h

/-- The searches' predicates, by index. -/
def p1 (p : Slot → Bool) (runs : List (List Slot)) (i : Nat) : Bool := match runs[i]? with
  | some run => pl p run
  | none => false
def p2 (p : Slot → Bool) (run : List Slot) (i : Nat) : Bool := match run[i]? with
  | some s => p s
  | none => false

theorem p1_mono {p : Slot → Bool} {runs : List (List Slot)} (hm : Mono p runs.flatten) (hne : ∀ run ∈ runs, run ≠ []) (i j : Nat) (hij : i ≤ j) (hj : j < runs.length) (h : p1 p runs i = true) : p1 p runs j = true := by
  rcases Nat.lt_or_ge i j with hlt | hge
  · obtain ⟨h1, h2⟩ := List.pairwise_flatten.1 hm
    have hpw := List.pairwise_iff_getElem.1 h2 i j (by omega) hj hlt
    simp only [p1, List.getElem?_eq_getElem hj, List.getElem?_eq_getElem (show i < runs.length by omega)] at h ⊢
    have ni := hne _ (List.getElem_mem (show i < runs.length by omega))
    have nj := hne _ (List.getElem_mem hj)
    simp only [pl, List.getLast?_eq_some_getLast ni, List.getLast?_eq_some_getLast nj] at h ⊢
    exact hpw _ (List.getLast_mem ni) _ (List.getLast_mem nj) h
  · have : i = j := by omega
    subst this; exact h

theorem p2_mono {p : Slot → Bool} {run : List Slot} (hm : Mono p run) (i j : Nat) (hij : i ≤ j) (hj : j < run.length) (h : p2 p run i = true) : p2 p run j = true := by
  rcases Nat.lt_or_ge i j with hlt | hge
  · have hpw := List.pairwise_iff_getElem.1 hm i j (by omega) hj hlt
    simp only [p2, List.getElem?_eq_getElem hj, List.getElem?_eq_getElem (show i < run.length by omega)] at h ⊢
    exact hpw h
  · have : i = j := by omega
    subst this; exact h

theorem slots_length (rs : List CRun) : (slots rs).length = rs.length := by simp [slots]
theorem slots_get (rs : List CRun) (r : Nat) (hr : r < rs.length) : (slots rs)[r]? = some rs[r].sl := by simp [slots, hr]

/-- No run holds the last search's answer beyond its end. -/
theorem p2_last {p : Slot → Bool} {run : List Slot} {i : Nat} (hl : pl p run = true) (hi : i ≤ run.length) (hf : ∀ j, j < i → p2 p run j = false) : i < run.length := by
  rcases List.eq_nil_or_concat run with rfl | ⟨ini, x, rfl⟩
  · simp [pl] at hl
  rw [List.concat_eq_append] at *
  rw [pl_concat] at hl
  rcases Nat.lt_or_ge i (ini ++ [x]).length with h | h
  · exact h
  · have := hf ini.length (by simp at h; omega)
    simp [p2] at this
    rw [hl] at this; cases this

theorem find_place {p : Slot → Bool} {runs : List (List Slot)} (hm : Mono p runs.flatten) (hne : ∀ run ∈ runs, run ≠ []) {r i : Nat} (hr : r < runs.length) {run : List Slot} (hrun : runs[r]? = some run) (h1 : ∀ k, k < r → p1 p runs k = false) (h2 : p1 p runs r = true)
    (hi : i < run.length) (h3 : ∀ k, k < i → p2 p run k = false) (h4 : p2 p run i = true) : placeOf (lens runs) (cntF p runs.flatten) = (r, i) := by
  refine place_found runs r i hne hm (fun k u hk hu => ?_) (fun u hu => ?_) (fun h => by omega)
  · have := h1 k hk; simpa [p1, hu] using this
  · rw [hrun] at hu; cases hu
    refine ⟨by simpa [p1, hrun] using h2, fun j u hj hu => ?_, run[i], List.getElem?_eq_getElem hi, ?_⟩
    · have := h3 j hj; simpa [p2, hu] using this
    · simpa [p2, List.getElem?_eq_getElem hi] using h4

theorem find_place_end {p : Slot → Bool} {runs : List (List Slot)} (hm : Mono p runs.flatten) (hne : ∀ run ∈ runs, run ≠ []) (h1 : ∀ k, k < runs.length → p1 p runs k = false) : placeOf (lens runs) (cntF p runs.flatten) = (runs.length, 0) := by
  refine place_found runs runs.length 0 hne hm (fun k u hk hu => ?_) (fun u hu => ?_) (fun h => ⟨rfl, rfl⟩)
  · have := h1 k hk; simpa [p1, hu] using this
  · simp at hu

/-- The entry at a place is that of key and name. -/
def hit (runs : List (List Slot)) (r i : Nat) (k : List UInt8) (n : List UInt8) : Bool := match runs[r]? with
  | none => false
  | some run => match run[i]? with
    | none => false
    | some s => decide (s.key = k) && decide (s.name.toList = n)

def geP (k n : List UInt8) (s : Slot) : Bool := !ltP s.key s.name.toList k n
end Go.Sx
