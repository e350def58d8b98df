/- The order of play in memory: waiting, after, order. -/
import Derived.Test.Qxb6605742aDat
set_option linter.unusedVariables false
set_option linter.unusedSimpArgs false
namespace Go.Sx
open Go.Po

section
variable {P : Program} {N : Nat} {ops : Array Oper} {Q : Exit → Act → World → Prop} {rest : List Oper} {s : Store} {w : World} {d : Nat} {ty : TypeId} {pos : String} {after : Array Edge}

/-- append of nothing. -/
theorem run_append0 {t e : TypeId} {size bytes : Nat} {z : Value} (he : Elt P t e size bytes z) {b n cap c : Nat} {a : Option Addr} (hnc : n ≤ cap) :
    (Builtin.append_ #[t, t] ty #[.slice (some ⟨b, 0, none⟩) n cap, .slice a 0 c]).run P w = .ok (.slice (some ⟨b, 0, none⟩) n cap) w := by
  obtain ⟨i, hi, hz, rfl, rfl⟩ := he.info
  have hf : (Builtin.firstCells i.size 0 (.slice a 0 c)).run P w = .ok #[] w := by
    cases a with
    | none => simp [Builtin.firstCells]
    | some q => simp [Builtin.firstCells, loadCells, loadCellsFrom]
  simp [Builtin.append_, run_underlying he.und, sizeOf, typeInfo, hi, Builtin.lenOf, hnc, hf, storeCells]

/-- append to a slice that is not nil, whatever the other slice's length. -/
theorem WL.appendI {t e : TypeId} {bytes : Nat} {z : Value} {x y : Operand} {v : Value} {n : Nat} {xs : List Value} {g : Option Nat} {a : Option Addr} {c : Nat} {cl : List Int}
    (hx : ev s x = some v) (hy : ev s y = some (.slice a cl.length c)) (hd : Nat.blt d N = true) (he : Elt P t e 1 bytes z) (hs : Slo w v e 1 n xs g) (hn : 0 < n)
    (hI : IntsAt w a cl) (hb : (n + cl.length) * bytes ≤ 140737488355328) (hnm : n + cl.length ≤ 9223372036854775807)
    (h : ∀ v' w' g', Slo w' v' e 1 (n + cl.length) (xs ++ ic cl) g' → Kp (fun k => g = some k) w w' → (g' = g ∨ (g' = some w.heap.size ∧ Ext w w')) → WL P N ops Q rest ((d, v') :: s) w') :
    WL P N ops Q (⟨some d, .call ⟨.builtin .append, #[x, y], #[t, t]⟩, ty, pos, after, none⟩ :: rest) s w := by
  by_cases hc : cl = []
  · subst hc
    have hs' := hs
    obtain ⟨b, cap, spare, rfl, ho, hl, hl2, hnc, rfl⟩ := hs'.some hn
    refine WL.step (ok_append_of hx hy (run_append0 he hnc)) hd (h _ _ (some b) ?_ (Kp.refl _ _) (.inl rfl))
    simpa [ic] using hs
  · obtain ⟨b, off, rfl, hr⟩ := hI hc
    have hm : 0 < cl.length := List.length_pos_iff.2 hc
    exact WL.append hx hy hd he hs (by simp) hr (ic_one _) hm hb hnm h
end

/-- What playOrder keeps: the counts in block wb, the headers hs of the waiting lists in block ab, the lists in blocks g, the order in block og; none of these blocks is one of A's. -/
structure PSt (A : Nat → Prop) (w : World) (wb ab : Nat) (W : List Nat) (hs : List Value) (g : Nat → Option Nat) (L : List (List Nat)) (ov : Value) (o : List Nat) (og : Option Nat) : Prop where
  wt : Own w wb 3 (nc W)
  hd : Own w ab 25 hs
  hl : hs.length = L.length
  sl : ∀ j (h : j < L.length), Slo w (hs[j]'(by rw [hl]; exact h)) 3 1 L[j].length (nc L[j]) (g j)
  od : Slo w ov 3 1 o.length (nc o) og
  wa : wb ≠ ab
  aw : ¬ A wb
  aa : ¬ A ab
  gb : ∀ j b, j < L.length → g j = some b → ¬ A b ∧ b ≠ wb ∧ b ≠ ab
  gi : ∀ i j b, i < L.length → j < L.length → g i = some b → g j = some b → i = j
  ob : ∀ b, og = some b → ¬ A b ∧ b ≠ wb ∧ b ≠ ab ∧ ∀ j, j < L.length → g j ≠ some b

section
variable {A B : Nat → Prop} {w w' w1 w2 : World} {wb ab : Nat} {W : List Nat} {hs : List Value} {g : Nat → Option Nat} {L : List (List Nat)} {ov : Value} {o : List Nat} {og : Option Nat}

theorem PSt.lt (h : PSt A w wb ab W hs g L ov o og) : wb < w.heap.size ∧ ab < w.heap.size ∧ (∀ j b, j < L.length → g j = some b → b < w.heap.size) ∧ (∀ b, og = some b → b < w.heap.size) :=
  ⟨h.wt.lt, h.hd.lt, fun j b hj hb => (h.sl j hj).lt b hb, fun b hb => h.od.lt b hb⟩
theorem PSt.move (h : PSt A w wb ab W hs g L ov o og) (k : Ext w w') (hB : ∀ b, B b → A b ∨ w.heap.size ≤ b) : PSt B w' wb ab W hs g L ov o og := by
  obtain ⟨l1, l2, l3, l4⟩ := h.lt
  have hav : ∀ x, x < w.heap.size → ¬ A x → ¬ B x := fun x hx ha hb => (hB x hb).elim ha (fun q => by omega)
  exact ⟨h.wt.ext k, h.hd.ext k, h.hl, fun j hj => (h.sl j hj).kp k (fun _ _ f => f), h.od.kp k (fun _ _ f => f), h.wa, hav _ l1 h.aw, hav _ l2 h.aa,
    fun j b hj hb => ⟨hav _ (l3 j b hj hb) (h.gb j b hj hb).1, (h.gb j b hj hb).2⟩, h.gi, fun b hb => ⟨hav _ (l4 b hb) (h.ob b hb).1, (h.ob b hb).2⟩⟩
theorem PSt.ext (h : PSt A w wb ab W hs g L ov o og) (k : Ext w w') : PSt A w' wb ab W hs g L ov o og := h.move k (fun _ q => .inl q)
/-- The counts rewritten. -/
theorem PSt.setW (h : PSt A w wb ab W hs g L ov o og) {W' : List Nat} (k : Kp (fun b => b = wb) w w') (hw : Own w' wb 3 (nc W')) : PSt A w' wb ab W' hs g L ov o og :=
  ⟨hw, k.own h.hd (fun e => h.wa e.symm), h.hl, fun j hj => (h.sl j hj).kp k (fun b hb => (h.gb j b hj hb).2.1), h.od.kp k (fun b hb => (h.ob b hb).2.1), h.wa, h.aw, h.aa, h.gb, h.gi, h.ob⟩
/-- One step more on the order. -/
theorem PSt.putO (h : PSt A w wb ab W hs g L ov o og) (hA : ∀ b, A b → b < w.heap.size) {v' : Value} {o' : List Nat} {og' : Option Nat} (k : Kp (fun b => og = some b) w w') (hv : Slo w' v' 3 1 o'.length (nc o') og') (hg : og' = og ∨ (og' = some w.heap.size ∧ Ext w w')) :
    PSt A w' wb ab W hs g L v' o' og' := by
  obtain ⟨l1, l2, l3, l4⟩ := h.lt
  refine ⟨k.own h.wt (fun e => (h.ob _ e).2.1 rfl), k.own h.hd (fun e => (h.ob _ e).2.2.1 rfl), h.hl, fun j hj => (h.sl j hj).kp k (fun b hb e => (h.ob b e).2.2.2 j hj hb), hv, h.wa, h.aw, h.aa, h.gb, h.gi, ?_⟩
  intro b hb
  rcases hg with e | ⟨e, _⟩
  · exact h.ob b (by rw [← e]; exact hb)
  · rw [e] at hb
    cases hb
    exact ⟨fun q => Nat.lt_irrefl _ (hA _ q), by omega, by omega, fun j hj q => by have := l3 j _ hj q; omega⟩
/-- One step more on a waiting list: the list grown (w to w1), then its header laid (w1 to w2). -/
theorem PSt.putA (h : PSt A w wb ab W hs g L ov o og) (hA : ∀ b, A b → b < w.heap.size) {j : Nat} (hj : j < L.length) {v' : Value} {l' : List Nat} {g' : Option Nat} (k : Kp (fun b => g j = some b) w w1) (hv : Slo w1 v' 3 1 l'.length (nc l') g') (hg : g' = g j ∨ (g' = some w.heap.size ∧ Ext w w1))
    (k2 : Kp (fun b => b = ab) w1 w2) (hh : Own w2 ab 25 (hs.set j v')) : PSt A w2 wb ab W (hs.set j v') (fun m => if m = j then g' else g m) (L.set j l') ov o og := by
  obtain ⟨l1, l2, l3, l4⟩ := h.lt
  have hgb : ∀ b, g' = some b → ¬ A b ∧ b ≠ wb ∧ b ≠ ab ∧ (∀ m, m < L.length → m ≠ j → g m ≠ some b) ∧ og ≠ some b := by
    intro b hb
    rcases hg with e | ⟨e, _⟩
    · rw [e] at hb
      exact ⟨(h.gb j b hj hb).1, (h.gb j b hj hb).2.1, (h.gb j b hj hb).2.2, fun m hm hmj q => hmj (h.gi m j b hm hj q hb), fun q => (h.ob b q).2.2.2 j hj hb⟩
    · rw [e] at hb
      cases hb
      exact ⟨fun q => Nat.lt_irrefl _ (hA _ q), by omega, by omega, fun m hm _ q => by have := l3 m _ hm q; omega, fun q => by have := l4 _ q; omega⟩
  refine ⟨k2.own (k.own h.wt (fun e => (h.gb j _ hj e).2.1 rfl)) h.wa, hh, by simp [h.hl], fun m hm => ?_, (h.od.kp k (fun b hb e => (h.ob b hb).2.2.2 j hj e)).kp k2 (fun b hb e => (h.ob b hb).2.2.1 e), h.wa, h.aw, h.aa, fun m b hm hb => ?_, fun m1 m2 b hm1 hm2 hb1 hb2 => ?_, fun b hb => ?_⟩
  · have hm' : m < L.length := by simpa using hm
    by_cases e : m = j
    · subst e
      simp only [List.getElem_set_self, if_true]
      exact hv.kp k2 (fun b hb q => (hgb b hb).2.2.1 q)
    · have e' : ¬ j = m := fun q => e q.symm
      simp only [List.getElem_set_ne e', if_neg e]
      exact ((h.sl m hm').kp k (fun b hb q => e (h.gi m j b hm' hj hb q))).kp k2 (fun b hb q => (h.gb m b hm' hb).2.2 q)
  · have hm' : m < L.length := by simpa using hm
    by_cases e : m = j
    · subst e
      simp only [if_true] at hb
      exact ⟨(hgb b hb).1, (hgb b hb).2.1, (hgb b hb).2.2.1⟩
    · simp only [if_neg e] at hb
      exact h.gb m b hm' hb
  · have hm1' : m1 < L.length := by simpa using hm1
    have hm2' : m2 < L.length := by simpa using hm2
    by_cases e1 : m1 = j
    · by_cases e2 : m2 = j
      · rw [e1, e2]
      · simp only [if_pos e1] at hb1
        simp only [if_neg e2] at hb2
        exact absurd hb2 ((hgb b hb1).2.2.2.1 m2 hm2' e2)
    · by_cases e2 : m2 = j
      · simp only [if_neg e1] at hb1
        simp only [if_pos e2] at hb2
        exact absurd hb1 ((hgb b hb2).2.2.2.1 m1 hm1' e1)
      · simp only [if_neg e1] at hb1
        simp only [if_neg e2] at hb2
        exact h.gi m1 m2 b hm1' hm2' hb1 hb2
  · refine ⟨(h.ob b hb).1, (h.ob b hb).2.1, (h.ob b hb).2.2.1, fun m hm q => ?_⟩
    have hm' : m < L.length := by simpa using hm
    by_cases e : m = j
    · simp only [if_pos e] at q
      exact (hgb b q).2.2.2.2 hb
    · simp only [if_neg e] at q
      exact (h.ob b hb).2.2.2 m hm' q
end
theorem hs_set (hs : List Value) (j : Nat) (v : Value) (hj : j < hs.length) : splice hs (0 + j * 1) [v] = hs.set j v := by
  have := splice_set hs [] j v hj
  rw [Nat.mul_one, Nat.zero_add]
  simpa using this
end Go.Sx
