/-
  SxA: append and copy on slices of the call's own.
-/
import Derived.Test.Qxb6605742aSxN
set_option linter.unusedVariables false
set_option linter.unusedSimpArgs false
namespace Go.Sx

/-- A slice of the call's own: n elements (of 'size' cells each), whose cells are xs; it lies at the head of block g (none: nil). -/
def Slo (w : World) (v : Value) (e : TypeId) (size n : Nat) (xs : List Value) (g : Option Nat) : Prop :=
  (v = .slice none 0 0 ∧ n = 0 ∧ xs = [] ∧ g = none) ∨
  (∃ b cap spare, v = .slice (some ⟨b, 0, none⟩) n cap ∧ Own w b e (xs ++ spare) ∧ xs.length = n * size ∧ xs.length + spare.length = cap * size ∧ n ≤ cap ∧ g = some b)

section
variable {P : Program} {s : Store} {ty : TypeId} {w w' : World}

theorem Slo.kp {M : Nat → Prop} {v : Value} {e : TypeId} {size n : Nat} {xs : List Value} {g : Option Nat} (h : Slo w v e size n xs g) (k : Kp M w w') (hn : ∀ b, g = some b → ¬ M b) : Slo w' v e size n xs g := by
  rcases h with h | ⟨b, cap, spare, h1, h2, h3, h4, h5, h6⟩
  · exact .inl h
  · exact .inr ⟨b, cap, spare, h1, k.own h2 (hn b h6), h3, h4, h5, h6⟩

theorem Slo.lt {v : Value} {e : TypeId} {size n : Nat} {xs : List Value} {g : Option Nat} (h : Slo w v e size n xs g) : ∀ b, g = some b → b < w.heap.size := by
  intro b hb
  rcases h with ⟨_, _, _, h⟩ | ⟨b', cap, spare, h1, h2, h3, h4, h5, h6⟩
  · rw [h] at hb; cases hb
  · rw [h6] at hb; cases hb; exact h2.lt

theorem Slo.form {v : Value} {e : TypeId} {size n : Nat} {xs : List Value} {g : Option Nat} (h : Slo w v e size n xs g) : ∃ a cap, v = .slice a n cap ∧ n ≤ cap := by
  rcases h with ⟨h1, h2, _, _⟩ | ⟨b, cap, spare, h1, h2, h3, h4, h5, h6⟩
  · exact ⟨none, 0, by rw [h2]; exact h1, by omega⟩
  · exact ⟨_, cap, h1, h5⟩

theorem zeroCells_length (z : Array Value) (n : Nat) : (Builtin.zeroCells z n).toList.length = n * z.size := by simp [Builtin.zeroCells]

/-- append(s, x...): n elements of its own, m more out of a row that can be read. -/
theorem run_append {t e : TypeId} {size bytes : Nat} {z : Value} (he : Elt P t e size bytes z) {v : Value} {n : Nat} {xs : List Value} {g : Option Nat} (hs : Slo w v e size n xs g)
    {b off m c : Nat} {news : List Value} (hl : news.length = m * size) (hr : Rd w b off news) (h1 : ∀ u ∈ news, u.oneCell' = true) (hm : 0 < m) (hb : (n + m) * bytes ≤ 140737488355328) (hnm : n + m ≤ 9223372036854775807) :
    ∃ v' w' g', (Builtin.append_ #[t, t] ty #[v, .slice (some ⟨b, off, none⟩) m c]).run P w = .ok v' w' ∧ Slo w' v' e size (n + m) (xs ++ news) g' ∧
      Kp (fun k => g = some k) w w' ∧ (g' = g ∨ (g' = some w.heap.size ∧ Ext w w')) := by
  obtain ⟨i, hi, hz, rfl, rfl⟩ := he.info
  have hnews : ∀ j v, news[j]? = some v → w.cell? ((⟨b, off, none⟩ : Addr).add j) = some v := fun j v hv => by rw [add_lit]; exact hr j v hv
  have hgrow : ∀ cap, cap < n + m → Builtin.nextslicecap (n + m) cap * i.bytes ≤ 281474976710656 := fun cap hc => growslice_fits hc hb
  have hcap : ∀ (sc : Nat), n + m ≤ grownCap w (n + m) sc e := fun sc => by unfold grownCap; simp only [Question.cut]; omega
  have kpd : ∀ o, Ext w (w.drew.alloc o) := fun o => (Kp.drew _ w).trans (Kp.alloc _ _ _)
  rcases hs with ⟨rfl, rfl, rfl, rfl⟩ | ⟨b0, cap, spare, rfl, ho, hx, hcp, hnc, rfl⟩
  · have hr := run_append_nil (P := P) w t ty e i z he.und hi hz ⟨b, off, none⟩ m c news hl hnews hm (by omega) (by rw [Nat.zero_add] at hb; omega)
    have hcap' := hcap 0
    simp only [Nat.zero_add] at hcap' ⊢
    refine ⟨_, _, some w.heap.size, hr, .inr ⟨w.heap.size, _, (Builtin.zeroCells z.cells (grownCap w m 0 e - m)).toList, rfl, ?_, by simpa using hl, ?_, hcap', rfl⟩, (kpd _).mono (fun _ _ f => f.elim), .inr ⟨rfl, kpd _⟩⟩
    · have := Own.new w.drew (news ++ (Builtin.zeroCells z.cells (grownCap w m 0 e - m)).toList) e
      have ea : (news ++ (Builtin.zeroCells z.cells (grownCap w m 0 e - m)).toList).toArray = news.toArray ++ Builtin.zeroCells z.cells (grownCap w m 0 e - m) := by apply Array.ext'; simp
      rw [ea] at this
      exact this
    · simp only [List.nil_append, zeroCells_length, he.zsize, hl]
      rw [← Nat.add_mul]; congr 1; omega
  · by_cases hroom : n + m ≤ cap
    · -- in place
      have hfit : n * i.size + news.length ≤ (xs ++ spare).length := by
        rw [List.length_append, hcp, hl, ← Nat.add_mul]
        exact Nat.mul_le_mul_right _ hroom
      have hst := run_storeCells_own (P := P) ho hfit h1
      have hf := run_firstCells_some (P := P) w i.size m ⟨b, off, none⟩ m c news hl hnews
      have hspl : splice (xs ++ spare) (n * i.size) news = xs ++ news ++ spare.drop news.length := by
        unfold splice
        rw [← hx]
        rw [List.take_left, List.drop_append]
        simp
      refine ⟨.slice (some ⟨b0, 0, none⟩) (n + m) cap, w.setRow b0 (xs ++ news ++ spare.drop news.length).toArray, some b0, ?_, .inr ⟨b0, cap, spare.drop news.length, rfl, ?_, ?_, ?_, hroom, rfl⟩, Kp.put _ _ _ rfl, .inl rfl⟩
      · rw [hspl] at hst
        have hadd : (⟨b0, 0, none⟩ : Addr).add (n * i.size) = ⟨b0, n * i.size, none⟩ := by rw [add_lit]; simp
        simp [Builtin.append_, run_underlying he.und, sizeOf, typeInfo, hi, Builtin.lenOf, hroom, hf, hadd, hst]
      · have := ho.put (xs ++ news ++ spare.drop news.length)
        simpa using this
      · rw [List.length_append, hx, hl, Nat.add_mul]
      · rw [List.length_append, hx, hl, List.length_drop]
        have : n * i.size + spare.length = cap * i.size := by rw [← hx]; exact hcp
        have h2 : m * i.size ≤ spare.length := by
          have : n * i.size + m * i.size ≤ cap * i.size := by rw [← Nat.add_mul]; exact Nat.mul_le_mul_right _ hroom
          omega
        omega
    · -- a new array
      have hholds : ∀ j v, xs[j]? = some v → w.cell? ((⟨b0, 0, none⟩ : Addr).add j) = some v := fun j v hv => by
        rw [add_lit, ho.cell]
        rw [List.getElem?_append_left (by
          rcases Nat.lt_or_ge (0 + j) xs.length with h | h
          · exact h
          · rw [List.getElem?_eq_none (by omega)] at hv; cases hv)]
        simpa using hv
      have hr := run_append_grow (P := P) w t ty e i z he.und hi hz ⟨b0, 0, none⟩ n cap xs hx hholds ⟨b, off, none⟩ m c news hl hnews (by omega) (by omega) (hgrow cap (by omega))
      refine ⟨_, _, some w.heap.size, hr, .inr ⟨w.heap.size, _, (Builtin.zeroCells z.cells (grownCap w (n + m) cap e - (n + m))).toList, rfl, ?_, by rw [List.length_append, hx, hl, Nat.add_mul], ?_, hcap cap, rfl⟩, (kpd _).mono (fun _ _ f => f.elim), .inr ⟨rfl, kpd _⟩⟩
      · have := Own.new w.drew (xs ++ news ++ (Builtin.zeroCells z.cells (grownCap w (n + m) cap e - (n + m))).toList) e
        have ea : (xs ++ news ++ (Builtin.zeroCells z.cells (grownCap w (n + m) cap e - (n + m))).toList).toArray = xs.toArray ++ news.toArray ++ Builtin.zeroCells z.cells (grownCap w (n + m) cap e - (n + m)) := by apply Array.ext'; simp
        rw [ea] at this
        exact this
      · simp only [List.length_append, zeroCells_length, he.zsize, hl, hx]
        rw [← Nat.add_mul, ← Nat.add_mul]; congr 1; have := hcap cap; omega

/-- copy(dst, src): k elements' cells cs, read first, then laid into the block that is the call's own. -/
theorem run_copy {dT sT e t : TypeId} {size : Nat} (hu : P.underlying dT = some (.slice e)) (hsz : Sz P e size) {b o b' o' dLen dCap sLen sCap : Nat} {c cs : List Value}
    (ho : Own w b t c) (hn : cs.length = Nat.min sLen dLen * size) (hr : Rd w b' o' cs) (hfit : o + cs.length ≤ c.length) (h1 : ∀ v ∈ cs, v.oneCell' = true) :
    (Builtin.copy_ #[dT, sT] ty #[.slice (some ⟨b, o, none⟩) dLen dCap, .slice (some ⟨b', o', none⟩) sLen sCap]).run P w =
      .ok (.int .i64 (Nat.min sLen dLen : Nat)) (w.setRow b (splice c o cs).toArray) := by
  have hl : (loadCells ⟨b', o', none⟩ (Nat.min sLen dLen * size)).run P w = .ok cs.toArray w := by rw [← hn]; exact run_loadCells_rd hr
  have hst := run_storeCells_own (P := P) ho hfit h1
  simp only [Builtin.copy_, Sem.run_bind, run_underlying hu, Result.andThen_ok, Builtin.lenOf, Sem.run_pure, run_sizeOf hsz, Builtin.firstCells, hl, hst, goInt, List.getElem?_toArray, List.getElem?_cons_zero, List.getElem?_cons_succ]
end

section
variable {P : Program} {N : Nat} {ops : Array Oper} {Q : Exit → Act → World → Prop} {rest : List Oper} {s : Store} {w : World} {d : Nat} {ty : TypeId} {pos : String} {after : Array Edge}
  {S : World → Prop} {L : List Nat} {l : List Oper} {r : List (Nat × Bool)}

theorem ok_append_of {t : TypeId} {x y : Operand} {v u : Value} (hx : ev s x = some v) (hy : ev s y = some u) {v' : Value} {w' : World} (h : (Builtin.append_ #[t, t] ty #[v, u]).run P w = .ok v' w') :
    OpOk P s (.call ⟨.builtin .append, #[x, y], #[t, t]⟩) ty w v' w' := by
  intro ρ hρ o ho ht
  simp [execOp, ho, resolve, invoke, builtin, hρ _ _ hx, hρ _ _ hy, ht, h]

theorem WL.append {t e : TypeId} {size bytes : Nat} {z : Value} {x y : Operand} {v : Value} {n : Nat} {xs : List Value} {g : Option Nat} {b off m c : Nat} {news : List Value}
    (hx : ev s x = some v) (hy : ev s y = some (.slice (some ⟨b, off, none⟩) m c)) (hd : Nat.blt d N = true) (he : Elt P t e size bytes z) (hs : Slo w v e size n xs g)
    (hl : news.length = m * size) (hr : Rd w b off news) (h1 : ∀ u ∈ news, u.oneCell' = true) (hm : 0 < m) (hb : (n + m) * bytes ≤ 140737488355328) (hnm : n + m ≤ 9223372036854775807)
    (h : ∀ v' w' g', Slo w' v' e size (n + m) (xs ++ news) g' → Kp (fun k => g = some k) w w' → (g' = g ∨ (g' = some w.heap.size ∧ Ext w w')) → WL P N ops Q rest ((d, v') :: s) w') :
    WL P N ops Q (⟨some d, .call ⟨.builtin .append, #[x, y], #[t, t]⟩, ty, pos, after, none⟩ :: rest) s w := by
  obtain ⟨v', w', g', q1, q2, q3, q4⟩ := run_append (ty := ty) he hs hl hr h1 hm hb hnm (c := c)
  exact WL.step (ok_append_of hx hy q1) hd (h v' w' g' q2 q3 q4)

theorem WO.append {i : Nat} {t e : TypeId} {size bytes : Nat} {z : Value} {x y : Operand} {v : Value} {n : Nat} {xs : List Value} {g : Option Nat} {b off m c : Nat} {news : List Value}
    (hi : nth l i = some ⟨some d, .call ⟨.builtin .append, #[x, y], #[t, t]⟩, ty, pos, after, none⟩)
    (hx : ev s x = some v) (hy : ev s y = some (.slice (some ⟨b, off, none⟩) m c)) (hd : Nat.blt d N = true) (he : Elt P t e size bytes z) (hs : Slo w v e size n xs g)
    (hl : news.length = m * size) (hr : Rd w b off news) (h1 : ∀ u ∈ news, u.oneCell' = true) (hm : 0 < m) (hb : (n + m) * bytes ≤ 140737488355328) (hnm : n + m ≤ 9223372036854775807)
    (h : ∀ v' w' g', Slo w' v' e size (n + m) (xs ++ news) g' → Kp (fun k => g = some k) w w' → (g' = g ∨ (g' = some w.heap.size ∧ Ext w w')) →
      (L.contains i = false → S w') ∧ WO P N l Q S L r ((d, v') :: s) w') :
    WO P N l Q S L ((i, false) :: r) s w := by
  obtain ⟨v', w', g', q1, q2, q3, q4⟩ := run_append (ty := ty) he hs hl hr h1 hm hb hnm (c := c)
  have := h v' w' g' q2 q3 q4
  exact WO.loud hi (ok_append_of hx hy q1) this.1 hd this.2

theorem WO.copy {i : Nat} {dT sT e t : TypeId} {size : Nat} {x y : Operand} {b o b' o' dLen dCap sLen sCap : Nat} {c cs : List Value}
    (hi : nth l i = some ⟨some d, .call ⟨.builtin .copy, #[x, y], #[dT, sT]⟩, ty, pos, after, none⟩)
    (hx : ev s x = some (.slice (some ⟨b, o, none⟩) dLen dCap)) (hy : ev s y = some (.slice (some ⟨b', o', none⟩) sLen sCap)) (hd : Nat.blt d N = true)
    (hu : P.underlying dT = some (.slice e)) (hsz : Sz P e size) (ho : Own w b t c) (hn : cs.length = Nat.min sLen dLen * size) (hr : Rd w b' o' cs) (hfit : o + cs.length ≤ c.length) (h1 : ∀ v ∈ cs, v.oneCell' = true)
    (h : ∀ w', Own w' b t (splice c o cs) → Kp (· = b) w w' → w'.heap.size = w.heap.size → (L.contains i = false → S w') ∧ WO P N l Q S L r ((d, .int .i64 (Nat.min sLen dLen : Nat)) :: s) w') :
    WO P N l Q S L ((i, false) :: r) s w := by
  have := h _ (ho.put (splice c o cs)) (Kp.put _ _ _ rfl) (setRow_size _ _ _)
  refine WO.loud hi ?_ this.1 hd this.2
  intro ρ hρ op hop ht
  simp [execOp, hop, resolve, invoke, builtin, hρ _ _ hx, hρ _ _ hy, ht, run_copy (ty := ty) hu hsz ho hn hr hfit h1]
end
end Go.Sx
