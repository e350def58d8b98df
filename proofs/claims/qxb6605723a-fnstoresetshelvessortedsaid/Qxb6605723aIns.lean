/- What an insertion does to cells and to runs. -/
import Derived.Test.Qxb6605723aSlt
set_option linter.unusedVariables false
set_option linter.unusedSimpArgs false
namespace Go.Sx
open Go.Pl

theorem fill_one (size : Nat) (zs : List Value) (v : Value) (hz : zs.length = 1 * size) (hv : v.cells.size = size) :
    fillL (fun i => some (i * size, size)) zs (([0] : List Nat).zip [v]) = some v.cells.toList := by
  have h1 : v.cells.toList.length = size := by simpa using hv
  have h2 : List.drop size zs = [] := List.drop_of_length_le (by omega)
  simp only [List.zip_cons_cons, List.zip_nil_right, fillL, Nat.zero_mul, Nat.zero_add]
  rw [if_pos ⟨hv, by omega⟩]
  simp [splice, h1, hv, h2]

theorem encS_append (x y : List Slot) : encS (x ++ y) = encS x ++ encS y := by simp [encS]
theorem encS_cons (e : Slot) (y : List Slot) : encS (e :: y) = e.cells ++ encS y := by simp [encS]
theorem OkS.take {l : List Slot} (h : OkS l) (i : Nat) : OkS (l.take i) := fun s hs => h s (List.mem_of_mem_take hs)
theorem OkS.drop {l : List Slot} (h : OkS l) (i : Nat) : OkS (l.drop i) := fun s hs => h s (List.mem_of_mem_drop hs)

/-- The run's cells behind 'copy(run[i+1:], run[i:])', then 'run[i] = e'. -/
theorem ins_cells {sl : List Slot} (hs : OkS sl) {e : Slot} (he : OkSl e) (z sp : List Value) (hz : z.length = 23) (i o cap : Nat) (hi : i ≤ sl.length) (hcap : sl.length + 1 ≤ cap) (ho : o = if cap = i + 1 then 0 else 0 + (i + 1) * 23) :
    splice (splice (encS sl ++ z ++ sp) o (encS (sl.drop i))) (0 + i * 23) e.cells = encS (sl.take i ++ e :: sl.drop i) ++ sp := by
  have hec : e.cells.length = 23 := Slot.len (l := [e]) (by intro s hs; simp at hs; subst hs; exact he) e (by simp)
  have hle : (encS (sl.take i)).length = i * 23 := by rw [encS_length (hs.take i), List.length_take, Nat.min_eq_left hi]
  rcases Nat.lt_or_ge i sl.length with hlt | hge
  · have ho' : o = (i + 1) * 23 := by rw [ho, if_neg (by omega)]; omega
    have hsplit : encS sl = encS (sl.take i) ++ sl[i].cells ++ encS (sl.drop (i + 1)) := by
      conv => lhs; rw [← List.take_append_drop i sl, List.drop_eq_getElem_cons hlt]
      rw [encS_append, encS_cons, List.append_assoc]
    have hic : sl[i].cells.length = 23 := Slot.len hs _ (List.getElem_mem hlt)
    have hde : encS (sl.drop i) = sl[i].cells ++ encS (sl.drop (i + 1)) := by rw [List.drop_eq_getElem_cons hlt, encS_cons]
    have hdl : (encS (sl.drop (i + 1))).length = (sl.length - (i + 1)) * 23 := by rw [encS_length (hs.drop _), List.length_drop]
    have c1 : encS sl ++ z ++ sp = (encS (sl.take i) ++ sl[i].cells) ++ (encS (sl.drop (i + 1)) ++ z ++ sp) := by rw [hsplit]; simp [List.append_assoc]
    rw [c1, splice_mid _ _ _ o (by rw [List.length_append, hle, hic, ho', Nat.add_mul])]
    have c2 : (encS (sl.drop (i + 1)) ++ z ++ sp).drop (encS (sl.drop i)).length = sp := by
      rw [hde, List.length_append, hic]
      have : 23 + (encS (sl.drop (i + 1))).length = (encS (sl.drop (i + 1)) ++ z).length := by rw [List.length_append, hz]; omega
      rw [this, List.drop_left]
    rw [c2]
    have c3 : encS (sl.take i) ++ sl[i].cells ++ encS (sl.drop i) ++ sp = encS (sl.take i) ++ (sl[i].cells ++ (encS (sl.drop i) ++ sp)) := by simp [List.append_assoc]
    rw [c3, splice_mid _ _ _ _ (by rw [hle]; omega), hec]
    have c4 : (sl[i].cells ++ (encS (sl.drop i) ++ sp)).drop 23 = encS (sl.drop i) ++ sp := by rw [← hic, List.drop_left]
    rw [c4, encS_append, encS_cons]
    simp [List.append_assoc]
  · have hin : i = sl.length := by omega
    subst hin
    have hd : sl.drop sl.length = [] := List.drop_length
    have ht : sl.take sl.length = sl := List.take_length
    rw [hd, ht]
    have c1 : splice (encS sl ++ z ++ sp) o (encS []) = encS sl ++ (z ++ sp) := by simp [splice, encS, List.append_assoc]
    rw [ht] at hle
    rw [c1, splice_mid _ _ _ _ (by rw [hle]; omega), hec]
    have c4 : (z ++ sp).drop 23 = sp := by rw [← hz, List.drop_left]
    rw [c4, encS_append, encS_cons]
    simp [encS, List.append_assoc]

/-- One cell set in a row. -/
theorem splice_set (A sp : List Value) (r : Nat) (v : Value) (hr : r < A.length) : splice (A ++ sp) r [v] = A.set r v ++ sp := by
  unfold splice
  rw [List.take_append_of_le_length (by omega), List.set_eq_take_append_cons_drop, if_pos hr]
  have : (A ++ sp).drop (r + [v].length) = A.drop (r + 1) ++ sp := by
    rw [List.drop_append_of_le_length (by simp; omega)]; rfl
  rw [this]
  simp [List.append_assoc]

/-- The row of runs behind a split. -/
theorem split_cells' (T D sp : List Value) (a0 x v1 v2 : Value) (o : Nat) (ho : D ≠ [] → o = T.length + 2) :
    splice (splice (splice (T ++ a0 :: D ++ [x] ++ sp) o D) T.length [v1]) (T.length + 1) [v2] = T ++ [v1, v2] ++ D ++ sp := by
  have hx : ∃ y0 y1, splice (T ++ a0 :: D ++ [x] ++ sp) o D = T ++ (y0 :: y1 :: (D ++ sp)) := by
    cases D with
    | nil => exact ⟨a0, x, by simp [splice]⟩
    | cons d D' =>
      have ho' := ho (by simp)
      refine ⟨a0, d, ?_⟩
      have c1 : T ++ a0 :: d :: D' ++ [x] ++ sp = (T ++ [a0, d]) ++ (D' ++ [x] ++ sp) := by simp [List.append_assoc]
      rw [c1, splice_mid _ _ _ o (by rw [ho']; simp)]
      have c2 : (D' ++ [x] ++ sp).drop (d :: D').length = sp := by
        have : (d :: D').length = (D' ++ [x]).length := by simp
        rw [this, List.drop_left]
      rw [c2]
      simp [List.append_assoc]
  obtain ⟨y0, y1, hx⟩ := hx
  rw [hx, splice_mid _ _ _ _ rfl]
  have c2 : T ++ [v1] ++ (y0 :: y1 :: (D ++ sp)).drop [v1].length = (T ++ [v1]) ++ (y1 :: (D ++ sp)) := by simp
  rw [c2, splice_mid _ _ _ (T.length + 1) (by simp)]
  simp [List.append_assoc]

theorem split_cells (A sp : List Value) (x v1 v2 : Value) (r o : Nat) (hr : r < A.length) (ho : r + 1 < A.length → o = r + 2) :
    splice (splice (splice (A ++ [x] ++ sp) o (A.drop (r + 1))) r [v1]) (r + 1) [v2] = A.take r ++ [v1, v2] ++ A.drop (r + 1) ++ sp := by
  have h := split_cells' (A.take r) (A.drop (r + 1)) sp A[r] x v1 v2 o (fun hne => by
    have : 0 < (A.drop (r + 1)).length := List.length_pos_iff.2 hne
    rw [List.length_drop] at this
    rw [ho (by omega), List.length_take]; omega)
  have e1 : A.take r ++ A[r] :: A.drop (r + 1) = A := by rw [← List.drop_eq_getElem_cons hr, List.take_append_drop]
  have e2 : (A.take r).length = r := by rw [List.length_take]; omega
  rw [e1, e2] at h
  exact h

/-! ### The plain insertion -/
def norm (runs : List (List Slot)) (r i : Nat) : Nat × Nat := if r = runs.length then (r - 1, (runs.getD (r - 1) []).length) else (r, i)
def insRun (runs : List (List Slot)) (r i : Nat) (e : Slot) : List (List Slot) :=
  let run := (runs.getD r []).take i ++ e :: (runs.getD r []).drop i
  if run.length ≤ 128 then runs.set r run else runs.take r ++ [run.take (run.length / 2), run.drop (run.length / 2)] ++ runs.drop (r + 1)
def insAt (runs : List (List Slot)) (r i : Nat) (e : Slot) : List (List Slot) :=
  if runs = [] then [[e]] else insRun runs (norm runs r i).1 (norm runs r i).2 e

theorem nodup_fp {g : Option Nat} {rs : List CRun} (h : (fp g rs).Nodup) {r : Nat} (hr : r < rs.length) :
    (∀ b, g = some b → b ≠ rs[r].b) ∧ (∀ k (hk : k < rs.length), k ≠ r → rs[k].b ≠ rs[r].b) ∧ (∀ k (hk : k < rs.length), ∀ b, g = some b → rs[k].b ≠ b) := by
  unfold fp at h
  rw [List.nodup_append] at h
  obtain ⟨h1, h2, h3⟩ := h
  refine ⟨fun b hb e => ?_, fun k hk hne e => ?_, fun k hk b hb e => ?_⟩
  · exact h3 b (by simp [hb]) rs[r].b (List.mem_map.2 ⟨_, List.getElem_mem hr, rfl⟩) e
  · have hp := List.pairwise_iff_getElem.1 h2
    rcases Nat.lt_or_ge k r with hlt | hge
    · exact hp k r (by simpa using hk) (by simpa using hr) hlt (by simpa using e)
    · exact hp r k (by simpa using hr) (by simpa using hk) (by omega) (by simpa using e.symm)
  · exact h3 b (by simp [hb]) rs[k].b (List.mem_map.2 ⟨_, List.getElem_mem hk, rfl⟩) e.symm
end Go.Sx
namespace Go.Sx
open Go.Pl

theorem Slo.some {w : World} {v : Value} {e : TypeId} {size n : Nat} {xs : List Value} {g : Option Nat} (h : Slo w v e size n xs g) (hn : 0 < n) :
    ∃ b cap spare, v = .slice (.some ⟨b, 0, none⟩) n cap ∧ Own w b e (xs ++ spare) ∧ xs.length = n * size ∧ xs.length + spare.length = cap * size ∧ n ≤ cap ∧ g = .some b := by
  rcases h with ⟨_, h2, _, _⟩ | h
  · omega
  · exact h

theorem splice_one (c : List Value) (so : Nat) (v : Value) (h : so < c.length) : splice c so [v] = c.set so v := by
  have := splice_set c [] so v h
  simpa using this

theorem mem_fp {g : Option Nat} {rs : List CRun} {b : Nat} : b ∈ fp g rs ↔ g = some b ∨ ∃ r ∈ rs, r.b = b := by
  simp [fp, List.mem_map]

theorem RunOk.kp {M : Nat → Prop} {w w' : World} {r : CRun} (h : RunOk w r) (k : Kp M w w') (hn : ¬ M r.b) : RunOk w' r :=
  ⟨h.1, h.2.kp k fun b hb => by cases hb; exact hn⟩

/-- A run laid down. -/
theorem RunOk.mk {w : World} {b cap : Nat} {sl : List Slot} {spare : List Value} (hs : OkS sl) (ho : Own w b 54 (encS sl ++ spare)) (hl : (encS sl).length + spare.length = cap * 23) (hc : sl.length ≤ cap) : RunOk w ⟨b, cap, sl⟩ :=
  ⟨hs, .inr ⟨b, cap, spare, rfl, ho, encS_length hs, hl, hc, rfl⟩⟩

theorem asm_set {w w' : World} {hd : Value} {rs : List CRun} {gb sb hcap : Nat} {spg : List Value} (hR : RunsAt w hd rs (some gb)) {r : Nat} (hlt : r < rs.length) (C : CRun)
    (hk : Kp (fun k => k = sb ∨ k = gb ∨ k = rs[r].b) w w') (hsb : sb ∉ fp (some gb) rs) (hhd : hd = .slice (some ⟨gb, 0, none⟩) rs.length hcap)
    (hrow : Own w' gb 49 ((rs.map CRun.hdr).set r C.hdr ++ spg)) (hcl : rs.length + spg.length = hcap) (hC : RunOk w' C) (hb : C.b = rs[r].b ∨ w.heap.size ≤ C.b) :
    RunsAt w' hd (rs.set r C) (some gb) := by
  have hnd := nodup_fp hR.nodup hlt
  refine ⟨.inr ⟨gb, hcap, spg, by simpa using hhd, by rw [List.map_set]; exact hrow, by simp, by simpa using hcl, by simp; omega, rfl⟩, fun x hx => ?_, ?_⟩
  · obtain ⟨k, hkl, rfl⟩ := List.mem_iff_getElem.1 hx
    rw [List.getElem_set]
    split
    · exact hC
    · rename_i hne
      have hkl' : k < rs.length := by simpa using hkl
      refine (hR.run _ (List.getElem_mem hkl')).kp hk ?_
      rintro (h | h | h)
      · exact hsb (mem_fp.2 (.inr ⟨_, List.getElem_mem hkl', h⟩))
      · exact hnd.2.2 k hkl' gb rfl h
      · exact hnd.2.1 k hkl' (fun e => hne e.symm) h
  · have h1 : (gb :: rs.map (·.b)).Nodup := hR.nodup
    show (gb :: (rs.set r C).map (·.b)).Nodup
    rw [List.map_set]
    rcases hb with hb | hb
    · have : (rs.map (·.b)).set r C.b = rs.map (·.b) := by
        rw [hb]
        have : rs[r].b = (rs.map (·.b))[r]'(by simpa using hlt) := by simp
        rw [this, List.set_getElem_self]
      rw [this]; exact h1
    · have hfresh : ∀ x ∈ gb :: rs.map (·.b), x ≠ C.b := fun x hx => by have := hR.lt x hx; omega
      refine List.pairwise_iff_getElem.2 ?_
      intro i j hi hj hij
      have hp := List.pairwise_iff_getElem.1 h1
      cases i with
      | zero =>
        cases j with
        | zero => omega
        | succ j =>
          simp only [List.getElem_cons_zero, List.getElem_cons_succ]
          rw [List.getElem_set]
          split
          · exact hfresh gb (by simp)
          · have := hp 0 (j + 1) (by simp) (by simpa using hj) (by omega); simpa using this
      | succ i =>
        cases j with
        | zero => omega
        | succ j =>
          simp only [List.getElem_cons_succ]
          rw [List.getElem_set, List.getElem_set]
          split
          · split
            · omega
            · exact (hfresh _ (List.mem_cons_of_mem _ (List.getElem_mem _))).symm
          · split
            · exact hfresh _ (List.mem_cons_of_mem _ (List.getElem_mem _))
            · have := hp (i + 1) (j + 1) (by simpa using hi) (by simpa using hj) (by omega); simpa using this

theorem asm_split {w w' : World} {hd hd' : Value} {rs : List CRun} {gb g2 sb cap2 : Nat} {spg : List Value} (hR : RunsAt w hd rs (some gb)) {r : Nat} (hlt : r < rs.length) (C D : CRun)
    (hk : Kp (fun k => k = sb ∨ k = gb ∨ k = rs[r].b) w w') (hsb : sb ∉ fp (some gb) rs) (hhd : hd' = .slice (some ⟨g2, 0, none⟩) (rs.length + 1) cap2)
    (hrow : Own w' g2 49 ((rs.map CRun.hdr).take r ++ [C.hdr, D.hdr] ++ (rs.map CRun.hdr).drop (r + 1) ++ spg)) (hcl : rs.length + 1 + spg.length = cap2) (hC : RunOk w' C) (hD : RunOk w' D)
    (hg2 : g2 = gb ∨ w.heap.size ≤ g2) (hcb : w.heap.size ≤ C.b) (hdb : w.heap.size ≤ D.b) (h1 : C.b ≠ D.b) (h2 : g2 ≠ C.b) (h3 : g2 ≠ D.b) :
    RunsAt w' hd' (rs.take r ++ [C, D] ++ rs.drop (r + 1)) (some g2) := by
  have hnd := nodup_fp hR.nodup hlt
  have hlen : (rs.take r ++ [C, D] ++ rs.drop (r + 1)).length = rs.length + 1 := by simp; omega
  refine ⟨.inr ⟨g2, cap2, spg, by rw [hlen]; exact hhd, by simpa using hrow, by simp, by rw [Nat.mul_one, List.length_map, hlen]; exact hcl, by rw [hlen]; omega, rfl⟩, fun x hx => ?_, ?_⟩
  · have keep : ∀ x, (∃ k, ∃ hk : k < rs.length, k ≠ r ∧ rs[k] = x) → RunOk w' x := by
      rintro x ⟨k, hkl, hne, rfl⟩
      refine (hR.run _ (List.getElem_mem hkl)).kp hk ?_
      rintro (h | h | h)
      · exact hsb (mem_fp.2 (.inr ⟨_, List.getElem_mem hkl, h⟩))
      · exact hnd.2.2 k hkl gb rfl h
      · exact hnd.2.1 k hkl hne h
    simp only [List.mem_append, List.mem_cons, List.not_mem_nil, or_false] at hx
    rcases hx with (hx | rfl | rfl) | hx
    · obtain ⟨k, hkl, rfl⟩ := List.mem_iff_getElem.1 hx
      simp at hkl
      exact keep _ ⟨k, by omega, by omega, by simp⟩
    · exact hC
    · exact hD
    · obtain ⟨k, hkl, rfl⟩ := List.mem_iff_getElem.1 hx
      simp at hkl
      exact keep _ ⟨r + 1 + k, by omega, by omega, by simp⟩
  · have hold : ∀ b ∈ rs.map (·.b), b < w.heap.size := fun b hb => hR.lt b (List.mem_append_right _ hb)
    have hn0 : (gb :: rs.map (·.b)).Nodup := hR.nodup
    have hn1 : (rs.map (·.b)).Nodup := (List.nodup_cons.1 hn0).2
    have hgn : gb ∉ rs.map (·.b) := (List.nodup_cons.1 hn0).1
    have hg2n : ∀ b ∈ rs.map (·.b), b ≠ g2 := by
      intro b hb e
      subst e
      rcases hg2 with rfl | h
      · exact hgn hb
      · have := hold b hb; omega
    show (g2 :: (rs.take r ++ [C, D] ++ rs.drop (r + 1)).map (·.b)).Nodup
    simp only [List.map_append, List.map_cons, List.map_nil, List.map_take, List.map_drop]
    generalize rs.map (·.b) = l at *
    have ht : ∀ b ∈ l.take r, b ∈ l := fun b hb => List.mem_of_mem_take hb
    have hdr : ∀ b ∈ l.drop (r + 1), b ∈ l := fun b hb => List.mem_of_mem_drop hb
    have hsep : ∀ b ∈ l.take r, ∀ b' ∈ l.drop (r + 1), b ≠ b' := by
      intro b hb b' hb'
      obtain ⟨i, hi, rfl⟩ := List.mem_iff_getElem.1 hb
      obtain ⟨j, hj, rfl⟩ := List.mem_iff_getElem.1 hb'
      simp at hi hj
      have := List.pairwise_iff_getElem.1 hn1 i (r + 1 + j) (by omega) (by omega) (by omega)
      simpa using this
    refine List.nodup_cons.2 ⟨?_, ?_⟩
    · simp only [List.mem_append, List.mem_cons, List.not_mem_nil, or_false]
      rintro ((h | h | h) | h)
      · exact hg2n _ (ht _ h) rfl
      · exact h2 h
      · exact h3 h
      · exact hg2n _ (hdr _ h) rfl
    · rw [List.nodup_append, List.nodup_append]
      refine ⟨⟨hn1.sublist (List.take_sublist _ _), by simp [h1], ?_⟩, hn1.sublist (List.drop_sublist _ _), ?_⟩
      · intro b hb b' hb'
        have := hold b (ht b hb)
        simp at hb'
        rcases hb' with rfl | rfl <;> omega
      · intro b hb b' hb'
        simp only [List.mem_append, List.mem_cons, List.not_mem_nil, or_false] at hb
        have := hold b' (hdr b' hb')
        rcases hb with hb | rfl | rfl
        · exact hsep b hb b' hb'
        · omega
        · omega

theorem zslot_one' {l : List Value} (h : l.all (fun v => v.oneCell') = true) : ∀ u ∈ l, u.oneCell' = true := by
  intro u hu; exact List.all_eq_true.1 h u hu

theorem norm_lt {rs : List CRun} {r i : Nat} (h : r < rs.length) : norm (slots rs) r i = (r, i) := by
  unfold norm; rw [if_neg (by rw [slots_length]; omega)]
theorem norm_end {rs : List CRun} {r i : Nat} (h : r = rs.length) (hr : r - 1 < rs.length) : norm (slots rs) r i = (r - 1, rs[r - 1].sl.length) := by
  unfold norm; rw [if_pos (by rw [slots_length]; exact h)]
  simp [List.getD, slots_get rs (r - 1) hr]
end Go.Sx
namespace Go.Sx
open Go.Pl
theorem set_same (c : List Value) (so : Nat) (v : Value) (h : c[so]? = some v) : c.set so v = c := by
  apply List.ext_getElem?
  intro j
  rw [List.getElem?_set]
  split
  · rename_i e; subst e; rw [if_pos (lt_of_get h), h]
  · rfl

theorem ok_quoN {P : Program} {s : Store} {ty : TypeId} {w : World} {x y : Operand} {t t' : TypeId} (m : Nat) {a : Nat} {c : Int} (hx : ev s x = some (.int .i64 (a : Nat))) (hy : ev s y = some (.int .i64 c)) (hc : c = (m : Nat)) (hm : 0 < m) (hb : a ≤ 9223372036854775807) :
    OpOk P s (.binOp .quo t x y t') ty w (.int .i64 ((a / m : Nat))) w := by
  subst hc
  have h := ok_quoW (P := P) (t := t) (t' := t') (ty := ty) (w := w) hx hy (by omega)
  have e : Int.tdiv (a : Int) (m : Int) = ((a / m : Nat) : Int) := (Int.ofNat_tdiv a m).symm
  have h2 : a / m ≤ a := Nat.div_le_self _ _
  rw [e] at h
  generalize a / m = q at *
  rw [wrap_i64 (by omega) (by omega)] at h
  exact h

theorem hdrs_one (rs : List CRun) (r : Nat) (a : Option Addr) (n c : Nat) : ∀ u ∈ (rs.map CRun.hdr).set r (.slice a n c), u.oneCell' = true := by
  intro u hu
  rcases List.mem_or_eq_of_mem_set hu with h | h
  · obtain ⟨x, _, rfl⟩ := List.mem_map.1 h; rfl
  · subst h; rfl

theorem insRun_set {runs : List (List Slot)} {r i : Nat} {e : Slot} (hr : r < runs.length) (hi : i ≤ runs[r].length) (hle : runs[r].length + 1 ≤ 128) : insRun runs r i e = runs.set r (runs[r].take i ++ e :: runs[r].drop i) := by
  have e1 : runs.getD r [] = runs[r] := by simp [List.getD, hr]
  unfold insRun
  simp only [e1]
  rw [if_pos (by simp; omega)]
theorem insRun_split {runs : List (List Slot)} {r i : Nat} {e : Slot} (hr : r < runs.length) (hi : i ≤ runs[r].length) (hle : runs[r].length = 128) :
    insRun runs r i e = runs.take r ++ [(runs[r].take i ++ e :: runs[r].drop i).take 64, (runs[r].take i ++ e :: runs[r].drop i).drop 64] ++ runs.drop (r + 1) := by
  have e1 : runs.getD r [] = runs[r] := by simp [List.getD, hr]
  have e2 : (runs[r].take i ++ e :: runs[r].drop i).length = 129 := by simp; omega
  unfold insRun
  simp only [e1, e2]
  rw [if_neg (by omega)]
theorem insAt_ne {runs : List (List Slot)} {r i r' i' : Nat} {e : Slot} (hne : runs ≠ []) (hn : (r', i') = norm runs r i) : insAt runs r i e = insRun runs r' i' e := by
  unfold insAt
  rw [if_neg hne, ← hn]
end Go.Sx
