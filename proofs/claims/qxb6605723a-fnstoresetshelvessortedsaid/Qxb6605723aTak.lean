/- Runs dropped, merged, shrunk: the rows assembled, and plainly. -/
import Derived.Test.Qxb6605723aF7
set_option linter.unusedVariables false
set_option linter.unusedSimpArgs false
namespace Go.Sx
open Go.Pl

theorem drop_cells (A sp : List Value) (r : Nat) (hr : r < A.length) (v : Value) : splice (splice (A ++ sp) (0 + r * 1) (A.drop (r + 1))) (0 + (A.length - 1) * 1) [v] = A.eraseIdx r ++ v :: sp := by
  obtain ⟨T, x, D, hA, hT⟩ : ∃ T x D, A = T ++ x :: D ∧ T.length = r := ⟨A.take r, A[r], A.drop (r + 1), by rw [List.getElem_cons_drop, List.take_append_drop], by simp; omega⟩
  subst hA
  have hd : (T ++ x :: D).drop (r + 1) = D := by rw [← hT]; simp
  have he : (T ++ x :: D).eraseIdx r = T ++ D := by rw [List.eraseIdx_append_of_length_le (by omega)]; simp [hT]
  have hy : ∃ y, (x :: D).drop D.length = [y] := by
    have : ((x :: D).drop D.length).length = 1 := by simp
    match h : (x :: D).drop D.length, this with
    | [y], _ => exact ⟨y, rfl⟩
  obtain ⟨y, hy⟩ := hy
  rw [hd, he, List.append_assoc, splice_mid T _ D _ (by omega), List.drop_append_of_le_length (by simp), hy]
  rw [show T ++ D ++ ([y] ++ sp) = (T ++ D) ++ (y :: sp) by simp, splice_mid _ _ _ _ (by simp)]
  simp

theorem erase_map {α β : Type} (f : α → β) : ∀ (l : List α) (k : Nat), (l.map f).eraseIdx k = (l.eraseIdx k).map f
  | [], k => by simp
  | a :: l, 0 => by simp
  | a :: l, k + 1 => by simp [erase_map f l k]

theorem asm_erase {w w' : World} {hd hd' : Value} {rs : List CRun} {gb sb hcap : Nat} {spg : List Value} (hR : RunsAt w hd rs (some gb)) {r : Nat} (hlt : r < rs.length)
    (hk : Kp (fun k => k = sb ∨ k = gb) w w') (hsb : sb ∉ fp (some gb) rs) (hhd : hd' = .slice (some ⟨gb, 0, none⟩) (rs.length - 1) hcap) (hrow : Own w' gb 49 ((rs.map CRun.hdr).eraseIdx r ++ spg)) (hcl : rs.length - 1 + spg.length = hcap) :
    RunsAt w' hd' (rs.eraseIdx r) (some gb) := by
  have hl : (rs.eraseIdx r).length = rs.length - 1 := by rw [List.length_eraseIdx, if_pos hlt]
  have hm : (rs.map CRun.hdr).eraseIdx r = (rs.eraseIdx r).map CRun.hdr := erase_map _ _ _
  rw [hm] at hrow
  refine ⟨.inr ⟨gb, hcap, spg, by rw [hl]; exact hhd, hrow, by simp, by rw [List.length_map, hl]; omega, by rw [hl]; omega, rfl⟩, fun x hx => ?_, ?_⟩
  · have hx' := List.mem_of_mem_eraseIdx hx
    refine (hR.run x hx').kp hk ?_
    rintro (h | h)
    · exact hsb (mem_fp.2 (.inr ⟨x, hx', h⟩))
    · have hnd : (gb :: rs.map (·.b)).Nodup := hR.nodup
      exact (List.nodup_cons.1 hnd).1 (List.mem_map.2 ⟨x, hx', h⟩)
  · have hnd : (gb :: rs.map (·.b)).Nodup := hR.nodup
    show (gb :: (rs.eraseIdx r).map (·.b)).Nodup
    refine hnd.sublist (List.Sublist.cons_cons _ ?_)
    exact (List.eraseIdx_sublist rs r).map _

theorem fp_erase {g : Option Nat} {rs : List CRun} {r b : Nat} (h : b ∈ fp g (rs.eraseIdx r)) : b ∈ fp g rs := by
  rcases mem_fp.1 h with h | ⟨x, hx, rfl⟩
  · exact mem_fp.2 (.inl h)
  · exact mem_fp.2 (.inr ⟨x, List.mem_of_mem_eraseIdx hx, rfl⟩)
theorem slots_erase (rs : List CRun) (r : Nat) : slots (rs.eraseIdx r) = (slots rs).eraseIdx r := (erase_map _ _ _).symm

/-! ### Plainly -/
def mrgL (runs : List (List Slot)) (r : Nat) : List (List Slot) := (runs.set r (runs.getD r [] ++ runs.getD (r + 1) [])).eraseIdx (r + 1)
def shrL (runs : List (List Slot)) (r : Nat) : List (List Slot) :=
  if (runs.getD r []).length = 0 then runs.eraseIdx r
  else if 0 < r ∧ (runs.getD (r - 1) []).length + (runs.getD r []).length ≤ 64 then mrgL runs (r - 1)
  else if r + 1 < runs.length ∧ (runs.getD r []).length + (runs.getD (r + 1) []).length ≤ 64 then mrgL runs r
  else runs
def takeL (runs : List (List Slot)) (r i : Nat) : List (List Slot) := shrL (runs.set r ((runs.getD r []).eraseIdx i)) r

theorem erase_empty_flat (runs : List (List Slot)) (r : Nat) (h : (runs.getD r []).length = 0) : (runs.eraseIdx r).flatten = runs.flatten := by
  rcases Nat.lt_or_ge r runs.length with hr | hr
  · have hg : runs.getD r [] = runs[r] := by simp [List.getD, hr]
    rw [hg] at h
    have h0 : runs[r] = [] := List.eq_nil_of_length_eq_zero h
    rw [List.eraseIdx_eq_take_drop_succ]
    conv => rhs; rw [← List.take_append_drop r runs, List.drop_eq_getElem_cons hr, h0]
    simp
  · rw [List.eraseIdx_of_length_le hr]

theorem mrg_form (runs : List (List Slot)) (r : Nat) (hr : r + 1 < runs.length) : mrgL runs r = runs.take r ++ (runs[r] ++ runs[r + 1]) :: runs.drop (r + 2) := by
  have h1 : runs.getD r [] = runs[r] := by simp [List.getD, show r < runs.length by omega]
  have h2 : runs.getD (r + 1) [] = runs[r + 1] := by simp [List.getD, hr]
  unfold mrgL
  rw [h1, h2, List.eraseIdx_eq_take_drop_succ, List.set_eq_take_append_cons_drop, if_pos (by omega)]
  have hl : (runs.take r).length = r := by simp; omega
  rw [List.take_append, List.drop_append, hl]
  simp [List.take_of_length_le, List.drop_of_length_le, hl, Nat.add_sub_cancel_left, show r + 1 - r = 1 by omega, show r + 1 + 1 - r = 2 by omega, show r ≤ r + 1 + 1 by omega]
theorem mrg_flat (runs : List (List Slot)) (r : Nat) (hr : r + 1 < runs.length) : (mrgL runs r).flatten = runs.flatten := by
  have h : runs = runs.take r ++ runs[r] :: runs[r + 1] :: runs.drop (r + 2) := by
    conv => lhs; rw [← List.take_append_drop r runs, List.drop_eq_getElem_cons (show r < runs.length by omega), List.drop_eq_getElem_cons hr]
  rw [mrg_form runs r hr]
  conv => rhs; rw [h]
  simp only [List.flatten_append, List.flatten_cons, List.append_assoc]
theorem shr_flat (runs : List (List Slot)) (r : Nat) (hr : r < runs.length) : (shrL runs r).flatten = runs.flatten := by
  unfold shrL
  split
  · rename_i h; exact erase_empty_flat runs r h
  · split
    · rename_i h; exact mrg_flat runs (r - 1) (by omega)
    · split
      · rename_i h; exact mrg_flat runs r h.1
      · rfl

theorem flat_erase (runs : List (List Slot)) (r i : Nat) (hr : r < runs.length) (hi : i < runs[r].length) : (runs.set r (runs[r].eraseIdx i)).flatten = runs.flatten.eraseIdx (sumL ((lens runs).take r) + i) := by
  obtain ⟨h1, h2⟩ := flat_at runs r i hr (by omega)
  have h3 : runs.flatten.drop (sumL ((lens runs).take r) + i + 1) = runs[r].drop (i + 1) ++ (runs.drop (r + 1)).flatten := by
    rw [← List.drop_drop, h2, List.drop_eq_getElem_cons hi]
    rfl
  rw [List.eraseIdx_eq_take_drop_succ (l := runs.flatten), h1, h3, List.set_eq_take_append_cons_drop, if_pos hr, List.eraseIdx_eq_take_drop_succ]
  simp only [List.flatten_append, List.flatten_cons, List.append_assoc]

/-- The lengths after a take, in order. -/
def shrN (l : List Nat) (r : Nat) : List Nat :=
  if l.getD r 0 = 0 then l.eraseIdx r
  else if 0 < r ∧ l.getD (r - 1) 0 + l.getD r 0 ≤ 64 then l.take (r - 1) ++ (l.getD (r - 1) 0 + l.getD r 0) :: l.drop (r + 1)
  else if r + 1 < l.length ∧ l.getD r 0 + l.getD (r + 1) 0 ≤ 64 then l.take r ++ (l.getD r 0 + l.getD (r + 1) 0) :: l.drop (r + 2)
  else l
theorem lens_getD (runs : List (List Slot)) (r : Nat) : (lens runs).getD r 0 = (runs.getD r []).length := by
  unfold lens
  simp only [List.getD, List.getElem?_map]
  cases runs[r]? <;> simp
theorem lens_mrg (runs : List (List Slot)) (r : Nat) (hr : r + 1 < runs.length) : lens (mrgL runs r) = (lens runs).take r ++ ((lens runs).getD r 0 + (lens runs).getD (r + 1) 0) :: (lens runs).drop (r + 2) := by
  rw [mrg_form runs r hr, lens_getD, lens_getD]
  have h1 : runs.getD r [] = runs[r] := by simp [List.getD, show r < runs.length by omega]
  have h2 : runs.getD (r + 1) [] = runs[r + 1] := by simp [List.getD, hr]
  rw [h1, h2]
  simp [lens, List.map_take, List.map_drop]
theorem lens_shr (runs : List (List Slot)) (r : Nat) (hr : r < runs.length) : lens (shrL runs r) = shrN (lens runs) r := by
  unfold shrL shrN
  have hl : (lens runs).length = runs.length := by simp [lens]
  simp only [lens_getD, hl]
  split
  · unfold lens; exact (erase_map _ _ _).symm
  · split
    · rename_i h
      rw [lens_mrg runs (r - 1) (by omega), lens_getD, lens_getD, show r - 1 + 1 = r by omega, show r - 1 + 2 = r + 1 by omega]
    · split
      · rename_i h
        rw [lens_mrg runs r h.1, lens_getD, lens_getD]
      · rfl
end Go.Sx
