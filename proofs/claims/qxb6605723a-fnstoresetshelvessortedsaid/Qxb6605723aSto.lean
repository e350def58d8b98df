/- The store's law, plainly. -/
import Derived.Test.Qxb6605723aW11
import Derived.Test.Qxb6605723aSxP
set_option linter.unusedVariables false
set_option linter.unusedSimpArgs false
namespace Go.Sx
open Go.Pl

theorem ba_toList {a b : ByteArray} (h : a.toList = b.toList) : a = b := by
  rw [ByteArray.toList_eq, ByteArray.toList_eq] at h
  obtain ⟨⟨x⟩⟩ := a
  obtain ⟨⟨y⟩⟩ := b
  simp at h
  rw [h]

theorem Bd_mid {l : List Nat} (h : Bd l) {a b x : Nat} (ha : a ≤ l.length) (hx : 1 ≤ x ∧ x ≤ 128) (hp : ∀ m, 0 < a → l[a - 1]? = some m → 64 < m + x) (hn : ∀ m, l[b]? = some m → 64 < x + m) : Bd (l.take a ++ x :: l.drop b) := by
  obtain ⟨b1, b2⟩ := (Bd_iff l).1 h
  have htl : (l.take a).length = a := by simp; omega
  have gs : ∀ (j m : Nat), (l.take a ++ x :: l.drop b)[j]? = some m → (j < a ∧ l[j]? = some m) ∨ (j = a ∧ m = x) ∨ (a < j ∧ l[b + (j - a - 1)]? = some m) := by
    intro j m hm
    rcases Nat.lt_trichotomy j a with hj | hj | hj
    · rw [List.getElem?_append_left (by omega), List.getElem?_take_of_lt hj] at hm
      exact .inl ⟨hj, hm⟩
    · rw [List.getElem?_append_right (by omega), htl, hj] at hm
      simp at hm
      exact .inr (.inl ⟨hj, hm.symm⟩)
    · rw [List.getElem?_append_right (by omega), htl, show j - a = (j - a - 1) + 1 by omega, List.getElem?_cons_succ, List.getElem?_drop] at hm
      exact .inr (.inr ⟨hj, hm⟩)
  rw [Bd_iff]
  refine ⟨fun j m hj => ?_, fun j m n hj hn' => ?_⟩
  · rcases gs j m hj with ⟨_, h⟩ | ⟨_, rfl⟩ | ⟨_, h⟩
    · exact b1 _ _ h
    · exact hx
    · exact b1 _ _ h
  · rcases gs j m hj with ⟨c1, h1⟩ | ⟨c1, rfl⟩ | ⟨c1, h1⟩ <;> rcases gs (j + 1) n hn' with ⟨c2, h2⟩ | ⟨c2, rfl⟩ | ⟨c2, h2⟩
    · exact b2 _ _ _ h1 h2
    · exact hp m (by omega) (by rw [show a - 1 = j by omega]; exact h1)
    · omega
    · omega
    · omega
    · exact hn n (by rw [show b + (j + 1 - a - 1) = b by omega] at h2; exact h2)
    · omega
    · omega
    · exact b2 _ _ _ h1 (by rw [show b + (j - a - 1) + 1 = b + (j + 1 - a - 1) by omega]; exact h2)

theorem Bd_cut {l : List Nat} (h : Bd l) {r : Nat} (hr : r ≤ l.length) (hj : ∀ m n, 0 < r → l[r - 1]? = some m → l[r + 1]? = some n → 64 < m + n) : Bd (l.take r ++ l.drop (r + 1)) := by
  obtain ⟨b1, b2⟩ := (Bd_iff l).1 h
  have htl : (l.take r).length = r := by simp; omega
  have gs : ∀ (j m : Nat), (l.take r ++ l.drop (r + 1))[j]? = some m → (j < r ∧ l[j]? = some m) ∨ (r ≤ j ∧ l[j + 1]? = some m) := by
    intro j m hm
    rcases Nat.lt_or_ge j r with hj | hj
    · rw [List.getElem?_append_left (by omega), List.getElem?_take_of_lt hj] at hm
      exact .inl ⟨hj, hm⟩
    · rw [List.getElem?_append_right (by omega), htl, List.getElem?_drop] at hm
      exact .inr ⟨hj, by rw [show j + 1 = r + 1 + (j - r) by omega]; exact hm⟩
  rw [Bd_iff]
  refine ⟨fun j m hm => ?_, fun j m n hm hn' => ?_⟩
  · rcases gs j m hm with ⟨_, h⟩ | ⟨_, h⟩
    · exact b1 _ _ h
    · exact b1 _ _ h
  · rcases gs j m hm with ⟨c1, h1⟩ | ⟨c1, h1⟩ <;> rcases gs (j + 1) n hn' with ⟨c2, h2⟩ | ⟨c2, h2⟩
    · exact b2 _ _ _ h1 h2
    · exact hj m n (by omega) (by rw [show r - 1 = j by omega]; exact h1) (by rw [show r + 1 = j + 1 + 1 by omega]; exact h2)
    · omega
    · exact b2 _ _ _ h1 h2

theorem getD_eq {l : List Nat} {j : Nat} (hj : j < l.length) : l.getD j 0 = l[j] := by simp [List.getD, hj]
theorem getD_set_ne {l : List Nat} {j k x : Nat} (h : j ≠ k) : (l.set j x).getD k 0 = l.getD k 0 := by simp [List.getD, List.getElem?_set, h]

theorem Bd_shr {l : List Nat} (h : Bd l) {r : Nat} (hr : r < l.length) : Bd (shrN (l.set r (l[r] - 1)) r) := by
  have hb := h
  obtain ⟨b1, b2⟩ := (Bd_iff l).1 h
  have hm := b1 r _ (List.getElem?_eq_getElem hr)
  have g0 : (l.set r (l[r] - 1)).getD r 0 = l[r] - 1 := by simp [List.getD, hr]
  have hlen : (l.set r (l[r] - 1)).length = l.length := by simp
  have nx : ∀ n, l[r + 1]? = some n → 64 < l[r] + n := fun n hn => b2 r _ n (List.getElem?_eq_getElem hr) hn
  have pv : ∀ m, 0 < r → l[r - 1]? = some m → 64 < m + l[r] := fun m h0 hm => b2 (r - 1) m _ hm (by rw [show r - 1 + 1 = r by omega]; exact List.getElem?_eq_getElem hr)
  unfold shrN
  rw [g0, hlen]
  split
  · rw [List.eraseIdx_eq_take_drop_succ, List.take_set_of_le (Nat.le_refl _), List.drop_set_of_lt (Nat.lt_succ_self _)]
    refine Bd_cut hb (by omega) ?_
    intro m n h0 hm' hn'
    have := nx n hn'
    have := pv m h0 hm'
    omega
  · rename_i h1
    split
    · rename_i h2
      have hrm : r - 1 < l.length := by omega
      have hge := List.getElem?_eq_getElem hrm
      rw [getD_set_ne (by omega), getD_eq hrm] at h2 ⊢
      have hbm := b1 _ _ hge
      rw [List.take_set_of_le (by omega), List.drop_set_of_lt (Nat.lt_succ_self _)]
      refine Bd_mid hb (by omega) (by omega) ?_ ?_
      · intro m h0 hm'
        have := b2 (r - 1 - 1) m l[r - 1] hm' (by rw [show r - 1 - 1 + 1 = r - 1 by omega]; exact hge)
        omega
      · intro m hm'
        have := nx m hm'
        omega
    · rename_i h2
      split
      · rename_i h3
        have hrp : r + 1 < l.length := h3.1
        have hge := List.getElem?_eq_getElem hrp
        rw [getD_set_ne (by omega), getD_eq hrp] at h3 ⊢
        have hbm := b1 _ _ hge
        rw [List.take_set_of_le (Nat.le_refl _), List.drop_set_of_lt (by omega)]
        refine Bd_mid hb (by omega) (by omega) ?_ ?_
        · intro m h0 hm'
          have := pv m h0 hm'
          omega
        · intro m hm'
          have := b2 (r + 1) l[r + 1] m hge hm'
          omega
      · rename_i h3
        rw [List.set_eq_take_append_cons_drop, if_pos hr]
        refine Bd_mid hb (by omega) (by omega) ?_ ?_
        · intro m h0 hm'
          have h4 : ¬ (l.getD (r - 1) 0 + (l[r] - 1) ≤ 64) := fun q => h2 ⟨h0, by rw [getD_set_ne (by omega)]; exact q⟩
          have : l.getD (r - 1) 0 = m := by simp [List.getD, hm']
          omega
        · intro m hm'
          have hrp := lt_of_get hm'
          have h4 : ¬ (l[r] - 1 + l.getD (r + 1) 0 ≤ 64) := fun q => h3 ⟨hrp, by rw [getD_set_ne (by omega)]; exact q⟩
          have : l.getD (r + 1) 0 = m := by simp [List.getD, hm']
          omega

theorem mem_erase {l : List Pr} (hn : l.Nodup) {c : Nat} {p : Pr} (hc : l[c]? = some p) (q : Pr) : q ∈ l.eraseIdx c ↔ q ∈ l ∧ q ≠ p := by
  obtain ⟨hl, he⟩ := List.getElem?_eq_some_iff.1 hc
  have hsplit : l = l.take c ++ p :: l.drop (c + 1) := by rw [← he, List.getElem_cons_drop, List.take_append_drop]
  rw [List.eraseIdx_eq_take_drop_succ]
  have hn' := hn
  rw [hsplit, List.nodup_append] at hn'
  obtain ⟨n1, n2, n3⟩ := hn'
  have n2' := List.nodup_cons.1 n2
  constructor
  · intro h
    rcases List.mem_append.1 h with h | h
    · exact ⟨List.mem_of_mem_take h, fun e => n3 q h p (by simp) e⟩
    · exact ⟨List.mem_of_mem_drop h, fun e => n2'.1 (e ▸ h)⟩
  · rintro ⟨h1, h2⟩
    rw [hsplit] at h1
    rcases List.mem_append.1 h1 with h | h
    · exact List.mem_append_left _ h
    · rcases List.mem_cons.1 h with h | h
      · exact absurd h h2
      · exact List.mem_append_right _ h

/-- What a take makes of a shelf that holds the pair. -/
theorem Inv.take {runs : List (List Slot)} (h : Inv runs) {k n : List UInt8} (hk : k.length = 20) (hm : (k, n) ∈ prs runs) {r i : Nat} (hp : placeOf (lens runs) (cntF (geP k n) runs.flatten) = (r, i)) :
    r < runs.length ∧ (takeL runs r i).flatten = runs.flatten.eraseIdx (cntF (geP k n) runs.flatten) ∧ Inv (takeL runs r i) ∧ ∀ p, p ∈ prs (takeL runs r i) ↔ p ∈ prs runs ∧ p ≠ (k, n) := by
  have hat := place_at runs _ _ _ hp
  have hh := (rank_hit (p := (k, n)) hk h.srt h.key).1 hm
  rw [← cntF_rank] at hh
  have hps : (prs runs)[cntF (geP k n) runs.flatten]? = (runs.flatten[cntF (geP k n) runs.flatten]?).map ps := List.getElem?_map
  have hr : r < runs.length := by
    rcases Nat.lt_or_ge r runs.length with hr | hr
    · exact hr
    · rw [hps, ← hat] at hh
      simp [hr] at hh
  have hi : i < runs[r].length := by
    rcases Nat.lt_or_ge i runs[r].length with hi | hi
    · exact hi
    · rw [hps, ← hat] at hh
      simp [hr, hi] at hh
  have hg : runs.getD r [] = runs[r] := by simp [List.getD, hr]
  have hc : cntF (geP k n) runs.flatten = sumL ((lens runs).take r) + i := ((placeOf_pos _ _ _ _ hp).1 (by simpa [lens] using hr)).1
  have hflat : (takeL runs r i).flatten = runs.flatten.eraseIdx (cntF (geP k n) runs.flatten) := by
    unfold takeL
    rw [hg, shr_flat _ _ (by simpa using hr), flat_erase runs r i hr hi, hc]
  have hprs : prs (takeL runs r i) = (prs runs).eraseIdx (cntF (geP k n) runs.flatten) := by
    unfold prs
    rw [hflat, ← erase_map]
  have hmem : ∀ p, p ∈ prs (takeL runs r i) ↔ p ∈ prs runs ∧ p ≠ (k, n) := fun p => by rw [hprs]; exact mem_erase (srt_nodup h.srt h.key) hh p
  refine ⟨hr, hflat, ⟨?_, fun p hp' => h.key p ((hmem p).1 hp').1, ?_⟩, hmem⟩
  · rw [hprs]
    exact h.srt.sublist (List.eraseIdx_sublist _ _)
  · unfold takeL
    rw [lens_shr _ _ (by simpa using hr), hg]
    have : lens (runs.set r (runs[r].eraseIdx i)) = (lens runs).set r ((lens runs)[r]'(by simpa [lens] using hr) - 1) := by
      unfold lens
      rw [List.map_set, List.length_eraseIdx, if_pos hi]
      simp
    rw [this]
    exact Bd_shr h.bd (by simpa [lens] using hr)
end Go.Sx
