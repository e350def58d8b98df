/- The order of play, plainly. -/
set_option linter.unusedVariables false
set_option linter.unusedSimpArgs false
namespace Go.Po

abbrev Lk := List (List Nat)
def lkOf (lk : Lk) (i : Nat) : List Nat := lk.getD i []
theorem lkOf_eq (lk : Lk) (i : Nat) (h : i < lk.length) : lkOf lk i = lk[i] := by simp [lkOf, List.getD, h]
def roots (lk : Lk) (i : Nat) : List Nat := (List.range i).filter (fun m => (lkOf lk m).isEmpty)
theorem roots_succ (lk : Lk) (i : Nat) : roots lk (i + 1) = if (lkOf lk i).isEmpty then roots lk i ++ [i] else roots lk i := by
  unfold roots
  rw [List.range_succ, List.filter_append]
  by_cases h : (lkOf lk i).isEmpty <;> simp [h]
theorem mem_roots (lk : Lk) (n i : Nat) : i ∈ roots lk n ↔ i < n ∧ lkOf lk i = [] := by simp [roots, List.isEmpty_iff]
theorem roots_nodup (lk : Lk) (n : Nat) : (roots lk n).Nodup := List.Pairwise.filter _ List.nodup_range
theorem roots_len (lk : Lk) (n : Nat) : (roots lk n).length ≤ n := by
  have := List.length_filter_le (fun m => (lkOf lk m).isEmpty) (List.range n)
  simpa [roots] using this
/-- The steps below i that wait on j, once a link. -/
def aft (lk : Lk) (i j : Nat) : List Nat := (List.range i).flatMap (fun m => List.replicate ((lkOf lk m).count j) m)
theorem aft_zero (lk : Lk) (j : Nat) : aft lk 0 j = [] := rfl
theorem aft_succ (lk : Lk) (i j : Nat) : aft lk (i + 1) j = aft lk i j ++ List.replicate ((lkOf lk i).count j) i := by
  unfold aft
  rw [List.range_succ, List.flatMap_append]
  simp
theorem count_aft (lk : Lk) (j i : Nat) : ∀ n, (aft lk n j).count i = if i < n then (lkOf lk i).count j else 0
  | 0 => by simp [aft_zero]
  | n + 1 => by
    rw [aft_succ, List.count_append, count_aft lk j i n, List.count_replicate]
    by_cases h1 : i < n
    · have h2 : ¬ n = i := by omega
      simp [h1, h2, show i < n + 1 by omega]
    · by_cases h2 : n = i
      · subst h2; simp
      · simp [h1, h2, show ¬ i < n + 1 by omega]
theorem mem_aft {lk : Lk} {n j i : Nat} (h : i ∈ aft lk n j) : i < n ∧ j ∈ lkOf lk i := by
  have h1 := List.count_pos_iff.2 h
  rw [count_aft] at h1
  split at h1
  · exact ⟨by assumption, List.count_pos_iff.1 h1⟩
  · omega
def un (lk : Lk) (ord : List Nat) (k i : Nat) : Nat := (lkOf lk i).countP (fun x => decide (x ∉ ord.take k))

/-- The second loop's state: D is the part of the waiting steps of ord[k] that has been gone through. -/
structure PInv (lk : Lk) (n : Nat) (W ord : List Nat) (k : Nat) (D : List Nat) : Prop where
  lenW : W.length = n
  nd : ord.Nodup
  lt : ∀ i ∈ ord, i < n
  w : ∀ i, i < n → W.getD i 0 + D.count i = un lk ord k i
  z : ∀ i, i < n → (i ∈ ord ↔ W.getD i 0 = 0)
  top : ∀ p i, ord[p]? = some i → ∀ x ∈ lkOf lk i, x ∈ ord.take p
  rts : ∃ rest, ord = roots lk n ++ rest ∧ ∀ i ∈ rest, lkOf lk i ≠ []

theorem countP_split (j : Nat) (T : List Nat) (hj : j ∉ T) (l : List Nat) : l.countP (fun x => decide (x ∉ T)) = l.countP (fun x => decide (x ∉ T ++ [j])) + l.count j := by
  induction l with
  | nil => rfl
  | cons a l ih =>
    rw [List.countP_cons, List.countP_cons, List.count_cons, ih]
    by_cases ha : a = j
    · subst ha; simp [hj]; omega
    · have : ¬ (a == j) = true := by simpa using ha
      by_cases hT : a ∈ T
      · simp [hT, ha]
      · simp [hT, ha]; omega
theorem un_succ (lk : Lk) {ord : List Nat} {k : Nat} (i : Nat) (hk : k < ord.length) (hnd : ord.Nodup) : un lk ord k i = un lk ord (k + 1) i + (lkOf lk i).count ord[k] := by
  unfold un
  rw [List.take_succ_eq_append_getElem hk]
  refine countP_split _ _ ?_ _
  intro hm
  obtain ⟨p, hp, e⟩ := List.mem_iff_getElem.1 hm
  rw [List.getElem_take] at e
  have := (List.getElem_inj hnd).1 e
  simp at hp
  omega
theorem un_app (lk : Lk) (ord : List Nat) (i k m : Nat) (hk : k ≤ ord.length) : un lk (ord ++ [m]) k i = un lk ord k i := by
  unfold un; rw [List.take_append_of_le_length hk]
theorem getD_set (W : List Nat) (i m v : Nat) (h : i < W.length) : (W.set i v).getD m 0 = if m = i then v else W.getD m 0 := by
  simp only [List.getD, List.getElem?_set]
  by_cases e : i = m
  · subst e; simp [h]
  · rw [if_neg e, if_neg (fun q => e q.symm)]

theorem PInv.pos {lk : Lk} {n : Nat} {W ord : List Nat} {k : Nat} {D E : List Nat} {i : Nat} (h : PInv lk n W ord k D) (hk : k < ord.length) (ha : aft lk n ord[k] = D ++ i :: E) : i < n ∧ 0 < W.getD i 0 ∧ i ∉ ord := by
  have hi : i < n ∧ ord[k] ∈ lkOf lk i := mem_aft (n := n) (by rw [ha]; simp)
  have h1 := h.w i hi.1
  have h2 := un_succ lk i hk h.nd
  have h3 := count_aft lk ord[k] i n
  rw [ha, if_pos hi.1, List.count_append, List.count_cons_self] at h3
  have h4 : 0 < W.getD i 0 := by omega
  exact ⟨hi.1, h4, fun hm => by have := (h.z i hi.1).1 hm; omega⟩

theorem PInv.dec {lk : Lk} {n : Nat} {W ord : List Nat} {k : Nat} {D E : List Nat} {i : Nat} (h : PInv lk n W ord k D) (hk : k < ord.length) (ha : aft lk n ord[k] = D ++ i :: E) (hne : W.getD i 0 - 1 ≠ 0) :
    PInv lk n (W.set i (W.getD i 0 - 1)) ord k (D ++ [i]) := by
  obtain ⟨hi, hpos, hno⟩ := h.pos hk ha
  have hl : i < W.length := by rw [h.lenW]; exact hi
  refine ⟨by simp [h.lenW], h.nd, h.lt, fun m hm => ?_, fun m hm => ?_, h.top, h.rts⟩
  · rw [getD_set _ _ _ _ hl, List.count_append, ← h.w m hm]
    by_cases e : m = i
    · subst e; rw [if_pos rfl, List.count_singleton_self]; omega
    · have : ¬ i = m := fun q => e q.symm
      rw [if_neg e, List.count_eq_zero_of_not_mem (show m ∉ [i] by simpa using e)]; rfl
  · rw [getD_set _ _ _ _ hl]
    by_cases e : m = i
    · subst e
      rw [if_pos rfl]
      exact ⟨fun q => absurd q hno, fun q => absurd q hne⟩
    · rw [if_neg e]; exact h.z m hm

theorem PInv.put {lk : Lk} {n : Nat} {W ord : List Nat} {k : Nat} {D E : List Nat} {i : Nat} (h : PInv lk n W ord k D) (hk : k < ord.length) (ha : aft lk n ord[k] = D ++ i :: E) (hz : W.getD i 0 - 1 = 0) :
    PInv lk n (W.set i (W.getD i 0 - 1)) (ord ++ [i]) k (D ++ [i]) := by
  obtain ⟨hi, hpos, hno⟩ := h.pos hk ha
  have hl : i < W.length := by rw [h.lenW]; exact hi
  have hmem : ord[k] ∈ lkOf lk i := (mem_aft (n := n) (i := i) (by rw [ha]; simp)).2
  refine ⟨by simp [h.lenW], ?_, ?_, fun m hm => ?_, fun m hm => ?_, ?_, ?_⟩
  · rw [List.nodup_append]
    exact ⟨h.nd, by simp, fun a ha' b hb e => by simp at hb; subst hb; subst e; exact hno ha'⟩
  · intro m hm
    rcases List.mem_append.1 hm with hm | hm
    · exact h.lt m hm
    · simp at hm; omega
  · rw [getD_set _ _ _ _ hl, List.count_append, un_app lk ord m k i (by omega), ← h.w m hm]
    by_cases e : m = i
    · subst e; rw [if_pos rfl, List.count_singleton_self]; omega
    · have : ¬ i = m := fun q => e q.symm
      rw [if_neg e, List.count_eq_zero_of_not_mem (show m ∉ [i] by simpa using e)]; rfl
  · rw [getD_set _ _ _ _ hl]
    by_cases e : m = i
    · subst e; rw [if_pos rfl, hz]; simp
    · rw [if_neg e, ← h.z m hm]; simp [e]
  · intro p m hp x hx
    by_cases hpl : p < ord.length
    · rw [List.getElem?_append_left hpl] at hp
      rw [List.take_append_of_le_length (by omega)]
      exact h.top p m hp x hx
    · have hp2 : p = ord.length := by
        have := (List.getElem?_eq_some_iff.1 hp).1
        simp at this; omega
      subst hp2
      rw [List.getElem?_append_right (by omega)] at hp
      simp at hp
      subst hp
      rw [List.take_append_of_le_length (by omega), List.take_length]
      have h1 := h.w i hi
      have h2 := un_succ lk i hk h.nd
      have h3 := count_aft lk ord[k] i n
      rw [ha, if_pos hi, List.count_append, List.count_cons_self] at h3
      have h4 : un lk ord (k + 1) i = 0 := by omega
      have h5 := List.countP_eq_zero.1 h4 x hx
      simp at h5
      exact List.mem_of_mem_take h5
  · obtain ⟨rest, e, hr⟩ := h.rts
    refine ⟨rest ++ [i], by rw [e, List.append_assoc], fun m hm => ?_⟩
    rcases List.mem_append.1 hm with hm | hm
    · exact hr m hm
    · simp at hm
      subst hm
      intro e2
      rw [e2] at hmem
      simp at hmem

theorem PInv.next {lk : Lk} {n : Nat} {W ord : List Nat} {k : Nat} {D : List Nat} (h : PInv lk n W ord k D) (hk : k < ord.length) (ha : aft lk n ord[k] = D) : PInv lk n W ord (k + 1) [] := by
  refine ⟨h.lenW, h.nd, h.lt, fun i hi => ?_, h.z, h.top, h.rts⟩
  have h1 := h.w i hi
  have h2 := un_succ lk i hk h.nd
  have h3 := count_aft lk ord[k] i n
  rw [ha, if_pos hi] at h3
  rw [List.count_nil]
  omega

theorem PInv.start (lk : Lk) : PInv lk lk.length (lk.map List.length) (roots lk lk.length) 0 [] := by
  refine ⟨by simp, roots_nodup _ _, fun i hi => ((mem_roots lk _ i).1 hi).1, fun i hi => ?_, fun i hi => ?_, fun p i hp x hx => ?_, ⟨[], by simp, by simp⟩⟩
  · simp [un, lkOf_eq lk i hi, List.getD, hi]
  · rw [mem_roots]
    simp [lkOf_eq lk i hi, List.getD, hi]
  · have := (mem_roots lk _ i).1 (List.mem_of_getElem? hp)
    rw [this.2] at hx
    simp at hx

theorem nodup_len : ∀ (n : Nat) (l : List Nat), l.Nodup → (∀ x ∈ l, x < n) → l.length ≤ n
  | 0, l, _, h => by cases l with
    | nil => simp
    | cons a l => exact absurd (h a (by simp)) (by omega)
  | n + 1, l, hd, h => by
    have h1 := nodup_len n (l.erase n) (hd.erase n) (fun x hx => by
      have h2 := h x (List.mem_of_mem_erase hx)
      have h3 : x ≠ n := fun e => by subst e; exact absurd hx (hd.not_mem_erase)
      omega)
    have h2 := List.length_erase (a := n) (l := l)
    split at h2 <;> omega

/-- What the order is worth. -/
structure Played (lk : Lk) (n : Nat) (ord : List Nat) : Prop where
  nd : ord.Nodup
  lt : ∀ i ∈ ord, i < n
  top : ∀ p i, ord[p]? = some i → ∀ x ∈ lkOf lk i, x ∈ ord.take p
  max : ∀ i, i < n → i ∉ ord → ∃ x ∈ lkOf lk i, x ∉ ord
  rts : ∃ rest, ord = roots lk n ++ rest ∧ ∀ i ∈ rest, lkOf lk i ≠ []
theorem PInv.done {lk : Lk} {n : Nat} {W ord : List Nat} {k : Nat} (h : PInv lk n W ord k []) (hk : ord.length ≤ k) : Played lk n ord := by
  refine ⟨h.nd, h.lt, h.top, fun i hi hno => ?_, h.rts⟩
  have h1 := h.w i hi
  have h2 : ¬ W.getD i 0 = 0 := fun e => hno ((h.z i hi).2 e)
  have h3 : 0 < un lk ord k i := by rw [List.count_nil] at h1; omega
  obtain ⟨x, hx, h4⟩ := List.countP_pos_iff.1 h3
  rw [List.take_of_length_le hk] at h4
  exact ⟨x, hx, by simpa using h4⟩
theorem Played.len {lk : Lk} {n : Nat} {ord : List Nat} (h : Played lk n ord) : ord.length ≤ n := nodup_len n ord h.nd h.lt

/-! ### The first loop -/
def lks (js : List Int) : List Nat := (js.filter (fun z => decide (0 ≤ z))).map Int.toNat
theorem lks_snoc (js : List Int) (z : Int) : lks (js ++ [z]) = if 0 ≤ z then lks js ++ [z.toNat] else lks js := by
  unfold lks
  rw [List.filter_append, List.map_append]
  by_cases h : 0 ≤ z <;> simp [h]
theorem lks_take_succ (js : List Int) (c : Nat) (h : c < js.length) : lks (js.take (c + 1)) = if 0 ≤ js[c] then lks (js.take c) ++ [js[c].toNat] else lks (js.take c) := by
  rw [List.take_succ_eq_append_getElem h, lks_snoc]
theorem lks_nil (js : List Int) : lks js = [] ↔ ∀ z ∈ js, z < 0 := by
  unfold lks
  rw [List.map_eq_nil_iff, List.filter_eq_nil_iff]
  constructor
  · intro h z hz; have := h z hz; simp at this; exact this
  · intro h z hz; have := h z hz; simp; exact this
theorem mem_lks {js : List Int} {x : Nat} : x ∈ lks js ↔ (x : Int) ∈ js := by
  unfold lks
  rw [List.mem_map]
  constructor
  · rintro ⟨z, hz, rfl⟩
    obtain ⟨h1, h2⟩ := List.mem_filter.1 hz
    have : 0 ≤ z := by simpa using h2
    rw [Int.toNat_of_nonneg this]; exact h1
  · intro h
    exact ⟨x, List.mem_filter.2 ⟨h, by simp⟩, by simp⟩
def wst (lk : Lk) (i x : Nat) : List Nat := (lk.take i).map List.length ++ x :: List.replicate (lk.length - i - 1) 0
theorem wst_len (lk : Lk) (i x : Nat) (h : i < lk.length) : (wst lk i x).length = lk.length := by simp [wst]; omega
theorem wst_zero (lk : Lk) : (h : 0 < lk.length) → wst lk 0 0 = List.replicate lk.length 0 := by
  intro h
  obtain ⟨m, hm⟩ : ∃ m, lk.length = m + 1 := ⟨lk.length - 1, by omega⟩
  simp [wst, hm, List.replicate_succ]
theorem wst_get (lk : Lk) (i x : Nat) (h : i < lk.length) : (wst lk i x)[i]'(by rw [wst_len _ _ _ h]; exact h) = x := by
  unfold wst
  rw [List.getElem_append_right (by simp; omega)]
  simp [Nat.min_eq_left (Nat.le_of_lt h)]
theorem wst_set (lk : Lk) (i x y : Nat) (h : i < lk.length) : (wst lk i x).set i y = wst lk i y := by
  unfold wst
  rw [List.set_append_right _ _ (by simp; omega)]
  simp [Nat.min_eq_left (Nat.le_of_lt h)]
theorem wst_next (lk : Lk) (i : Nat) (h : i + 1 < lk.length) : wst lk i (lkOf lk i).length = wst lk (i + 1) 0 := by
  unfold wst
  rw [List.take_succ_eq_append_getElem (by omega), List.map_append, List.append_assoc, lkOf_eq lk i (by omega)]
  obtain ⟨m, hm⟩ : ∃ m, lk.length - i - 1 = m + 1 := ⟨lk.length - i - 2, by omega⟩
  rw [hm, show lk.length - (i + 1) - 1 = m by omega]
  simp [List.replicate_succ]
theorem wst_last (lk : Lk) (i : Nat) (h : i + 1 = lk.length) : wst lk i (lkOf lk i).length = lk.map List.length := by
  unfold wst
  rw [show lk.length - i - 1 = 0 by omega, lkOf_eq lk i (by omega)]
  conv => rhs; rw [← List.take_append_drop i lk, List.map_append, List.drop_eq_getElem_cons (show i < lk.length by omega), List.drop_of_length_le (show lk.length ≤ i + 1 by omega)]
  simp
/-- The state at the head of the first loop. -/
def wat (lk : Lk) (i : Nat) : List Nat := (lk.take i).map List.length ++ List.replicate (lk.length - i) 0
theorem wat_len (lk : Lk) (i : Nat) (h : i ≤ lk.length) : (wat lk i).length = lk.length := by simp [wat]; omega
theorem wat_zero (lk : Lk) : wat lk 0 = List.replicate lk.length 0 := by simp [wat]
theorem wat_eq (lk : Lk) (i : Nat) (h : i < lk.length) : wat lk i = wst lk i 0 := by
  unfold wat wst
  obtain ⟨m, hm⟩ : ∃ m, lk.length - i = m + 1 := ⟨lk.length - i - 1, by omega⟩
  rw [hm, show m + 1 - 1 = m by omega, List.replicate_succ]
theorem wat_succ (lk : Lk) (i : Nat) (h : i < lk.length) : wst lk i (lkOf lk i).length = wat lk (i + 1) := by
  unfold wat wst
  rw [List.take_succ_eq_append_getElem (by omega), List.map_append, List.append_assoc, lkOf_eq lk i (by omega)]
  simp [show lk.length - (i + 1) = lk.length - i - 1 by omega]
theorem wat_all (lk : Lk) (i : Nat) (h : i = lk.length) : wat lk i = lk.map List.length := by
  unfold wat; subst h; simp
def lst (lk : Lk) (i : Nat) (ls : List Nat) : List (List Nat) := (List.range lk.length).map (fun j => aft lk i j ++ List.replicate (ls.count j) i)
theorem lst_len (lk : Lk) (i : Nat) (ls : List Nat) : (lst lk i ls).length = lk.length := by simp [lst]
theorem lst_get (lk : Lk) (i : Nat) (ls : List Nat) (j : Nat) (h : j < lk.length) : (lst lk i ls)[j]'(by rw [lst_len]; exact h) = aft lk i j ++ List.replicate (ls.count j) i := by simp [lst]
theorem lst_zero (lk : Lk) : lst lk 0 [] = List.replicate lk.length [] := by
  unfold lst
  refine List.ext_getElem (by simp) fun j h1 h2 => ?_
  simp [aft_zero]
theorem lst_next (lk : Lk) (i : Nat) : lst lk i (lkOf lk i) = lst lk (i + 1) [] := by
  unfold lst
  refine List.map_congr_left fun j _ => ?_
  rw [aft_succ]; simp
theorem lst_put (lk : Lk) (i : Nat) (ls : List Nat) (j : Nat) (h : j < lk.length) : (lst lk i ls).set j ((lst lk i ls)[j]'(by rw [lst_len]; exact h) ++ [i]) = lst lk i (ls ++ [j]) := by
  rw [lst_get _ _ _ _ h]
  refine List.ext_getElem (by simp [lst_len]) fun m h1 h2 => ?_
  have hm : m < lk.length := by rw [lst_len] at h2; exact h2
  rw [List.getElem_set]
  by_cases e : j = m
  · subst e
    rw [if_pos rfl, lst_get _ _ _ _ hm, List.count_append, List.count_singleton_self, List.append_assoc, ← List.replicate_succ']
  · rw [if_neg e, lst_get _ _ _ _ hm, lst_get _ _ _ _ hm, List.count_append, List.count_eq_zero_of_not_mem (show m ∉ [j] by simpa using fun q => e q.symm)]; rfl
/-- No step waits on more than there are links. -/
theorem aft_le (lk : Lk) (j : Nat) : ∀ i, i ≤ lk.length → (aft lk i j).length ≤ ((lk.take i).map List.length).sum
  | 0, _ => by simp [aft_zero]
  | i + 1, h => by
    have := aft_le lk j i (by omega)
    rw [aft_succ, List.take_succ_eq_append_getElem (by omega), List.map_append, List.sum_append, List.length_append, List.length_replicate, lkOf_eq lk i (by omega)]
    have h2 : lk[i].count j ≤ lk[i].length := List.count_le_length
    simp only [List.map_cons, List.map_nil, List.sum_cons, List.sum_nil]
    omega
end Go.Po
