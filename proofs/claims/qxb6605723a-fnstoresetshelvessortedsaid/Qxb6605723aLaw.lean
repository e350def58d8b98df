/- The plain laws of a shelf: no Go in sight. -/
import Derived.Test.Qxb6605723aW8
set_option linter.unusedVariables false
set_option linter.unusedSimpArgs false
namespace Go.Pl

theorem bl_irrefl : ∀ x : List UInt8, Op.bytesLess x x = false
  | [] => rfl
  | a :: x => by simp [Op.bytesLess, bl_irrefl x]
theorem bl_trans : ∀ x y z : List UInt8, Op.bytesLess x y = true → Op.bytesLess y z = true → Op.bytesLess x z = true
  | [], y, [], h1, h2 => by cases y <;> simp [Op.bytesLess] at h1 h2
  | [], y, c :: z, h1, h2 => by simp [Op.bytesLess]
  | a :: x, [], z, h1, h2 => by simp [Op.bytesLess] at h1
  | a :: x, b :: y, [], h1, h2 => by simp [Op.bytesLess] at h2
  | a :: x, b :: y, c :: z, h1, h2 => by
    simp only [Op.bytesLess, Bool.or_eq_true, Bool.and_eq_true, decide_eq_true_eq, beq_iff_eq] at h1 h2 ⊢
    rcases h1 with h1 | ⟨rfl, h1⟩
    · rcases h2 with h2 | ⟨rfl, h2⟩
      · left; rw [UInt8.lt_iff_toNat_lt] at *; omega
      · exact .inl h1
    · rcases h2 with h2 | ⟨rfl, h2⟩
      · exact .inl h2
      · exact .inr ⟨rfl, bl_trans x y z h1 h2⟩
theorem bl_conn : ∀ x y : List UInt8, Op.bytesLess x y = false → Op.bytesLess y x = false → x = y
  | [], [], _, _ => rfl
  | [], b :: y, h1, h2 => by simp [Op.bytesLess] at h1
  | a :: x, [], h1, h2 => by simp [Op.bytesLess] at h2
  | a :: x, b :: y, h1, h2 => by
    simp only [Op.bytesLess, Bool.or_eq_false_iff, Bool.and_eq_false_iff, decide_eq_false_iff_not, beq_eq_false_iff_ne] at h1 h2
    have : a = b := by
      apply UInt8.toNat.inj
      have := h1.1; have := h2.1
      rw [UInt8.lt_iff_toNat_lt] at *
      omega
    subst this
    rw [bl_conn x y (h1.2.resolve_left (fun h => h rfl)) (h2.2.resolve_left (fun h => h rfl))]

theorem val_inj : ∀ (a b : List UInt8), a.length = b.length → val a = val b → a = b
  | [], [], _, _ => rfl
  | [], _ :: _, h, _ => by simp at h
  | _ :: _, [], h, _ => by simp at h
  | x :: a, y :: b, h, hv => by
    have hl : a.length = b.length := by simpa using h
    have h1 := val_lt a
    have h2 := val_lt b
    simp only [val] at hv
    rw [hl] at hv h1
    generalize 256 ^ b.length = p at *
    have hp : 0 < p := by omega
    have hxy : x.toNat = y.toNat := by
      have e1 : (x.toNat * p + val a) / p = x.toNat := by rw [Nat.mul_comm, Nat.mul_add_div hp, Nat.div_eq_of_lt h1]; rfl
      have e2 : (y.toNat * p + val b) / p = y.toNat := by rw [Nat.mul_comm, Nat.mul_add_div hp, Nat.div_eq_of_lt h2]; rfl
      rw [← e1, ← e2, hv]
    rw [hxy] at hv
    rw [UInt8.toNat.inj hxy, val_inj a b hl (by omega)]

theorem ltP_iff {a b x y : List UInt8} (h : a.length = b.length) : ltP a x b y = true ↔ val a < val b ∨ (a = b ∧ Op.bytesLess x y = true) := by
  unfold ltP
  rw [cmpK_val a b h]
  unfold cmpN
  rcases Nat.lt_trichotomy (val a) (val b) with h1 | h1 | h1
  · simp [h1]
  · have := val_inj a b h h1
    subst this
    simp
  · have h2 : a ≠ b := fun e => by rw [e] at h1; omega
    rw [if_neg (by omega), if_pos h1]
    simp [h2]; omega

abbrev Pr := List UInt8 × List UInt8
def lt2 (p q : Pr) : Bool := ltP p.1 p.2 q.1 q.2
def K20 (p : Pr) : Prop := p.1.length = 20
theorem lt2_iff {p q : Pr} (hp : K20 p) (hq : K20 q) : lt2 p q = true ↔ val p.1 < val q.1 ∨ (p.1 = q.1 ∧ Op.bytesLess p.2 q.2 = true) := ltP_iff (by rw [hp, hq])
theorem lt2_irrefl {p : Pr} (hp : K20 p) : lt2 p p = false := by
  rcases h : lt2 p p with _ | _
  · rfl
  · rcases (lt2_iff hp hp).1 h with h | ⟨_, h⟩
    · omega
    · rw [bl_irrefl] at h; cases h
theorem lt2_trans {p q r : Pr} (hp : K20 p) (hq : K20 q) (hr : K20 r) (h1 : lt2 p q = true) (h2 : lt2 q r = true) : lt2 p r = true := by
  rw [lt2_iff hp hq] at h1
  rw [lt2_iff hq hr] at h2
  rw [lt2_iff hp hr]
  rcases h1 with h1 | ⟨e1, h1⟩
  · rcases h2 with h2 | ⟨e2, h2⟩
    · exact .inl (by omega)
    · exact .inl (by rw [← e2]; exact h1)
  · rcases h2 with h2 | ⟨e2, h2⟩
    · exact .inl (by rw [e1]; exact h2)
    · exact .inr ⟨e1.trans e2, bl_trans _ _ _ h1 h2⟩
theorem lt2_conn {p q : Pr} (hp : K20 p) (hq : K20 q) (h1 : lt2 p q = false) (h2 : lt2 q p = false) : p = q := by
  have n1 : ¬ (val p.1 < val q.1 ∨ (p.1 = q.1 ∧ Op.bytesLess p.2 q.2 = true)) := fun h => by rw [← lt2_iff hp hq, h1] at h; cases h
  have n2 : ¬ (val q.1 < val p.1 ∨ (q.1 = p.1 ∧ Op.bytesLess q.2 p.2 = true)) := fun h => by rw [← lt2_iff hq hp, h2] at h; cases h
  have e : p.1 = q.1 := val_inj _ _ (by rw [hp, hq]) (by have a1 := fun h => n1 (.inl h); have a2 := fun h => n2 (.inl h); omega)
  have b1 : Op.bytesLess p.2 q.2 = false := by
    rcases h : Op.bytesLess p.2 q.2 with _ | _
    · rfl
    · exact absurd (.inr ⟨e, h⟩) n1
  have b2 : Op.bytesLess q.2 p.2 = false := by
    rcases h : Op.bytesLess q.2 p.2 with _ | _
    · rfl
    · exact absurd (.inr ⟨e.symm, h⟩) n2
  exact Prod.ext e (bl_conn _ _ b1 b2)

/-! ### A sorted list and a rank -/
def Srt (l : List Pr) : Prop := l.Pairwise (fun p q => lt2 p q = true)

theorem rank {p : Pr} (hp : K20 p) : ∀ (l : List Pr), Srt l → (∀ q ∈ l, K20 q) → (∀ q ∈ l.take (l.countP (lt2 · p)), lt2 q p = true) ∧ (∀ q ∈ l.drop (l.countP (lt2 · p)), lt2 q p = false)
  | [], _, _ => by simp
  | q :: l, hs, hk => by
    obtain ⟨h1, h2⟩ := List.pairwise_cons.1 hs
    obtain ⟨i1, i2⟩ := rank hp l h2 (fun r hr => hk r (List.mem_cons_of_mem _ hr))
    rcases hq : lt2 q p with _ | _
    · have hall : ∀ r ∈ l, lt2 r p = false := by
        intro r hr
        rcases hr' : lt2 r p with _ | _
        · rfl
        · have := lt2_trans (hk q (by simp)) (hk r (List.mem_cons_of_mem _ hr)) hp (h1 r hr) hr'
          rw [hq] at this; cases this
      have h0 : (q :: l).countP (lt2 · p) = 0 := by
        rw [List.countP_eq_zero]
        intro r hr
        rcases List.mem_cons.1 hr with rfl | hr
        · simp [hq]
        · simp [hall r hr]
      rw [h0]
      refine ⟨by simp, fun r hr => ?_⟩
      rcases List.mem_cons.1 (by simpa using hr) with rfl | hr
      · exact hq
      · exact hall r hr
    · rw [List.countP_cons_of_pos (by simpa using hq)]
      refine ⟨fun r hr => ?_, fun r hr => i2 r (by simpa using hr)⟩
      rcases List.mem_cons.1 (by simpa using hr) with rfl | hr
      · exact hq
      · exact i1 r hr

theorem rank_hit {p : Pr} (hp : K20 p) {l : List Pr} (hs : Srt l) (hk : ∀ q ∈ l, K20 q) : p ∈ l ↔ l[l.countP (lt2 · p)]? = some p := by
  obtain ⟨h1, h2⟩ := rank hp l hs hk
  refine ⟨fun hm => ?_, fun h => List.mem_of_getElem? h⟩
  rw [← List.take_append_drop (l.countP (lt2 · p)) l] at hm
  rcases List.mem_append.1 hm with hm | hm
  · have := h1 p hm; rw [lt2_irrefl hp] at this; cases this
  · have hs2 : Srt (l.drop (l.countP (lt2 · p))) := hs.sublist (List.drop_sublist _ _)
    generalize hc : l.countP (lt2 · p) = c at *
    have he : l[c]? = (l.drop c)[0]? := by simp
    rw [he]
    cases hd : l.drop c with
    | nil => rw [hd] at hm; cases hm
    | cons q t =>
      rw [hd] at hm hs2
      rcases List.mem_cons.1 hm with rfl | hm
      · rfl
      · have a1 := (List.pairwise_cons.1 hs2).1 p hm
        have a2 := h2 q (by rw [hd]; simp)
        rw [a1] at a2; cases a2

theorem rank_ins {p : Pr} (hp : K20 p) {l : List Pr} (hs : Srt l) (hk : ∀ q ∈ l, K20 q) (hn : p ∉ l) : Srt (l.take (l.countP (lt2 · p)) ++ p :: l.drop (l.countP (lt2 · p))) := by
  obtain ⟨h1, h2⟩ := rank hp l hs hk
  generalize l.countP (lt2 · p) = c at *
  have h3 : ∀ q ∈ l.drop c, lt2 p q = true := by
    intro q hq
    have hq' := List.mem_of_mem_drop hq
    rcases hb : lt2 p q with _ | _
    · exact absurd (lt2_conn hp (hk q hq') hb (h2 q hq) ▸ hq') hn
    · rfl
  have hs' := hs
  unfold Srt at hs'
  rw [← List.take_append_drop c l, List.pairwise_append] at hs'
  obtain ⟨s1, s2, s3⟩ := hs'
  refine List.pairwise_append.2 ⟨s1, List.pairwise_cons.2 ⟨h3, s2⟩, ?_⟩
  intro a ha b hb
  rcases List.mem_cons.1 hb with rfl | hb
  · exact h1 a ha
  · exact s3 a ha b hb

/-! ### Duplicates: the last of each stays -/
def ded : List Pr → List Pr
  | [] => []
  | x :: l => if x ∈ l then ded l else x :: ded l
theorem mem_ded : ∀ (l : List Pr) (p : Pr), p ∈ ded l ↔ p ∈ l
  | [], p => by simp [ded]
  | x :: l, p => by
    have ih := mem_ded l p
    unfold ded
    split
    · rename_i h
      rw [ih]
      simp only [List.mem_cons]
      exact ⟨.inr, fun h' => h'.elim (fun e => e ▸ h) (fun q => q)⟩
    · simp [ih]
theorem ded_nodup : ∀ l : List Pr, (ded l).Nodup
  | [] => by simp [ded]
  | x :: l => by
    unfold ded
    split
    · exact ded_nodup l
    · rename_i h
      exact List.nodup_cons.2 ⟨by rw [mem_ded]; exact h, ded_nodup l⟩
theorem ded_length_le : ∀ l : List Pr, (ded l).length ≤ l.length
  | [] => by simp [ded]
  | x :: l => by
    have := ded_length_le l
    unfold ded
    split <;> simp <;> omega

theorem srt_nodup {l : List Pr} (hs : Srt l) (hk : ∀ q ∈ l, K20 q) : l.Nodup := by
  refine List.Pairwise.imp_of_mem ?_ hs
  intro a b ha _ h e
  subst e
  rw [lt2_irrefl (hk a ha)] at h; cases h

end Go.Pl
namespace Go.Sx
open Go.Pl

/-! ### Places -/
theorem sumL_cons (n : Nat) (l : List Nat) : sumL (n :: l) = n + sumL l := rfl
theorem flat_len (runs : List (List Slot)) : runs.flatten.length = sumL (lens runs) := by
  induction runs with
  | nil => rfl
  | cons r runs ih => simp only [List.flatten_cons, List.length_append, ih, lens, List.map_cons, sumL_cons]

theorem placeOf_pos : ∀ (l : List Nat) (c r i : Nat), placeOf l c = (r, i) → (∀ (h : r < l.length), c = sumL (l.take r) + i ∧ i < l[r]) ∧ (r = l.length → sumL l ≤ c ∧ i = 0)
  | [], c, r, i, h => by
    simp only [placeOf, Prod.mk.injEq] at h
    obtain ⟨rfl, rfl⟩ := h
    exact ⟨fun h => by simp at h, fun _ => ⟨by simp [sumL], rfl⟩⟩
  | n :: l, c, r, i, h => by
    unfold placeOf at h
    split at h
    · rename_i hc
      simp only [Prod.mk.injEq] at h
      obtain ⟨rfl, rfl⟩ := h
      exact ⟨fun _ => ⟨by simp [sumL], hc⟩, fun h => by simp at h⟩
    · rename_i hc
      have ih := placeOf_pos l (c - n) (placeOf l (c - n)).1 (placeOf l (c - n)).2 rfl
      simp only [Prod.mk.injEq] at h
      obtain ⟨rfl, rfl⟩ := h
      refine ⟨fun h => ?_, fun h => ?_⟩
      · have := ih.1 (by simpa using h)
        refine ⟨?_, by simpa using this.2⟩
        rw [List.take_succ_cons, sumL_cons]
        omega
      · have := ih.2 (by simpa using h)
        refine ⟨?_, this.2⟩
        rw [sumL_cons]; omega

theorem flat_at : ∀ (runs : List (List Slot)) (r i : Nat) (hr : r < runs.length), i ≤ runs[r].length →
    runs.flatten.take (sumL ((lens runs).take r) + i) = (runs.take r).flatten ++ runs[r].take i ∧ runs.flatten.drop (sumL ((lens runs).take r) + i) = runs[r].drop i ++ (runs.drop (r + 1)).flatten
  | [], r, i, hr, _ => by simp at hr
  | u :: runs, 0, i, hr, hi => by
    simp only [List.take_zero, sumL, List.foldr_nil, Nat.zero_add, List.flatten_cons, List.flatten_nil, List.nil_append, List.getElem_cons_zero, List.drop_succ_cons, List.drop_zero] at hi ⊢
    exact ⟨List.take_append_of_le_length hi, List.drop_append_of_le_length hi⟩
  | u :: runs, r + 1, i, hr, hi => by
    have ih := flat_at runs r i (by simpa using hr) (by simpa using hi)
    simp only [lens, List.map_cons, List.take_succ_cons, sumL_cons, List.flatten_cons, List.getElem_cons_succ, List.drop_succ_cons]
    rw [Nat.add_assoc]
    constructor
    · rw [List.take_length_add_append, ← lens, ih.1, List.append_assoc]
    · rw [List.drop_length_add_append, ← lens, ih.2]

theorem insRun_flat {runs : List (List Slot)} {r i : Nat} {e : Slot} (hr : r < runs.length) (hi : i ≤ runs[r].length) :
    (insRun runs r i e).flatten = (runs.take r).flatten ++ runs[r].take i ++ e :: (runs[r].drop i ++ (runs.drop (r + 1)).flatten) := by
  have e1 : runs.getD r [] = runs[r] := by simp [List.getD, hr]
  unfold insRun
  simp only [e1]
  split
  · rw [List.set_eq_take_append_cons_drop, if_pos hr]
    simp
  · simp only [List.flatten_append, List.flatten_cons, List.flatten_nil, List.append_nil, List.take_append_drop]
    simp

theorem norm_pos {runs : List (List Slot)} (hne : runs ≠ []) {c r i : Nat} (hc : c ≤ runs.flatten.length) (hp : placeOf (lens runs) c = (r, i)) :
    ∃ h : (norm runs r i).1 < runs.length, (norm runs r i).2 ≤ runs[(norm runs r i).1].length ∧ c = sumL ((lens runs).take (norm runs r i).1) + (norm runs r i).2 := by
  obtain ⟨h1, h2⟩ := placeOf_pos _ _ _ _ hp
  have hl : (lens runs).length = runs.length := by simp [lens]
  have hle := placeOf_le (lens runs) c
  rw [hp, hl] at hle
  simp only at hle
  have hpos : 0 < runs.length := List.length_pos_iff.2 hne
  unfold norm
  split
  · rename_i he
    obtain ⟨q1, q2⟩ := h2 (by rw [hl]; exact he)
    have hr1 : r - 1 < runs.length := by omega
    refine ⟨hr1, ?_, ?_⟩
    · simp [List.getD, hr1]
    · simp only [List.getD, List.getElem?_eq_getElem hr1, Option.getD_some]
      have := sumL_take_succ (lens runs) (r - 1) (by rw [hl]; exact hr1)
      rw [sumL_take_all _ _ (by omega)] at this
      rw [flat_len] at hc
      have e2 : (lens runs)[r - 1]'(by rw [hl]; exact hr1) = runs[r - 1].length := by simp [lens]
      rw [e2] at this
      omega
  · rename_i he
    have hr1 : r < runs.length := by omega
    obtain ⟨q1, q2⟩ := h1 (by rw [hl]; exact hr1)
    have e2 : (lens runs)[r]'(by rw [hl]; exact hr1) = runs[r].length := by simp [lens]
    rw [e2] at q2
    exact ⟨hr1, by show i ≤ runs[r].length; omega, q1⟩

theorem insAt_norm {runs : List (List Slot)} {r i : Nat} {e : Slot} (hne : runs ≠ []) : insAt runs r i e = insRun runs (norm runs r i).1 (norm runs r i).2 e := by
  unfold insAt; rw [if_neg hne]

/-- An entry inserted at the place of c stands at c in the flat list. -/
theorem insAt_flat {runs : List (List Slot)} {c r i : Nat} (e : Slot) (hc : c ≤ runs.flatten.length) (hp : placeOf (lens runs) c = (r, i)) :
    (insAt runs r i e).flatten = runs.flatten.take c ++ e :: runs.flatten.drop c := by
  by_cases hne : runs = []
  · subst hne; simp [insAt]
  · obtain ⟨h, h1, h2⟩ := norm_pos hne hc hp
    rw [insAt_norm hne, insRun_flat h h1]
    obtain ⟨a1, a2⟩ := flat_at runs _ _ h h1
    rw [h2, a1, a2]

theorem place_at (runs : List (List Slot)) : ∀ (c r i : Nat), placeOf (lens runs) c = (r, i) → (runs[r]?).bind (·[i]?) = runs.flatten[c]? := by
  induction runs with
  | nil => intro c r i h; simp [lens, placeOf] at h; obtain ⟨rfl, rfl⟩ := h; simp
  | cons u runs ih =>
    intro c r i h
    simp only [lens, List.map_cons, placeOf] at h
    split at h
    · rename_i hc
      simp only [Prod.mk.injEq] at h
      obtain ⟨rfl, rfl⟩ := h
      simp [List.getElem?_append_left hc]
    · rename_i hc
      simp only [Prod.mk.injEq] at h
      obtain ⟨rfl, rfl⟩ := h
      have := ih (c - u.length) _ _ rfl
      simp only [lens] at this
      rw [List.flatten_cons, List.getElem?_append_right (by omega), ← this]
      simp

/-! ### The runs' lengths -/
def insL (l : List Nat) (r : Nat) : List Nat :=
  if l = [] then [1] else
    let r' := if r = l.length then r - 1 else r
    if l.getD r' 0 < 128 then l.set r' (l.getD r' 0 + 1) else l.take r' ++ [64, 65] ++ l.drop (r' + 1)

theorem lens_insAt {runs : List (List Slot)} {c r i : Nat} (e : Slot) (hc : c ≤ runs.flatten.length) (hp : placeOf (lens runs) c = (r, i)) (hl : ∀ u ∈ runs, u.length ≤ 128) :
    lens (insAt runs r i e) = insL (lens runs) r := by
  by_cases hne : runs = []
  · subst hne; simp [insAt, insL, lens]
  · obtain ⟨h, h1, h2⟩ := norm_pos hne hc hp
    have hn1 : (norm runs r i).1 = if r = (lens runs).length then r - 1 else r := by
      unfold norm; rw [show (lens runs).length = runs.length by simp [lens]]; split <;> rfl
    have hle : lens runs ≠ [] := by simpa [lens] using hne
    rw [insAt_norm hne]
    unfold insL
    rw [if_neg hle]
    simp only [← hn1]
    generalize norm runs r i = x at *
    have hg : (lens runs).getD x.1 0 = runs[x.1].length := by simp [lens, List.getD, h]
    rw [hg]
    have hl1 := hl _ (List.getElem_mem h)
    split
    · rename_i hlt
      rw [insRun_set h h1 (by omega)]
      simp only [lens, List.map_set]
      congr 1
      simp; omega
    · rename_i hlt
      rw [insRun_split h h1 (by omega)]
      have e1 : (runs[x.1].take x.2 ++ e :: runs[x.1].drop x.2).length = 129 := by simp; omega
      simp only [lens, List.map_append, List.map_take, List.map_drop, List.map_cons, List.map_nil, List.length_take, List.length_drop, e1]
      rfl

theorem Bd_iff (l : List Nat) : Bd l ↔ (∀ (r m : Nat), l[r]? = some m → 1 ≤ m ∧ m ≤ 128) ∧ (∀ (r m n : Nat), l[r]? = some m → l[r + 1]? = some n → 64 < m + n) := by
  constructor
  · intro h
    refine ⟨fun r m hm => ?_, fun r m n hm hn => ?_⟩
    · obtain ⟨hr, rfl⟩ := List.getElem?_eq_some_iff.1 hm
      exact ⟨(h r hr).1, (h r hr).2.1⟩
    · obtain ⟨hr, rfl⟩ := List.getElem?_eq_some_iff.1 hm
      obtain ⟨hr', rfl⟩ := List.getElem?_eq_some_iff.1 hn
      have := (h (r + 1) hr').2.2 (by omega)
      simpa using this
  · rintro ⟨h1, h2⟩ r hr
    refine ⟨(h1 r _ (List.getElem?_eq_getElem hr)).1, (h1 r _ (List.getElem?_eq_getElem hr)).2, fun h0 => ?_⟩
    refine h2 (r - 1) _ _ (List.getElem?_eq_getElem (by omega)) ?_
    rw [show r - 1 + 1 = r by omega]
    exact List.getElem?_eq_getElem hr

theorem Bd_insL {l : List Nat} (h : Bd l) {r : Nat} (hr : r ≤ l.length) : Bd (insL l r) := by
  unfold insL
  split
  · rw [Bd_iff]
    refine ⟨fun r m hm => ?_, fun r m n hm hn => ?_⟩
    · obtain ⟨hr, rfl⟩ := List.getElem?_eq_some_iff.1 hm
      simp at hr; subst hr; simp
    · obtain ⟨hr, rfl⟩ := List.getElem?_eq_some_iff.1 hn
      simp at hr
  · rename_i hne
    have hpos : 0 < l.length := List.length_pos_iff.2 hne
    have hlt : (if r = l.length then r - 1 else r) < l.length := by split <;> omega
    generalize (if r = l.length then r - 1 else r) = q at *
    obtain ⟨b1, b2⟩ := (Bd_iff l).1 h
    have hg : l.getD q 0 = l[q] := by simp [List.getD, hlt]
    have hq := List.getElem?_eq_getElem hlt
    simp only [hg]
    have hb := b1 q _ hq
    rw [Bd_iff]
    split
    · rename_i hm
      have gs : ∀ j m, (l.set q (l[q] + 1))[j]? = some m → (j = q ∧ m = l[q] + 1) ∨ (j ≠ q ∧ l[j]? = some m) := by
        intro j m hjm
        rw [List.getElem?_set] at hjm
        split at hjm
        · rename_i e; subst e
          exact .inl ⟨rfl, by cases hjm; rfl⟩
        · rename_i e; exact .inr ⟨fun x => e x.symm, hjm⟩
      refine ⟨fun j m hj => ?_, fun j m n hj hn => ?_⟩
      · rcases gs j m hj with ⟨rfl, rfl⟩ | ⟨_, h⟩
        · omega
        · exact b1 j m h
      · rcases gs j m hj with ⟨rfl, rfl⟩ | ⟨_, h1⟩ <;> rcases gs (j + 1) n hn with ⟨h3, rfl⟩ | ⟨_, h2⟩
        · omega
        · have := b2 j _ _ hq h2; omega
        · have := b2 j m l[q] h1 (by rw [h3]; exact hq); omega
        · exact b2 j m n h1 h2
    · rename_i hm
      have gs : ∀ j m, (l.take q ++ [64, 65] ++ l.drop (q + 1))[j]? = some m → (j < q ∧ l[j]? = some m) ∨ (j = q ∧ m = 64) ∨ (j = q + 1 ∧ m = 65) ∨ (q + 1 < j ∧ l[j - 1]? = some m) := by
        intro j m hjm
        have htl : (l.take q).length = q := by simp; omega
        rw [List.append_assoc] at hjm
        rcases Nat.lt_or_ge j q with hj | hj
        · rw [List.getElem?_append_left (by omega), List.getElem?_take_of_lt hj] at hjm
          exact .inl ⟨hj, hjm⟩
        · rw [List.getElem?_append_right (by omega), htl] at hjm
          right
          rcases Nat.lt_or_ge (j - q) 2 with h2 | h2
          · rcases Nat.lt_or_ge (j - q) 1 with h3 | h3
            · rw [show j - q = 0 by omega] at hjm
              exact .inl ⟨by omega, by simp at hjm; exact hjm.symm⟩
            · rw [show j - q = 1 by omega] at hjm
              exact .inr (.inl ⟨by omega, by simp at hjm; exact hjm.symm⟩)
          · rw [List.getElem?_append_right (by simpa using h2), List.getElem?_drop] at hjm
            refine .inr (.inr ⟨by omega, ?_⟩)
            rw [← hjm]
            congr 1
            simp; omega
      refine ⟨fun j m hj => ?_, fun j m n hj hn => ?_⟩
      · rcases gs j m hj with ⟨_, h⟩ | ⟨_, rfl⟩ | ⟨_, rfl⟩ | ⟨_, h⟩
        · exact b1 j m h
        · omega
        · omega
        · exact b1 _ m h
      · rcases gs j m hj with ⟨c1, h1⟩ | ⟨c1, rfl⟩ | ⟨c1, rfl⟩ | ⟨c1, h1⟩ <;> rcases gs (j + 1) n hn with ⟨c2, h2⟩ | ⟨c2, rfl⟩ | ⟨c2, rfl⟩ | ⟨c2, h2⟩ <;> first
          | omega
          | (have := b1 _ _ h1; omega)
          | (have := b1 _ _ h2; omega)
          | exact b2 _ _ _ h1 h2
          | exact b2 (j - 1) _ _ h1 (by rw [show j - 1 + 1 = j + 1 - 1 by omega]; exact h2)
end Go.Sx
namespace Go.Sx
open Go.Pl

/-! ### The shelf's law -/
def ps (s : Slot) : Pr := (s.key, s.name.toList)
def pk (i : Itm) : Pr := (i.key, i.name.toList)
def prs (runs : List (List Slot)) : List Pr := runs.flatten.map ps

structure Inv (runs : List (List Slot)) : Prop where
  srt : Srt (prs runs)
  key : ∀ p ∈ prs runs, K20 p
  bd : Bd (lens runs)

theorem Inv.nil : Inv [] := ⟨by simp [prs, Srt], by simp [prs], by intro r h; simp [lens] at h⟩

theorem Inv.le {runs : List (List Slot)} (h : Inv runs) : ∀ u ∈ runs, u.length ≤ 128 := by
  intro u hu
  obtain ⟨r, hr, rfl⟩ := List.mem_iff_getElem.1 hu
  have := (h.bd r (by simpa [lens] using hr)).2.1
  simpa [lens] using this
theorem Inv.ne {runs : List (List Slot)} (h : Inv runs) : ∀ u ∈ runs, u ≠ [] := by
  intro u hu
  obtain ⟨r, hr, rfl⟩ := List.mem_iff_getElem.1 hu
  have := (h.bd r (by simpa [lens] using hr)).1
  intro e
  simp [lens, e] at this
theorem Inv.runs_le {runs : List (List Slot)} (h : Inv runs) : runs.length ≤ (prs runs).length := by
  have hne := h.ne
  clear h
  unfold prs
  rw [List.length_map]
  induction runs with
  | nil => simp
  | cons u runs ih =>
    have := ih (fun v hv => hne v (List.mem_cons_of_mem _ hv))
    have : 0 < u.length := List.length_pos_iff.2 (hne u (by simp))
    rw [List.flatten_cons, List.length_append, List.length_cons]; omega

theorem geP_lt (k n : List UInt8) (s : Slot) : (!geP k n s) = lt2 (ps s) (k, n) := by simp [geP, lt2, ps]
theorem cntF_rank (runs : List (List Slot)) (k n : List UInt8) : cntF (geP k n) runs.flatten = (prs runs).countP (lt2 · (k, n)) := by
  unfold cntF prs
  rw [List.countP_map]
  congr 1
  funext s
  exact geP_lt k n s

theorem Inv.mono {runs : List (List Slot)} (h : Inv runs) {k : List UInt8} (hk : k.length = 20) (n : List UInt8) : Mono (geP k n) runs.flatten := by
  have hs := h.srt
  unfold Srt prs at hs
  rw [List.pairwise_map] at hs
  refine List.Pairwise.imp_of_mem ?_ hs
  intro x y hx hy hxy hg
  have kx := h.key (ps x) (by simp only [prs, List.mem_map]; exact ⟨x, hx, rfl⟩)
  have ky := h.key (ps y) (by simp only [prs, List.mem_map]; exact ⟨y, hy, rfl⟩)
  rcases hb : geP k n y with _ | _
  · have h1 : lt2 (ps y) (k, n) = true := by rw [← geP_lt, hb]; rfl
    have h2 := lt2_trans kx ky (show K20 (k, n) from hk) hxy h1
    rw [← geP_lt, hg] at h2
    cases h2
  · rfl

theorem Inv.monoA {runs : List (List Slot)} (h : Inv runs) {k : List UInt8} (hk : k.length = 20) : Mono (fun s => decide (0 < cmpK s.key k)) runs.flatten := by
  have hs := h.srt
  unfold Srt prs at hs
  rw [List.pairwise_map] at hs
  refine List.Pairwise.imp_of_mem ?_ hs
  intro x y hx hy hxy hg
  have kx := h.key (ps x) (by simp only [prs, List.mem_map]; exact ⟨x, hx, rfl⟩)
  have ky := h.key (ps y) (by simp only [prs, List.mem_map]; exact ⟨y, hy, rfl⟩)
  have e1 := (lt2_iff kx ky).1 hxy
  have hle : val x.key ≤ val y.key := by
    rcases e1 with e | ⟨e, _⟩
    · exact Nat.le_of_lt e
    · simp only [ps] at e; rw [e]; exact Nat.le_refl _
  simp only [decide_eq_true_eq] at hg ⊢
  rw [cmpK_val _ _ (by rw [show x.key.length = 20 from kx, hk])] at hg
  rw [cmpK_val _ _ (by rw [show y.key.length = 20 from ky, hk])]
  unfold cmpN at *
  split at hg
  · omega
  · split at hg
    · rw [if_neg (by omega), if_pos (by omega)]; omega
    · omega

theorem hit_rank {runs : List (List Slot)} (h : Inv runs) {k n : List UInt8} (hk : k.length = 20) {r i : Nat} (hp : placeOf (lens runs) (cntF (geP k n) runs.flatten) = (r, i)) : hit runs r i k n = decide ((k, n) ∈ prs runs) := by
  have h1 := place_at runs _ _ _ hp
  rw [cntF_rank] at h1
  have h2 := rank_hit (p := (k, n)) hk h.srt h.key
  generalize (prs runs).countP (lt2 · (k, n)) = c at *
  have h3 : (prs runs)[c]? = (runs.flatten[c]?).map ps := List.getElem?_map
  rw [h3, ← h1] at h2
  have h4 : hit runs r i k n = true ↔ ((runs[r]?).bind (·[i]?)).map ps = some (k, n) := by
    unfold hit
    cases runs[r]? with
    | none => simp
    | some u =>
      simp only [Option.bind_some]
      cases u[i]? with
      | none => simp
      | some s => simp [ps]
  rw [Bool.eq_iff_iff, h4, ← h2]
  simp

/-- The flat list after a put, as pairs. -/
theorem put_prs {runs : List (List Slot)} (h : Inv runs) (e : Slot) (he : e.key.length = 20) :
    prs (putL runs e) = (if ps e ∈ prs runs then prs runs else (prs runs).take ((prs runs).countP (lt2 · (ps e))) ++ ps e :: (prs runs).drop ((prs runs).countP (lt2 · (ps e)))) ∧ Bd (lens (putL runs e)) := by
  obtain ⟨r, i, hp⟩ : ∃ r i, placeOf (lens runs) (cntF (geP e.key e.name.toList) runs.flatten) = (r, i) := ⟨_, _, rfl⟩
  have hh := hit_rank h he hp
  have hc := cntF_rank runs e.key e.name.toList
  unfold putL
  simp only [hp]
  rw [hh]
  have hle : cntF (geP e.key e.name.toList) runs.flatten ≤ runs.flatten.length := List.countP_le_length
  by_cases hm : ps e ∈ prs runs
  · rw [if_pos (by simpa [ps] using hm), if_pos hm]
    have h1 := place_at runs _ _ _ hp
    have h2 := (rank_hit (p := ps e) he h.srt h.key).1 hm
    have h3 : (prs runs)[(prs runs).countP (lt2 · (ps e))]? = (runs.flatten[(prs runs).countP (lt2 · (ps e))]?).map ps := List.getElem?_map
    rw [h3] at h2
    rw [hc] at h1
    change _ = runs.flatten[(prs runs).countP (lt2 · (ps e))]? at h1
    rw [← h1] at h2
    cases hr : runs[r]? with
    | none => rw [hr] at h2; simp at h2
    | some u =>
      obtain ⟨hrl, rfl⟩ := List.getElem?_eq_some_iff.1 hr
      rw [hr] at h2
      simp only [Option.bind_some] at h2
      cases hi : runs[r][i]? with
      | none => rw [hi] at h2; simp at h2
      | some s =>
        obtain ⟨hil, rfl⟩ := List.getElem?_eq_some_iff.1 hi
        rw [hi] at h2
        simp only [Option.map_some, Option.some.injEq] at h2
        have hg : runs.getD r [] = runs[r] := by simp [List.getD, hrl]
        rw [hg]
        have hmap : (runs[r].set i e).map ps = runs[r].map ps := by
          rw [List.map_set, ← h2]
          have : ps runs[r][i] = (runs[r].map ps)[i]'(by simpa using hil) := by simp
          rw [this, List.set_getElem_self]
        constructor
        · unfold prs
          rw [List.map_flatten, List.map_flatten, List.map_set, hmap]
          have : runs[r].map ps = (runs.map (List.map ps))[r]'(by simpa using hrl) := by simp
          rw [this, List.set_getElem_self]
        · have : lens (runs.set r (runs[r].set i e)) = lens runs := by
            unfold lens
            rw [List.map_set, List.length_set]
            have : runs[r].length = (runs.map (·.length))[r]'(by simpa using hrl) := by simp
            rw [this, List.set_getElem_self]
          rw [this]; exact h.bd
  · rw [if_neg (by simpa [ps] using hm), if_neg hm]
    constructor
    · unfold prs
      rw [insAt_flat e hle hp, List.map_append, List.map_cons, List.map_take, List.map_drop]
      rw [hc]
      rfl
    · rw [lens_insAt e hle hp h.le]
      refine Bd_insL h.bd ?_
      have := placeOf_le (lens runs) (cntF (geP e.key e.name.toList) runs.flatten)
      rw [hp] at this
      exact this

theorem Inv.put {runs : List (List Slot)} (h : Inv runs) (e : Slot) (he : e.key.length = 20) : Inv (putL runs e) := by
  obtain ⟨h1, h2⟩ := put_prs h e he
  have hmem : ∀ p ∈ prs (putL runs e), p = ps e ∨ p ∈ prs runs := by
    intro p hp
    rw [h1] at hp
    split at hp
    · exact .inr hp
    · rcases List.mem_append.1 hp with hp | hp
      · exact .inr (List.mem_of_mem_take hp)
      · rcases List.mem_cons.1 hp with hp | hp
        · exact .inl hp
        · exact .inr (List.mem_of_mem_drop hp)
  refine ⟨?_, fun p hp => ?_, h2⟩
  · rw [h1]
    split
    · exact h.srt
    · rename_i hn
      exact rank_ins (p := ps e) he h.srt h.key hn
  · rcases hmem p hp with rfl | hp
    · exact he
    · exact h.key p hp

/-- A shelf filled with puts of these pairs, in this order. -/
structure Fil (runs : List (List Slot)) (l : List Pr) : Prop where
  inv : Inv runs
  mem : ∀ p, p ∈ prs runs ↔ p ∈ l
  len : (prs runs).length ≤ l.length

theorem Fil.nil : Fil [] [] := ⟨Inv.nil, by simp [prs], by simp [prs]⟩
theorem Fil.put {runs : List (List Slot)} {l : List Pr} (h : Fil runs l) (e : Slot) (he : e.key.length = 20) : Fil (putL runs e) (l ++ [ps e]) := by
  have h1 := (put_prs h.inv e he).1
  refine ⟨h.inv.put e he, fun p => ?_, ?_⟩
  · rw [h1]
    split
    · rename_i hm
      rw [h.mem, List.mem_append, List.mem_singleton]
      exact ⟨.inl, fun q => q.elim id (fun q => by rw [q]; exact (h.mem _).1 hm)⟩
    · rename_i hm
      rw [List.mem_append, List.mem_append, List.mem_singleton, List.mem_cons, ← h.mem]
      conv => rhs; rw [← List.take_append_drop ((prs runs).countP (lt2 · (ps e))) (prs runs), List.mem_append]
      grind
  · rw [h1]
    have := h.len
    split
    · simp; omega
    · have := List.take_append_drop ((prs runs).countP (lt2 · (ps e))) (prs runs)
      have h3 := congrArg List.length this
      simp only [List.length_append, List.length_cons, List.length_nil] at h3 ⊢
      omega
theorem Fil.perm {runs : List (List Slot)} {l : List Pr} (h : Fil runs l) : (prs runs).Perm (ded l) :=
  (List.perm_ext_iff_of_nodup (srt_nodup h.inv.srt h.inv.key) (ded_nodup l)).2 fun p => by rw [h.mem, mem_ded]
theorem Fil.count {runs : List (List Slot)} {l : List Pr} (h : Fil runs l) (f : Pr → Bool) : (prs runs).countP f = (ded l).countP f := h.perm.countP_eq f
theorem Fil.length {runs : List (List Slot)} {l : List Pr} (h : Fil runs l) : (prs runs).length = (ded l).length := h.perm.length_eq
theorem Fil.sum {runs : List (List Slot)} {l : List Pr} (h : Fil runs l) : sumL (lens runs) = (ded l).length := by
  rw [← flat_len, ← h.length]; unfold prs; rw [List.length_map]

/-! ### The law's own count -/
theorem same_iff (x y : Itm) : same y x = decide (pk x = pk y) := by
  unfold same pk
  rw [Bool.eq_iff_iff]
  simp only [Bool.and_eq_true, decide_eq_true_eq, Prod.mk.injEq]
  exact ⟨fun h => ⟨h.1.symm, h.2.symm⟩, fun h => ⟨h.1.symm, h.2.symm⟩⟩
theorem laterSame_iff (l : List Itm) (k : Nat) (hk : k < l.length) : laterSame l k = decide (pk l[k] ∈ (l.drop (k + 1)).map pk) := by
  unfold laterSame
  rw [List.getElem?_eq_getElem hk]
  simp only [same_iff]
  rw [Bool.eq_iff_iff, List.any_eq_true]
  simp only [decide_eq_true_eq, List.mem_map]
  exact ⟨fun ⟨x, h1, h2⟩ => ⟨x, h1, h2.symm⟩, fun ⟨x, h1, h2⟩ => ⟨x, h1, h2.symm⟩⟩
theorem absent_iff (l : List Itm) (x : Itm) : absent l x = !decide (pk x ∈ l.map pk) := by
  unfold absent
  simp only [same_iff]
  congr 1
  rw [Bool.eq_iff_iff, List.any_eq_true]
  simp only [decide_eq_true_eq, List.mem_map]
  exact ⟨fun ⟨x, h1, h2⟩ => ⟨x, h1, h2.symm⟩, fun ⟨x, h1, h2⟩ => ⟨x, h1, h2.symm⟩⟩
theorem ded_drop (l : List Itm) (k : Nat) (hk : k < l.length) : ded ((l.drop k).map pk) = if laterSame l k then ded ((l.drop (k + 1)).map pk) else pk l[k] :: ded ((l.drop (k + 1)).map pk) := by
  rw [laterSame_iff l k hk, List.drop_eq_getElem_cons hk, List.map_cons, ded]
  simp
end Go.Sx
