/- The law's own sort, plainly. -/
import Derived.Test.Qxb6605723aF8
set_option linter.unusedVariables false
set_option linter.unusedSimpArgs false
namespace Go.Sx
open Go.Pl

/-- The pair at an index. -/
def pa (l : List Itm) (x : Nat) : Pr := match l[x]? with
  | some i => pk i
  | none => ([], [])
theorem pa_eq (l : List Itm) (x : Nat) (h : x < l.length) : pa l x = pk l[x] := by unfold pa; rw [List.getElem?_eq_getElem h]

theorem srt_eq {l₁ l₂ : List Pr} (h1 : Srt l₁) (h2 : Srt l₂) (hk : ∀ q ∈ l₁, K20 q) (hp : l₁.Perm l₂) : l₁ = l₂ := by
  refine List.Perm.eq_of_pairwise (le := fun p q => lt2 p q = true) ?_ h1 h2 hp
  intro a b ha hb hab hba
  have ka := hk a ha
  have kb := hk b (hp.mem_iff.2 hb)
  have := lt2_trans ka kb ka hab hba
  rw [lt2_irrefl ka] at this
  cases this

/-- The pair at a place of the order. -/
def fo (l : List Itm) (o : List Nat) (i : Nat) : Pr := pa l (o.getD i 0)
theorem fo_eq (l : List Itm) (o : List Nat) (i : Nat) (h : i < o.length) : fo l o i = (o.map (pa l))[i]'(by simpa using h) := by simp [fo, List.getD, h]

/-- The inner loop's state: all but the one at b stand in order, and what lies above b is greater than it. -/
def InsB (l : List Itm) (o : List Nat) (aa b : Nat) : Prop :=
  (∀ i j, i < j → j ≤ aa → i ≠ b → j ≠ b → lt2 (fo l o i) (fo l o j) = true) ∧ (∀ j, b < j → j ≤ aa → lt2 (fo l o b) (fo l o j) = true)

theorem srt_take (l : List Itm) (o : List Nat) (n : Nat) (hn : n ≤ o.length) : Srt ((o.take n).map (pa l)) ↔ ∀ i j, i < j → j < n → lt2 (fo l o i) (fo l o j) = true := by
  unfold Srt
  rw [List.pairwise_iff_getElem]
  constructor
  · intro h i j hij hj
    have := h i j (by simp; omega) (by simp; omega) hij
    rw [fo_eq l o i (by omega), fo_eq l o j (by omega)]
    simpa using this
  · intro h i j hi hj hij
    simp at hi hj
    have := h i j hij (by omega)
    rw [fo_eq l o i (by omega), fo_eq l o j (by omega)] at this
    simpa using this

theorem insB_start {l : List Itm} {o : List Nat} {aa : Nat} (haa : aa < o.length) (h : Srt ((o.take aa).map (pa l))) : InsB l o aa aa := by
  rw [srt_take l o aa (by omega)] at h
  exact ⟨fun i j hij hj h1 h2 => h i j hij (by omega), fun j h1 h2 => by omega⟩

theorem insB_end {l : List Itm} {o : List Nat} {aa b : Nat} (haa : aa < o.length) (hb : b ≤ aa) (hk : ∀ p ∈ o.map (pa l), K20 p) (hnd : (o.map (pa l)).Nodup) (h : InsB l o aa b)
    (hx : b = 0 ∨ lt2 (fo l o b) (fo l o (b - 1)) = false) : Srt ((o.take (aa + 1)).map (pa l)) := by
  rw [srt_take l o (aa + 1) (by omega)]
  have hkk : ∀ i, i < o.length → K20 (fo l o i) := fun i hi => by rw [fo_eq l o i hi]; exact hk _ (List.getElem_mem _)
  intro i j hij hj
  by_cases h1 : i = b
  · subst h1; exact h.2 j hij (by omega)
  · by_cases h2 : j = b
    · subst h2
      rcases hx with hx | hx
      · omega
      · have hne : fo l o (j - 1) ≠ fo l o j := by
          rw [fo_eq l o (j - 1) (by omega), fo_eq l o j (by omega)]
          exact fun e => absurd ((List.getElem_inj hnd).1 e) (by omega)
        have h3 : lt2 (fo l o (j - 1)) (fo l o j) = true := by
          rcases hb' : lt2 (fo l o (j - 1)) (fo l o j) with _ | _
          · exact absurd (lt2_conn (hkk _ (by omega)) (hkk _ (by omega)) hb' hx) hne
          · rfl
        rcases Nat.lt_or_ge i (j - 1) with h4 | h4
        · exact lt2_trans (hkk i (by omega)) (hkk (j - 1) (by omega)) (hkk j (by omega)) (h.1 i (j - 1) h4 (by omega) h1 (by omega)) h3
        · have : i = j - 1 := by omega
          subst this; exact h3
    · exact h.1 i j hij (by omega) h1 h2

def swp (o : List Nat) (b : Nat) : List Nat := (o.set b (o.getD (b - 1) 0)).set (b - 1) (o.getD b 0)
theorem swp_len (o : List Nat) (b : Nat) : (swp o b).length = o.length := by simp [swp]
theorem swp_perm (o : List Nat) (b : Nat) (hb : b < o.length) : (swp o b).Perm o := by
  have h1 : o.getD (b - 1) 0 = o[b - 1] := by simp [List.getD, show b - 1 < o.length by omega]
  have h2 : o.getD b 0 = o[b] := by simp [List.getD, hb]
  unfold swp
  rw [h1, h2]
  exact List.set_set_perm hb (by omega)
theorem fo_swp (l : List Itm) (o : List Nat) (b i : Nat) (h0 : 0 < b) (hb : b < o.length) : fo l (swp o b) i = if i = b - 1 then fo l o b else if i = b then fo l o (b - 1) else fo l o i := by
  unfold fo swp
  have e : ∀ (j : Nat) (x : Nat) (m : List Nat), j < m.length → (m.set j x).getD i 0 = if i = j then x else m.getD i 0 := by
    intro j x m hj
    simp only [List.getD, List.getElem?_set]
    by_cases h : j = i
    · subst h; simp [hj]
    · rw [if_neg h, if_neg (fun q => h q.symm)]
  rw [e (b - 1) _ _ (by simp; omega), e b _ _ hb]
  split
  · rfl
  · split <;> rfl

theorem insB_step {l : List Itm} {o : List Nat} {aa b : Nat} (haa : aa < o.length) (h0 : 0 < b) (hb : b ≤ aa) (h : InsB l o aa b) (hlt : lt2 (fo l o b) (fo l o (b - 1)) = true) : InsB l (swp o b) aa (b - 1) := by
  have hf := fun i => fo_swp l o b i h0 (by omega)
  constructor
  · intro i j hij hj h1 h2
    rw [hf i, hf j, if_neg h1, if_neg h2]
    by_cases c1 : i = b
    · rw [if_pos c1, if_neg (by omega)]
      exact h.1 (b - 1) j (by omega) hj (by omega) (by omega)
    · rw [if_neg c1]
      by_cases c2 : j = b
      · rw [if_pos c2]
        exact h.1 i (b - 1) (by omega) (by omega) c1 (by omega)
      · rw [if_neg c2]
        exact h.1 i j hij hj c1 c2
  · intro j h1 h2
    rw [hf (b - 1), hf j, if_pos rfl, if_neg (by omega)]
    by_cases c : j = b
    · rw [if_pos c]; exact hlt
    · rw [if_neg c]; exact h.2 j (by omega) h2
end Go.Sx
