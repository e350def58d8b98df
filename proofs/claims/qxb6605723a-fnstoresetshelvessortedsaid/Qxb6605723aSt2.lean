/- The store: names and two shelves in step. -/
import Derived.Test.Qxb6605723aSto
set_option linter.unusedVariables false
set_option linter.unusedSimpArgs false
namespace Go.Sx
open Go.Pl

abbrev Shs := Bool → List (List Slot)
def upd (Sh : Shs) (b : Bool) (x : List (List Slot)) : Shs := fun c => if c = b then x else Sh c
theorem upd_same (Sh : Shs) (b : Bool) (x : List (List Slot)) : upd Sh b x b = x := by simp [upd]
theorem upd_ne (Sh : Shs) {b c : Bool} (x : List (List Slot)) (h : c ≠ b) : upd Sh b x c = Sh c := by simp [upd, h]

theorem getN_del (nm : Nm) (n m : ByteArray) : getN (delN nm n) m = if m = n then none else getN nm m := by
  induction nm with
  | nil => simp [delN, getN]
  | cons x t ih =>
    unfold delN at ih ⊢
    by_cases hx : x.1 = n
    · simp only [List.filter_cons, hx, ne_eq, not_true_eq_false, decide_false, Bool.false_eq_true, if_false]
      rw [ih]
      split
      · rfl
      · rename_i hm
        rw [getN, if_neg (fun e => hm (by rw [← e, hx]))]
    · simp only [List.filter_cons, hx, ne_eq, not_false_eq_true, decide_true, if_true]
      rw [getN, getN, ih]
      by_cases hm : x.1 = m
      · rw [if_pos hm, if_neg (fun e => hx (by rw [hm, e])), if_pos hm]
      · rw [if_neg hm, if_neg hm]
theorem getN_app (nm : Nm) (n m : ByteArray) (v : List UInt8 × Bool) (h : getN nm n = none) : getN (nm ++ [(n, v)]) m = if m = n then some v else getN nm m := by
  induction nm with
  | nil => simp [getN, eq_comm]
  | cons x t ih =>
    rw [getN] at h
    split at h
    · cases h
    · rename_i hx
      rw [List.cons_append, getN, getN, ih h]
      by_cases hm : x.1 = m
      · rw [if_pos hm, if_neg (fun e => hx (by rw [hm, e])), if_pos hm]
      · rw [if_neg hm, if_neg hm]
theorem getN_map (nm : Nm) (n m : ByteArray) (v : List UInt8 × Bool) : getN (nm.map (fun x => if x.1 = n then (n, v) else x)) m = if m = n then (getN nm m).map (fun _ => v) else getN nm m := by
  induction nm with
  | nil => simp [getN]
  | cons x t ih =>
    rw [List.map_cons, getN, getN, ih]
    by_cases hx : x.1 = n
    · rw [if_pos hx]
      by_cases hm : m = n
      · subst hm; simp [hx]
      · have hnm : ¬ n = m := fun e => hm e.symm
        simp [hx, hnm, hm]
    · rw [if_neg hx]
      by_cases hm : m = n
      · subst hm; simp [hx]
      · simp [hm]
theorem getN_set (nm : Nm) (n m : ByteArray) (v : List UInt8 × Bool) : getN (setN nm n v) m = if m = n then some v else getN nm m := by
  unfold setN
  split
  · rename_i h
    rw [getN_map]
    split
    · rename_i e
      subst e
      cases hg : getN nm m with
      | none => rw [hg] at h; cases h
      | some u => rfl
    · rfl
  · rename_i h
    exact getN_app nm n m v (by cases hg : getN nm n with | none => rfl | some u => rw [hg] at h; exact absurd rfl h)
theorem delN_nodup {nm : Nm} {n : ByteArray} (hn : (nm.map (·.1)).Nodup) : ((delN nm n).map (·.1)).Nodup := hn.sublist (List.filter_sublist.map _)

/-- Names and shelves in step. -/
structure SInv (nm : Nm) (Sh : Shs) : Prop where
  nod : (nm.map (·.1)).Nodup
  inv : ∀ b, Inv (Sh b)
  mem : ∀ b p, p ∈ prs (Sh b) ↔ ∃ n : ByteArray, n.toList = p.2 ∧ getN nm n = some (p.1, b)

theorem SInv.nil : SInv [] (fun _ => []) := ⟨by simp, fun _ => Inv.nil, fun b p => by simp [prs, getN]⟩
theorem SInv.pair {nm : Nm} {Sh : Shs} (h : SInv nm Sh) {n : ByteArray} {k : List UInt8} {b : Bool} (hg : getN nm n = some (k, b)) : (k, n.toList) ∈ prs (Sh b) := (h.mem b _).2 ⟨n, rfl, hg⟩
theorem SInv.key {nm : Nm} {Sh : Shs} (h : SInv nm Sh) {n : ByteArray} {k : List UInt8} {b : Bool} (hg : getN nm n = some (k, b)) : k.length = 20 := (h.inv b).key _ (h.pair hg)

def pl2 (runs : List (List Slot)) (k : List UInt8) (n : ByteArray) : Nat × Nat := placeOf (lens runs) (cntF (geP k n.toList) runs.flatten)
def remS (Sh : Shs) (n : ByteArray) (v : List UInt8 × Bool) : Shs := upd Sh v.2 (takeL (Sh v.2) (pl2 (Sh v.2) v.1 n).1 (pl2 (Sh v.2) v.1 n).2)

theorem SInv.rem {nm : Nm} {Sh : Shs} (h : SInv nm Sh) {n : ByteArray} {v : List UInt8 × Bool} (hg : getN nm n = some v) : SInv (delN nm n) (remS Sh n v) := by
  obtain ⟨k, b⟩ := v
  obtain ⟨_, _, hi, hm⟩ := (h.inv b).take (h.key hg) (h.pair hg) (r := (pl2 (Sh b) k n).1) (i := (pl2 (Sh b) k n).2) rfl
  refine ⟨delN_nodup h.nod, fun c => ?_, fun c p => ?_⟩
  · unfold remS
    by_cases hc : c = b
    · subst hc; rw [upd_same]; exact hi
    · rw [upd_ne _ _ hc]; exact h.inv c
  · unfold remS
    by_cases hc : c = b
    · subst hc
      rw [upd_same, hm, h.mem]
      constructor
      · rintro ⟨⟨m, h1, h2⟩, h3⟩
        refine ⟨m, h1, ?_⟩
        rw [getN_del, if_neg]
        · exact h2
        · intro e
          subst e
          rw [hg] at h2
          simp only [Option.some.injEq, Prod.mk.injEq, and_true] at h2
          exact h3 (Prod.ext h2.symm h1.symm)
      · rintro ⟨m, h1, h2⟩
        rw [getN_del] at h2
        split at h2
        · cases h2
        · rename_i hmn
          refine ⟨⟨m, h1, h2⟩, fun e => hmn (ba_toList ?_)⟩
          rw [h1, e]
    · rw [upd_ne _ _ hc, h.mem]
      constructor
      · rintro ⟨m, h1, h2⟩
        refine ⟨m, h1, ?_⟩
        rw [getN_del, if_neg]
        · exact h2
        · intro e
          subst e
          rw [hg] at h2
          simp only [Option.some.injEq, Prod.mk.injEq] at h2
          exact hc h2.2.symm
      · rintro ⟨m, h1, h2⟩
        rw [getN_del] at h2
        split at h2
        · cases h2
        · exact ⟨m, h1, h2⟩

/-- What a set does first. -/
def set1 (nm : Nm) (Sh : Shs) (n : ByteArray) (at_ : List UInt8 × Bool) : Nm × Shs := match getN nm n with
  | some was => if was = at_ then (nm, Sh) else (delN nm n, remS Sh n was)
  | none => (nm, Sh)
def setS (nm : Nm) (Sh : Shs) (e : Slot) (copy : Bool) : Nm × Shs :=
  (setN (set1 nm Sh e.name (e.key, copy)).1 e.name (e.key, copy), upd (set1 nm Sh e.name (e.key, copy)).2 copy (putL ((set1 nm Sh e.name (e.key, copy)).2 copy) e))

theorem set1_inv {nm : Nm} {Sh : Shs} (h : SInv nm Sh) (n : ByteArray) (a : List UInt8 × Bool) :
    SInv (set1 nm Sh n a).1 (set1 nm Sh n a).2 ∧ (∀ v, getN (set1 nm Sh n a).1 n = some v → v = a) ∧ (∀ m, m ≠ n → getN (set1 nm Sh n a).1 m = getN nm m) := by
  unfold set1
  cases hg : getN nm n with
  | none => exact ⟨h, (fun v hv => by rw [show getN nm n = none from hg] at hv; cases hv), fun m _ => rfl⟩
  | some was =>
    simp only
    split
    · rename_i e
      subst e
      exact ⟨h, (fun v hv => by rw [show getN nm n = some was from hg] at hv; cases hv; rfl), fun m _ => rfl⟩
    · exact ⟨h.rem hg, (fun v hv => by rw [getN_del, if_pos rfl] at hv; cases hv), (fun m hm => by rw [getN_del, if_neg hm])⟩
theorem erase_sub {runs : List (List Slot)} (h : Inv runs) {k n : List UInt8} (hk : k.length = 20) (hm : (k, n) ∈ prs runs) {r i : Nat} (hp : placeOf (lens runs) (cntF (geP k n) runs.flatten) = (r, i)) {s : Slot} (hs : s ∈ (takeL runs r i).flatten) : s ∈ runs.flatten := by
  obtain ⟨_, hf, _, _⟩ := h.take hk hm hp
  rw [hf] at hs
  exact List.mem_of_mem_eraseIdx hs
theorem set1_sub {nm : Nm} {Sh : Shs} (h : SInv nm Sh) (n : ByteArray) (a : List UInt8 × Bool) (b : Bool) {s : Slot} (hs : s ∈ ((set1 nm Sh n a).2 b).flatten) : s ∈ (Sh b).flatten := by
  unfold set1 at hs
  cases hg : getN nm n with
  | none => rw [hg] at hs; exact hs
  | some was =>
    rw [hg] at hs
    simp only at hs
    split at hs
    · exact hs
    · simp only [remS] at hs
      by_cases hc : b = was.2
      · subst hc
        rw [upd_same] at hs
        exact erase_sub (h.inv _) (h.key hg) (h.pair hg) rfl hs
      · rw [upd_ne _ _ hc] at hs; exact hs

theorem mem_prs_put {runs : List (List Slot)} (h : Inv runs) (e : Slot) (he : e.key.length = 20) (p : Pr) : p ∈ prs (putL runs e) ↔ p = ps e ∨ p ∈ prs runs := by
  rw [(put_prs h e he).1]
  split
  · rename_i hm
    exact ⟨.inr, fun q => q.elim (fun q => by rw [q]; exact hm) id⟩
  · rw [List.mem_append, List.mem_cons]
    conv => rhs; rw [← List.take_append_drop ((prs runs).countP (lt2 · (ps e))) (prs runs), List.mem_append]
    grind
theorem put_self {runs : List (List Slot)} (h : Inv runs) (e : Slot) (he : e.key.length = 20) : e ∈ (putL runs e).flatten := by
  have hmem : ps e ∈ prs (putL runs e) := (mem_prs_put h e he _).2 (.inl rfl)
  unfold putL
  simp only
  split
  · rename_i hh
    unfold hit at hh
    cases hr : runs[(placeOf (lens runs) (cntF (geP e.key e.name.toList) runs.flatten)).1]? with
    | none => rw [hr] at hh; cases hh
    | some u =>
      rw [hr] at hh
      simp only at hh
      cases hi : u[(placeOf (lens runs) (cntF (geP e.key e.name.toList) runs.flatten)).2]? with
      | none => rw [hi] at hh; cases hh
      | some s =>
        obtain ⟨hrl, rfl⟩ := List.getElem?_eq_some_iff.1 hr
        obtain ⟨hil, rfl⟩ := List.getElem?_eq_some_iff.1 hi
        refine List.mem_flatten.2 ⟨_, List.mem_set hrl _, ?_⟩
        have hg : runs.getD (placeOf (lens runs) (cntF (geP e.key e.name.toList) runs.flatten)).1 [] = runs[(placeOf (lens runs) (cntF (geP e.key e.name.toList) runs.flatten)).1] := by simp [List.getD, hrl]
        rw [hg]
        exact List.mem_set hil _
  · rw [insAt_flat (c := cntF (geP e.key e.name.toList) runs.flatten) e List.countP_le_length rfl]
    exact List.mem_append_right _ List.mem_cons_self
theorem ps_inj {runs : List (List Slot)} (h : Inv runs) {s t : Slot} (hs : s ∈ runs.flatten) (ht : t ∈ runs.flatten) (e : ps s = ps t) : s = t := by
  have hn : (runs.flatten.map ps).Nodup := srt_nodup h.srt h.key
  obtain ⟨i, hi, rfl⟩ := List.mem_iff_getElem.1 hs
  obtain ⟨j, hj, rfl⟩ := List.mem_iff_getElem.1 ht
  have : i = j := (List.getElem_inj (i := i) (j := j) (h₀ := by rw [List.length_map]; exact hi) (h₁ := by rw [List.length_map]; exact hj) hn).1 (by rw [List.getElem_map, List.getElem_map]; exact e)
  subst this; rfl

theorem SInv.set {nm : Nm} {Sh : Shs} (h : SInv nm Sh) (e : Slot) (he : e.key.length = 20) (copy : Bool) : SInv (setS nm Sh e copy).1 (setS nm Sh e copy).2 := by
  obtain ⟨h1, h2, h3⟩ := set1_inv h e.name (e.key, copy)
  unfold setS
  generalize set1 nm Sh e.name (e.key, copy) = x at *
  refine ⟨setN_nodup h1.nod, fun b => ?_, fun b p => ?_⟩
  · by_cases hb : b = copy
    · subst hb; simp only [upd_same]; exact (h1.inv _).put e he
    · simp only [upd_ne _ _ hb]; exact h1.inv b
  · by_cases hb : b = copy
    · subst hb
      simp only [upd_same]
      rw [mem_prs_put (h1.inv _) e he, h1.mem]
      constructor
      · rintro (rfl | ⟨n, q1, q2⟩)
        · exact ⟨e.name, rfl, by rw [getN_set, if_pos rfl]; rfl⟩
        · refine ⟨n, q1, ?_⟩
          rw [getN_set]
          split
          · rename_i en
            subst en
            rw [← h2 _ q2]
          · exact q2
      · rintro ⟨n, q1, q2⟩
        rw [getN_set] at q2
        split at q2
        · rename_i en
          subst en
          simp only [Option.some.injEq, Prod.mk.injEq, and_true] at q2
          exact .inl (Prod.ext q2.symm q1.symm)
        · exact .inr ⟨n, q1, q2⟩
    · simp only [upd_ne _ _ hb]
      rw [h1.mem]
      constructor
      · rintro ⟨n, q1, q2⟩
        refine ⟨n, q1, ?_⟩
        rw [getN_set, if_neg]
        · exact q2
        · intro en
          subst en
          have := h2 _ q2
          simp only [Prod.mk.injEq] at this
          exact hb this.2
      · rintro ⟨n, q1, q2⟩
        rw [getN_set] at q2
        split at q2
        · simp only [Option.some.injEq, Prod.mk.injEq] at q2
          exact absurd q2.2.symm hb
        · exact ⟨n, q1, q2⟩

/-! ### What the store holds: the last set of each name -/
structure OpR where
  key : List UInt8
  name : ByteArray
  va : Option Addr
  vl : List UInt8
  vcap : Nat
  copy : Bool
def slotOf (o : OpR) : Slot := ⟨o.key, o.name, .slice o.va o.vl.length o.vcap, (term o.name.data.toList o.vl : Nat)⟩
def lastOp (os : List OpR) (n : ByteArray) : Option OpR := os.foldl (fun acc o => if o.name = n then some o else acc) none
theorem lastOp_app (os : List OpR) (o : OpR) (n : ByteArray) : lastOp (os ++ [o]) n = if o.name = n then some o else lastOp os n := by
  unfold lastOp; rw [List.foldl_append]; rfl
theorem lastOp_name {os : List OpR} {n : ByteArray} {o : OpR} (h : lastOp os n = some o) : o.name = n ∧ o ∈ os := by
  have gen : ∀ (os : List OpR) (acc : Option OpR), os.foldl (fun acc o => if o.name = n then some o else acc) acc = some o → acc = some o ∨ (o.name = n ∧ o ∈ os) := by
    intro os
    induction os with
    | nil => intro acc h; exact .inl h
    | cons x os ih =>
      intro acc h
      rw [List.foldl_cons] at h
      rcases ih _ h with h | h
      · split at h
        · rename_i e; cases h; exact .inr ⟨e, by simp⟩
        · exact .inl h
      · exact .inr ⟨h.1, List.mem_cons_of_mem _ h.2⟩
  rcases gen os none h with h | h
  · cases h
  · exact h
structure Cont (os : List OpR) (nm : Nm) (Sh : Shs) : Prop where
  get : ∀ n, getN nm n = (lastOp os n).map (fun o => (o.key, o.copy))
  slot : ∀ b s, s ∈ (Sh b).flatten → ∃ o, lastOp os s.name = some o ∧ s = slotOf o
theorem Cont.nil : Cont [] [] (fun _ => []) := ⟨fun n => rfl, fun b s hs => by simp at hs⟩
theorem Cont.set {os : List OpR} {nm : Nm} {Sh : Shs} (h : SInv nm Sh) (hc : Cont os nm Sh) (o : OpR) (ho : o.key.length = 20) : Cont (os ++ [o]) (setS nm Sh (slotOf o) o.copy).1 (setS nm Sh (slotOf o) o.copy).2 := by
  have hS := h.set (slotOf o) ho o.copy
  obtain ⟨h1, h2, h3⟩ := set1_inv h o.name (o.key, o.copy)
  have hget : ∀ n, getN (setS nm Sh (slotOf o) o.copy).1 n = (lastOp (os ++ [o]) n).map (fun o => (o.key, o.copy)) := by
    intro n
    rw [lastOp_app]
    show getN (setN (set1 nm Sh o.name (o.key, o.copy)).1 o.name (o.key, o.copy)) n = _
    rw [getN_set]
    by_cases hn : n = o.name
    · subst hn; simp
    · rw [if_neg hn, if_neg (fun e => hn e.symm), h3 n hn]; exact hc.get n
  refine ⟨hget, fun b s hs => ?_⟩
  have hpm : ps s ∈ prs ((setS nm Sh (slotOf o) o.copy).2 b) := List.mem_map.2 ⟨s, hs, rfl⟩
  obtain ⟨m, q1, q2⟩ := (hS.mem b _).1 hpm
  have hmn : m = s.name := ba_toList q1
  subst hmn
  by_cases hn : s.name = o.name
  · rw [hget, lastOp_app, if_pos hn.symm] at q2
    simp only [Option.map_some, Option.some.injEq, Prod.mk.injEq] at q2
    obtain ⟨k1, k2⟩ := q2
    subst k2
    refine ⟨o, by rw [lastOp_app, if_pos hn.symm], ?_⟩
    have hse : ps s = ps (slotOf o) := Prod.ext k1.symm (by show s.name.toList = o.name.toList; rw [hn])
    refine ps_inj (hS.inv o.copy) hs ?_ hse
    show slotOf o ∈ (upd (set1 nm Sh o.name (o.key, o.copy)).2 o.copy _ o.copy).flatten
    rw [upd_same]
    exact put_self (h1.inv _) (slotOf o) ho
  · have hold : s ∈ (Sh b).flatten := by
      have hs' : s ∈ (upd (set1 nm Sh o.name (o.key, o.copy)).2 o.copy (putL ((set1 nm Sh o.name (o.key, o.copy)).2 o.copy) (slotOf o)) b).flatten := hs
      by_cases hb : b = o.copy
      · subst hb
        rw [upd_same] at hs'
        rcases mem_put hs' with rfl | hs'
        · exact absurd rfl hn
        · exact set1_sub h _ _ _ hs'
      · rw [upd_ne _ _ hb] at hs'
        exact set1_sub h _ _ _ hs'
    obtain ⟨o', e1, e2⟩ := hc.slot b s hold
    exact ⟨o', by rw [lastOp_app, if_neg (fun e => hn e.symm)]; exact e1, e2⟩
end Go.Sx
