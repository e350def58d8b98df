/-
  SxD: regions that draw their order. Quiet operations are taken first (each yields its value in every world that meets S);
  a loud one is carried out where it is the only one that may come up. Behind the operations of the list L nothing is owed to S:
  whatever is taken first comes ahead of them in every order.
-/
import Derived.Test.Qxb6605742aSx
import Derived.OrdersHeld
import Derived.Deep.RegionHeld3
set_option linter.unusedVariables false
set_option linter.unusedSimpArgs false
namespace Go.Sx

def dpreds (md : Region.Mode) (ops : Array Oper) (j : Nat) : List Nat :=
  match ops[j]? with
  | none => []
  | some o => (o.after.toList.filter (Region.binds md ·)).map (·.on)

def addNew (acc : List Nat) (xs : List Nat) : List Nat := xs.foldl (fun acc x => bif acc.contains x then acc else x :: acc) acc

def anc (md : Region.Mode) (ops : Array Oper) : Nat → List Nat → List Nat
  | 0, s => s
  | f + 1, s => anc md ops f (s.foldl (fun acc j => addNew acc (dpreds md ops j)) s)

def Closed (md : Region.Mode) (ops : Array Oper) (listed : Array Bool) : Prop :=
  ∀ j oj, ops[j]? = some oj → listed.getD j false = true → ∀ e ∈ oj.after, Region.binds md e = true → listed.getD e.on false = true

section
variable {P : Program} {ops : Array Oper} {Q : Exit → Act → World → Prop} {md : Region.Mode} {S : World → Prop}

theorem addNew_all {p : Nat → Prop} : ∀ (xs acc : List Nat), (∀ x ∈ acc, p x) → (∀ x ∈ xs, p x) → ∀ x ∈ addNew acc xs, p x
  | [], acc, h, _, x, hx => h x hx
  | y :: xs, acc, h, h2, x, hx => by
    simp only [addNew, List.foldl_cons] at hx
    refine addNew_all xs _ ?_ (fun x hx => h2 x (List.mem_cons_of_mem _ hx)) x hx
    intro z hz
    cases hc : acc.contains y with
    | true => rw [hc] at hz; exact h z hz
    | false =>
      rw [hc] at hz
      rcases List.mem_cons.1 hz with rfl | hz
      · exact h2 _ (List.mem_cons_self ..)
      · exact h z hz

theorem dpreds_listed {listed : Array Bool} (hc : Closed md ops listed) {j : Nat} (hj : listed.getD j false = true) : ∀ x ∈ dpreds md ops j, listed.getD x false = true := by
  intro x hx
  unfold dpreds at hx
  cases ho : ops[j]? with
  | none => simp [ho] at hx
  | some o =>
    simp only [ho, List.mem_map, List.mem_filter] at hx
    obtain ⟨e, ⟨he, hb⟩, rfl⟩ := hx
    exact hc j o ho hj e (by simpa using he) hb

theorem foldl_all {listed : Array Bool} (hc : Closed md ops listed) : ∀ (s acc : List Nat), (∀ x ∈ s, listed.getD x false = true) → (∀ x ∈ acc, listed.getD x false = true) →
    ∀ x ∈ s.foldl (fun acc j => addNew acc (dpreds md ops j)) acc, listed.getD x false = true
  | [], acc, _, h, x, hx => h x hx
  | y :: s, acc, hs, h, x, hx => by
    simp only [List.foldl_cons] at hx
    exact foldl_all hc s _ (fun x hx => hs x (List.mem_cons_of_mem _ hx)) (addNew_all _ _ h (dpreds_listed hc (hs y (List.mem_cons_self ..)))) x hx

theorem anc_listed {listed : Array Bool} (hc : Closed md ops listed) : ∀ (f : Nat) (s : List Nat), (∀ x ∈ s, listed.getD x false = true) → ∀ x ∈ anc md ops f s, listed.getD x false = true
  | 0, s, h, x, hx => h x hx
  | f + 1, s, h, x, hx => anc_listed hc f _ (foldl_all hc s s h h) x hx

theorem ready_waits {listed : Array Bool} (hc : Closed md ops listed) {i j F : Nat} (hj : j ∈ Region.ready md ops listed) (hi : listed.getD i true = false)
    (hr : (anc md ops F (dpreds md ops j)).contains i = true) : False := by
  obtain ⟨_, o, ho, hall⟩ := mem_ready.1 hj
  have h1 : ∀ x ∈ dpreds md ops j, listed.getD x false = true := by
    intro x hx
    unfold dpreds at hx
    simp only [ho, List.mem_map, List.mem_filter] at hx
    obtain ⟨e, ⟨he, hb⟩, rfl⟩ := hx
    exact hall e (by simpa using he) hb
  have h2 := anc_listed hc F _ h1 i (by simpa using hr)
  rcases Nat.lt_or_ge i listed.size with h' | h'
  · simp [h'] at hi h2; rw [hi] at h2; cases h2
  · simp [Array.getElem?_eq_none h'] at h2

theorem Closed.set {listed : Array Bool} (hc : Closed md ops listed) {i : Nat} (hi : i ∈ Region.ready md ops listed) : Closed md ops (listed.setIfInBounds i true) := by
  obtain ⟨_, o, ho, hall⟩ := mem_ready.1 hi
  intro j oj hj hl e he hb
  by_cases hij : i = j
  · subst hij
    have : oj = o := Option.some.inj (hj.symm.trans ho)
    subst this
    exact getD_set_true (hall e he hb)
  · rw [getD_set_ne false hij] at hl
    exact getD_set_true (hc j oj hj hl e he hb)

/-- Whatever order is picked; S holds behind every operation that is not of L. -/
def wpAnyK (P : Program) (md : Region.Mode) (ops : Array Oper) (Q : Exit → Act → World → Prop) (S : World → Prop) (L : List Nat) : Nat → Array Bool → Act → World → Prop
  | 0, listed, a, w => Region.ready md ops listed = [] ∧ Q .normal a w
  | fuel + 1, listed, a, w =>
    (Region.ready md ops listed = [] → Q .normal a w) ∧
    ∀ i ∈ Region.ready md ops listed, wpOp P ops Q i (fun a' w' => (L.contains i = false → S w') ∧ wpAnyK P md ops Q S L fuel (listed.setIfInBounds i true) a' w') a w

theorem wpAny_of_K {L : List Nat} : ∀ (fuel : Nat) (listed : Array Bool) (a : Act) (w : World), wpAnyK P md ops Q S L fuel listed a w → wpAny P md ops Q fuel listed a w
  | 0, _, _, _, h => h
  | fuel + 1, _, _, _, h => ⟨h.1, fun i hi => wpOp_mono (fun a' w' h' => wpAny_of_K fuel _ a' w' h'.2) (h.2 i hi)⟩

theorem wpAnyK_first {L : List Nat} {F : Nat} {i : Nat} {oi : Oper} {v : Value} (hi : ops[i]? = some oi) (hsel : ∀ (j : Nat) (o : Oper) cs b, ops[j]? = some o → o.op ≠ .select cs b)
    (hQ : ∀ c a w, Q (.panic c) (a.put oi.dst v) w → Q (.panic c) a w) (hiL : L.contains i = false)
    (hL : ∀ j, L.contains j = true → (anc md ops F (dpreds md ops j)).contains i = true) :
    ∀ (fuel : Nat) (listed : Array Bool) (a : Act) (w : World), Closed md ops listed →
      (∀ j oj, ops[j]? = some oj → j ≠ i → listed.getD j true = false → (∀ e ∈ oj.after, Region.binds md e = true → e.on ≠ i) → oi.apart ops oj = true) →
      i ∈ Region.ready md ops listed → YieldsIf P ops S oi v a → S w →
      wpAnyK P md ops Q S L fuel (listed.setIfInBounds i true) (a.put oi.dst v) w → wpAnyK P md ops Q S L (fuel + 1) listed a w := by
  intro fuel
  induction fuel with
  | zero =>
    intro listed a w _ _ hr hy hS H
    refine ⟨fun h => (by rw [h] at hr; cases hr), fun j hj => ?_⟩
    by_cases hji : j = i
    · subst hji; exact hy.wpOp hi hS ⟨fun _ => hS, H⟩
    · have := ready_mono hj hji
      rw [H.1] at this
      cases this
  | succ fuel ih =>
    intro listed a w hcl hfree hr hy hS H
    refine ⟨fun h => (by rw [h] at hr; cases hr), fun j hj => ?_⟩
    by_cases hji : j = i
    · subst hji; exact hy.wpOp hi hS ⟨fun _ => hS, H⟩
    · have h1 := H.2 j (ready_mono hj hji)
      obtain ⟨hjun, oj, hoj, hall⟩ := mem_ready.1 hj
      have hjL : L.contains j = false := by
        cases hc : L.contains j with
        | false => rfl
        | true => exact (ready_waits hcl hj (mem_ready.1 hr).1 (hL j hc)).elim
      have hnot : ∀ e ∈ oj.after, Region.binds md e = true → e.on ≠ i := fun e he hb heq => by
        have h1 := hall e he hb
        have h0 := (mem_ready.1 hr).1
        rw [heq] at h1
        rcases Nat.lt_or_ge i listed.size with h' | h'
        · simp [h'] at h0 h1; rw [h0] at h1; cases h1
        · simp [Array.getElem?_eq_none h'] at h1
      have h2 := wpOp_putIf hoj (hfree j oj hoj hji hjun hnot) (fun cs b => hsel i oi cs b hi) (fun cs b => hsel j oj cs b hoj) hQ hy h1
      have hfree' : ∀ k ok, ops[k]? = some ok → k ≠ i → (listed.setIfInBounds j true).getD k true = false →
          (∀ e ∈ ok.after, Region.binds md e = true → e.on ≠ i) → oi.apart ops ok = true := fun k ok hk hki hun hno => by
        refine hfree k ok hk hki ?_ hno
        by_cases hjk : j = k
        · subst hjk; exact hjun
        · rw [getD_set_ne true hjk] at hun; exact hun
      refine wpOp_mono (fun a' w' h3 => ⟨fun _ => h3.2.1 hjL, ih (listed.setIfInBounds j true) a' w' (hcl.set hj) hfree' (ready_mono hr (Ne.symm hji)) h3.1 (h3.2.1 hjL) ?_⟩) h2
      rw [Array.setIfInBounds_comm _ _ hji]
      exact h3.2.2

/-- The walk in one given order: '(i, true)': number i is quiet; '(i, false)': loud. -/
def wpOrd (P : Program) (ops : Array Oper) (Q : Exit → Act → World → Prop) (S : World → Prop) (L : List Nat) : List (Nat × Bool) → Act → World → Prop
  | [], a, w => Q .normal a w
  | (i, true) :: r, a, w => ∃ oi v, ops[i]? = some oi ∧ YieldsIf P ops S oi v a ∧ S w ∧ wpOrd P ops Q S L r (a.put oi.dst v) w
  | (i, false) :: r, a, w => wpOp P ops Q i (fun a' w' => (L.contains i = false → S w') ∧ wpOrd P ops Q S L r a' w') a w

def okOrd (md : Region.Mode) (ops : Array Oper) (L : List Nat) (F : Nat) : List (Nat × Bool) → Array Bool → Bool
  | [], listed => (Region.ready md ops listed).isEmpty
  | (i, true) :: r, listed => (Region.ready md ops listed).contains i && Region.free md ops listed i && !L.contains i && L.all (fun j => (anc md ops F (dpreds md ops j)).contains i) && okOrd md ops L F r (listed.setIfInBounds i true)
  | (i, false) :: r, listed => (match Region.ready md ops listed with | [j] => Nat.beq j i | _ => false) && okOrd md ops L F r (listed.setIfInBounds i true)

theorem wpAnyK_of_ord {L : List Nat} {F : Nat} (hs : Region.noSelect ops = true) (hQ : ∀ c a w, ¬ Q (.panic c) a w) :
    ∀ (ord : List (Nat × Bool)) (listed : Array Bool) (a : Act) (w : World), Closed md ops listed → okOrd md ops L F ord listed = true →
      wpOrd P ops Q S L ord a w → wpAnyK P md ops Q S L ord.length listed a w
  | [], listed, a, w, _, hB, h => ⟨by simpa [okOrd] using hB, h⟩
  | (i, true) :: r, listed, a, w, hc, hB, h => by
    simp only [okOrd, Bool.and_eq_true] at hB
    obtain ⟨⟨⟨⟨h1, h2⟩, h3⟩, h4⟩, h5⟩ := hB
    obtain ⟨oi, v, hoi, hy, hS, hr⟩ := h
    have hi : i ∈ Region.ready md ops listed := by simpa using h1
    refine wpAnyK_first (F := F) hoi (Region.noSelect_spec hs) (fun c a w hq => (hQ c _ w hq).elim) (by simpa using h3) ?_ r.length listed a w hc (Region.free_spec hoi h2) hi hy hS
      (wpAnyK_of_ord hs hQ r _ _ w (hc.set hi) h5 hr)
    intro j hj
    exact List.all_eq_true.1 h4 j (by simpa using hj)
  | (i, false) :: r, listed, a, w, hc, hB, h => by
    simp only [okOrd, Bool.and_eq_true] at hB
    obtain ⟨h1, h5⟩ := hB
    have hr : Region.ready md ops listed = [i] := by
      revert h1
      split
      · rename_i j hj
        intro hb
        have := Nat.eq_of_beq_eq_true hb
        subst this; exact hj
      · intro hb; cases hb
    refine ⟨fun h0 => (by rw [hr] at h0; cases h0), ?_⟩
    rw [hr]
    intro j hj
    have : j = i := by simpa using hj
    subst this
    exact wpOp_mono (fun a' w' h' => ⟨h'.1, wpAnyK_of_ord hs hQ r _ a' w' (hc.set (by rw [hr]; simp)) h5 h'.2⟩) h

theorem closed_start (n : Nat) : Closed md ops (Array.replicate n false) := by
  intro j oj _ hl
  exfalso
  rcases Nat.lt_or_ge j n with h | h
  · simp [h] at hl
  · simp [h] at hl

def okRegion (ops : Array Oper) (L : List Nat) (F : Nat) (ord : List (Nat × Bool)) : Bool :=
  Region.noSelect ops && Nat.beq ord.length ops.size && okOrd .any ops L F ord (Array.replicate ops.size false)

theorem wp_region_ord {id : Nat} {a : Act} {w : World} {L : List Nat} {F : Nat} {ord : List (Nat × Bool)} (hm : P.follows .mixedOrders = true)
    (hB : okRegion ops L F ord = true) (h : wpOrd P ops (NoPanic Q) S L ord a { w with drawn := w.drawn + 1 }) : (Code.region id ops true).wp P Q a w := by
  simp only [okRegion, Bool.and_eq_true] at hB
  obtain ⟨⟨h1, h2⟩, h3⟩ := hB
  refine wp_region_noPanic (wp_region_any hm (wpAny_of_K (S := S) (L := L) _ _ _ _ ?_))
  have := wpAnyK_of_ord (Q := NoPanic Q) (F := F) h1 (fun c a w hq => hq) ord _ a _ (closed_start ops.size) h3 h
  rw [Nat.eq_of_beq_eq_true h2] at this
  exact this

end

/-! ### With stores -/
def nth : List Oper → Nat → Option Oper
  | [], _ => none
  | o :: _, 0 => some o
  | _ :: l, i + 1 => nth l i

theorem nth_eq : ∀ (l : List Oper) (i : Nat), l.toArray[i]? = nth l i
  | [], i => by simp [nth]
  | o :: l, 0 => by simp [nth]
  | o :: l, i + 1 => by have := nth_eq l i; simp at this; simp [nth, this]

def WO (P : Program) (N : Nat) (l : List Oper) (Q : Exit → Act → World → Prop) (S : World → Prop) (L : List Nat) (ord : List (Nat × Bool)) (s : Store) (w : World) : Prop :=
  ∀ a, St N s a → wpOrd P l.toArray (NoPanic Q) S L ord a w

section
variable {P : Program} {N : Nat} {Q : Exit → Act → World → Prop} {s : Store} {w : World} {S : World → Prop} {L : List Nat} {l : List Oper} {r : List (Nat × Bool)}

theorem WC.draw {id : Nat} (S : World → Prop) (L : List Nat) (F : Nat) (ord : List (Nat × Bool)) (hm : P.follows .mixedOrders = true)
    (hB : okRegion l.toArray L F ord = true) (h : WO P N l Q S L ord s w.drew) : WC P N Q (.region id l.toArray true) s w :=
  fun a ha => wp_region_ord hm hB (h a ha)

theorem WO.splitB (d : Nat) {b : Bool} {ord : List (Nat × Bool)} (hg : get s d = some (.bool b)) (ht : b = true → WO P N l Q S L ord ((d, .bool true) :: s) w) (hf : b = false → WO P N l Q S L ord ((d, .bool false) :: s) w) :
    WO P N l Q S L ord s w := by
  intro a ha
  cases b with
  | true => exact ht rfl a (ha.rew hg rfl)
  | false => exact hf rfl a (ha.rew hg rfl)
theorem WO.rew {ord : List (Nat × Bool)} (d : Nat) {v : Value} (v' : Value) (hg : get s d = some v) (hv : v = v') (h : WO P N l Q S L ord ((d, v') :: s) w) : WO P N l Q S L ord s w :=
  fun a ha => h a (ha.rew hg hv)
theorem WO.nil (h : WX N Q .normal s w) : WO P N l Q S L [] s w := fun a ha => h a ha

/-- A quiet operation without a guard (or whose guard lets it). -/
theorem WO.quiet {i d : Nat} {op : Op} {ty : TypeId} {pos : String} {after : Array Edge} {v : Value}
    (hi : nth l i = some ⟨some d, op, ty, pos, after, none⟩) (ho : ∀ w, S w → OpOk P s op ty w v w) (hS : S w) (hd : Nat.blt d N = true)
    (h : WO P N l Q S L r ((d, v) :: s) w) : WO P N l Q S L ((i, true) :: r) s w := fun a ha =>
  ⟨_, v, (nth_eq l i).trans hi, .inl ⟨by simp [Region.wanted], fun w hw => ho w hw _ ha.agr _ rfl rfl⟩, hS, h _ (ha.put hd v)⟩

theorem WO.quietOn {i d : Nat} {op : Op} {ty : TypeId} {pos : String} {after : Array Edge} {v : Value} {j dj : Nat} {want : Bool}
    (hi : nth l i = some ⟨some d, op, ty, pos, after, some (j, want)⟩) (hj : (nth l j).bind (·.dst) = some dj) (hg : get s dj = some (.bool want))
    (ho : ∀ w, S w → OpOk P s op ty w v w) (hS : S w) (hd : Nat.blt d N = true)
    (h : WO P N l Q S L r ((d, v) :: s) w) : WO P N l Q S L ((i, true) :: r) s w := fun a ha =>
  ⟨_, v, (nth_eq l i).trans hi, .inl ⟨by simp [Region.wanted, yielded_of ha ((congrArg (·.bind (·.dst)) (nth_eq l j)).trans hj) hg], fun w hw => ho w hw _ ha.agr _ rfl rfl⟩, hS, h _ (ha.put hd v)⟩

/-- An operation whose guard says no. -/
theorem WO.off {i d : Nat} {op : Op} {ty : TypeId} {pos : String} {after : Array Edge} {j dj : Nat} {want b : Bool}
    (hi : nth l i = some ⟨some d, op, ty, pos, after, some (j, want)⟩) (hj : (nth l j).bind (·.dst) = some dj) (hg : get s dj = some (.bool b)) (hb : b = !want)
    (hS : S w) (hd : Nat.blt d N = true)
    (h : WO P N l Q S L r ((d, undef) :: s) w) : WO P N l Q S L ((i, true) :: r) s w := fun a ha =>
  ⟨_, undef, (nth_eq l i).trans hi, .inr ⟨by subst hb; simp [Region.wanted, yielded_of ha ((congrArg (·.bind (·.dst)) (nth_eq l j)).trans hj) hg], rfl⟩, hS, h _ (ha.put hd undef)⟩

theorem WO.offU {i d : Nat} {op : Op} {ty : TypeId} {pos : String} {after : Array Edge} {j dj : Nat} {want : Bool}
    (hi : nth l i = some ⟨some d, op, ty, pos, after, some (j, want)⟩) (hj : (nth l j).bind (·.dst) = some dj) (hg : get s dj = some undef)
    (hS : S w) (hd : Nat.blt d N = true)
    (h : WO P N l Q S L r ((d, undef) :: s) w) : WO P N l Q S L ((i, true) :: r) s w := fun a ha =>
  ⟨_, undef, (nth_eq l i).trans hi, .inr ⟨by simp [Region.wanted, yielded_of ha ((congrArg (·.bind (·.dst)) (nth_eq l j)).trans hj) hg, undef], rfl⟩, hS, h _ (ha.put hd undef)⟩

theorem WO.loud {i d : Nat} {op : Op} {ty : TypeId} {pos : String} {after : Array Edge} {v : Value} {w' : World}
    (hi : nth l i = some ⟨some d, op, ty, pos, after, none⟩) (ho : OpOk P s op ty w v w') (hS : L.contains i = false → S w') (hd : Nat.blt d N = true)
    (h : WO P N l Q S L r ((d, v) :: s) w') : WO P N l Q S L ((i, false) :: r) s w := fun a ha => by
  have hi := (nth_eq l i).trans hi
  show wpOp P l.toArray (NoPanic Q) i _ a w
  unfold wpOp
  simp only [hi, Region.wanted, if_true]
  refine .inl ?_
  unfold Oper.wp
  rw [ho _ ha.agr _ rfl rfl]
  exact ⟨hS, h _ (ha.put hd v)⟩

theorem WO.loudOn {i d : Nat} {op : Op} {ty : TypeId} {pos : String} {after : Array Edge} {v : Value} {w' : World} {j dj : Nat} {want : Bool}
    (hi : nth l i = some ⟨some d, op, ty, pos, after, some (j, want)⟩) (hj : (nth l j).bind (·.dst) = some dj) (hg : get s dj = some (.bool want))
    (ho : OpOk P s op ty w v w') (hS : L.contains i = false → S w') (hd : Nat.blt d N = true)
    (h : WO P N l Q S L r ((d, v) :: s) w') : WO P N l Q S L ((i, false) :: r) s w := fun a ha => by
  have hi := (nth_eq l i).trans hi
  show wpOp P l.toArray (NoPanic Q) i _ a w
  unfold wpOp
  simp only [hi, Region.wanted, yielded_of ha ((congrArg (·.bind (·.dst)) (nth_eq l j)).trans hj) hg]
  rw [if_pos (by simp)]
  refine .inl ?_
  unfold Oper.wp
  rw [ho _ ha.agr _ rfl rfl]
  exact ⟨hS, h _ (ha.put hd v)⟩

theorem WO.loudOff {i d : Nat} {op : Op} {ty : TypeId} {pos : String} {after : Array Edge} {j dj : Nat} {want b : Bool}
    (hi : nth l i = some ⟨some d, op, ty, pos, after, some (j, want)⟩) (hj : (nth l j).bind (·.dst) = some dj) (hg : get s dj = some (.bool b)) (hb : b = !want)
    (hS : L.contains i = false → S w) (hd : Nat.blt d N = true)
    (h : WO P N l Q S L r ((d, undef) :: s) w) : WO P N l Q S L ((i, false) :: r) s w := fun a ha => by
  have hi := (nth_eq l i).trans hi
  show wpOp P l.toArray (NoPanic Q) i _ a w
  unfold wpOp
  subst hb
  simp only [hi, Region.wanted, yielded_of ha ((congrArg (·.bind (·.dst)) (nth_eq l j)).trans hj) hg]
  rw [if_neg (by simp)]
  exact ⟨hS, h _ (ha.put hd undef)⟩

theorem WO.loudSkip {i : Nat} {op : Op} {ty : TypeId} {pos : String} {after : Array Edge} {w' : World}
    (hi : nth l i = some ⟨none, op, ty, pos, after, none⟩) (ho : OpSkip P s op ty w w') (hS : L.contains i = false → S w')
    (h : WO P N l Q S L r s w') : WO P N l Q S L ((i, false) :: r) s w := fun a ha => by
  have hi := (nth_eq l i).trans hi
  show wpOp P l.toArray (NoPanic Q) i _ a w
  unfold wpOp
  simp only [hi, Region.wanted, if_true]
  refine .inl ?_
  unfold Oper.wp
  rw [ho _ ha.agr _ rfl rfl]
  exact ⟨hS, h _ ha⟩

theorem WO.loudCall {i d : Nat} {op : Op} {ty : TypeId} {pos : String} {after : Array Edge} {f : FuncId} {args : Array Value} {R : Value → World → Prop}
    (hi : nth l i = some ⟨some d, op, ty, pos, after, none⟩) (ho : OpCall P s op ty w f args) (hd : Nat.blt d N = true) (hc : CallsV P f args w R)
    (h : ∀ v w', R v w' → (L.contains i = false → S w') ∧ WO P N l Q S L r ((d, v) :: s) w') : WO P N l Q S L ((i, false) :: r) s w := fun a ha => by
  have hi := (nth_eq l i).trans hi
  show wpOp P l.toArray (NoPanic Q) i _ a w
  unfold wpOp
  simp only [hi, Region.wanted, if_true]
  refine .inl ?_
  unfold Oper.wp
  rw [ho _ ha.agr _ rfl rfl]
  refine Calls.mono hc ?_
  rintro e w' ⟨v, rfl, hr⟩
  exact ⟨(h v w' hr).1, (h v w' hr).2 _ (ha.put hd v)⟩

theorem WO.loudCallOn {i d : Nat} {op : Op} {ty : TypeId} {pos : String} {after : Array Edge} {f : FuncId} {args : Array Value} {R : Value → World → Prop} {j dj : Nat} {want : Bool}
    (hi : nth l i = some ⟨some d, op, ty, pos, after, some (j, want)⟩) (hj : (nth l j).bind (·.dst) = some dj) (hg : get s dj = some (.bool want))
    (ho : OpCall P s op ty w f args) (hd : Nat.blt d N = true) (hc : CallsV P f args w R)
    (h : ∀ v w', R v w' → (L.contains i = false → S w') ∧ WO P N l Q S L r ((d, v) :: s) w') : WO P N l Q S L ((i, false) :: r) s w := fun a ha => by
  have hi := (nth_eq l i).trans hi
  show wpOp P l.toArray (NoPanic Q) i _ a w
  unfold wpOp
  simp only [hi, Region.wanted, yielded_of ha ((congrArg (·.bind (·.dst)) (nth_eq l j)).trans hj) hg]
  rw [if_pos (by simp)]
  refine .inl ?_
  unfold Oper.wp
  rw [ho _ ha.agr _ rfl rfl]
  refine Calls.mono hc ?_
  rintro e w' ⟨v, rfl, hr⟩
  exact ⟨(h v w' hr).1, (h v w' hr).2 _ (ha.put hd v)⟩

end
end Go.Sx
