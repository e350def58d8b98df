/-
  Sx: explicit walks over an abstract frame. A store is an association list of the slots that are known;
  one lemma an operation; regions that draw their order go by one ordering theorem.
-/
import Derived.Tactics
import Derived.Orders
import Derived.Scope
import Derived.Deep.LoopGhost
import Derived.KernelRfl
import Derived.Laws.World
set_option linter.unusedVariables false
set_option linter.unusedSimpArgs false
namespace Go.Sx

/-! ### Stores -/
abbrev Store := List (Nat × Value)

def get : List (Nat × Value) → Nat → Option Value
  | [], _ => none
  | (t, v) :: r, u => bif Nat.beq t u then some v else get r u

def ev (s : Store) : Operand → Option Value
  | .tmp t => get s t
  | .const v => some v
  | .global g => some (.pointer (some ⟨g, 0, none⟩))
  | .func f => some (.func (.func f) #[] #[])

def evs (s : Store) : List Operand → Option (List Value)
  | [] => some []
  | x :: xs => match ev s x with
    | none => none
    | some v => match evs s xs with
      | none => none
      | some vs => some (v :: vs)

structure St (N : Nat) (s : Store) (a : Act) : Prop where
  size : a.tmps.size = N
  defers : a.defers = []
  look : ∀ t v, get s t = some v → a.tmps[t]? = some v

def Agr (s : Store) (ρ : Operand → Value) : Prop := ∀ x v, ev s x = some v → ρ x = v

theorem St.agr {N : Nat} {s : Store} {a : Act} (h : St N s a) : Agr s a.eval := by
  intro x v hx
  cases x with
  | tmp t => have := h.look t v hx; simp [Act.eval, this]
  | const u => simpa [ev, Act.eval] using hx
  | global g => simpa [ev, Act.eval] using hx
  | func f => simpa [ev, Act.eval] using hx

theorem Agr.evs {s : Store} {ρ : Operand → Value} (h : Agr s ρ) : ∀ (xs : List Operand) (vs : List Value), Sx.evs s xs = some vs → xs.map ρ = vs
  | [], vs, hx => by simpa [Sx.evs] using hx
  | x :: xs, vs, hx => by
    simp only [Sx.evs] at hx
    cases h1 : ev s x with
    | none => simp [h1] at hx
    | some v =>
      cases h2 : Sx.evs s xs with
      | none => simp [h1, h2] at hx
      | some us =>
        simp only [h1, h2, Option.some.injEq] at hx
        subst hx
        simp [h x v h1, h.evs xs us h2]

theorem St.put {N d : Nat} {s : Store} {a : Act} (h : St N s a) (hd : Nat.blt d N = true) (v : Value) : St N ((d, v) :: s) (a.put (some d) v) := by
  refine ⟨by simp [Act.put, h.size], by simpa [Act.put] using h.defers, ?_⟩
  intro t u ht
  have hlt : d < a.tmps.size := by rw [h.size]; simpa [Nat.blt_eq] using hd
  simp only [get] at ht
  by_cases e : d = t
  · subst e
    simp at ht
    subst ht
    simp [Act.put, hlt]
  · have hb : Nat.beq d t = false := by
      cases hh : Nat.beq d t with
      | false => rfl
      | true => exact absurd (Nat.eq_of_beq_eq_true hh) e
    rw [hb] at ht
    simp at ht
    have := h.look t u ht
    simp [Act.put, Array.getElem?_setIfInBounds_ne e, this]

theorem St.putNone {N : Nat} {s : Store} {a : Act} (h : St N s a) (v : Value) : St N s (a.put none v) := h

def Sub : Store → Store → Prop
  | [], _ => True
  | (t, v) :: r, s => get s t = some v ∧ Sub r s

theorem Sub.look {s : Store} : ∀ {s' : Store}, Sub s' s → ∀ t v, get s' t = some v → get s t = some v
  | [], _, t, v, h => by simp [get] at h
  | (p, q) :: r, hs, t, v, h => by
    simp only [get] at h
    cases hb : Nat.beq p t with
    | true =>
      have e := Nat.eq_of_beq_eq_true hb
      rw [hb] at h
      simp at h
      subst e; subst h
      exact hs.1
    | false =>
      rw [hb] at h
      simp at h
      exact Sub.look hs.2 t v h

theorem St.sub {N : Nat} {s s' : Store} {a : Act} (h : St N s a) (hs : Sub s' s) : St N s' a :=
  ⟨h.size, h.defers, fun t v ht => h.look t v (hs.look t v ht)⟩

/-! ### What one operation does -/
def OpOk (P : Program) (s : Store) (op : Op) (ty : TypeId) (w : World) (v : Value) (w' : World) : Prop :=
  ∀ ρ, Agr s ρ → ∀ o : Oper, o.op = op → o.type = ty → (execOp ρ o).run P w = .ok (.value v) w'
def OpSkip (P : Program) (s : Store) (op : Op) (ty : TypeId) (w : World) (w' : World) : Prop :=
  ∀ ρ, Agr s ρ → ∀ o : Oper, o.op = op → o.type = ty → (execOp ρ o).run P w = .ok .skip w'
def OpCall (P : Program) (s : Store) (op : Op) (ty : TypeId) (w : World) (f : FuncId) (args : Array Value) : Prop :=
  ∀ ρ, Agr s ρ → ∀ o : Oper, o.op = op → o.type = ty → (execOp ρ o).run P w = .ok (.enter f args) w

/-- A call that returns a value (no panic, never out of room). -/
def CallsV (P : Program) (f : FuncId) (args : Array Value) (w : World) (R : Value → World → Prop) : Prop :=
  Calls P f args w fun e w' => ∃ v, e = .returned v ∧ R v w'

theorem CallsV.mono {P : Program} {f : FuncId} {args : Array Value} {w : World} {R R' : Value → World → Prop} (h : CallsV P f args w R)
    (hr : ∀ v w', R v w' → R' v w') : CallsV P f args w R' :=
  Calls.mono h fun e w' ⟨v, he, hv⟩ => ⟨v, he, hr v w' hv⟩

/-! ### Lists of operations (regions in the text's order) -/
def WL (P : Program) (N : Nat) (ops : Array Oper) (Q : Exit → Act → World → Prop) (l : List Oper) (s : Store) (w : World) : Prop :=
  ∀ a, St N s a → wpList P ops Q l a w

def WX (N : Nat) (Q : Exit → Act → World → Prop) (e : Exit) (s : Store) (w : World) : Prop := ∀ a, St N s a → Q e a w

section
variable {P : Program} {N : Nat} {ops : Array Oper} {Q : Exit → Act → World → Prop} {rest : List Oper} {s : Store} {w : World}

theorem WL.nil (h : WX N Q .normal s w) : WL P N ops Q [] s w := fun a ha => h a ha

theorem WL.step {d : Nat} {op : Op} {ty : TypeId} {pos : String} {after : Array Edge} {v : Value} {w' : World}
    (ho : OpOk P s op ty w v w') (hd : Nat.blt d N = true) (h : WL P N ops Q rest ((d, v) :: s) w') :
    WL P N ops Q (⟨some d, op, ty, pos, after, none⟩ :: rest) s w := by
  intro a ha
  unfold wpList
  rw [if_pos (by simp [Region.wanted])]
  refine .inl ?_
  unfold Oper.wp
  rw [ho _ ha.agr _ rfl rfl]
  exact h _ (ha.put hd v)

theorem WL.skip {op : Op} {ty : TypeId} {pos : String} {after : Array Edge} {w' : World}
    (ho : OpSkip P s op ty w w') (h : WL P N ops Q rest s w') :
    WL P N ops Q (⟨none, op, ty, pos, after, none⟩ :: rest) s w := by
  intro a ha
  unfold wpList
  rw [if_pos (by simp [Region.wanted])]
  refine .inl ?_
  unfold Oper.wp
  rw [ho _ ha.agr _ rfl rfl]
  exact h _ ha

theorem WL.call {d : Nat} {op : Op} {ty : TypeId} {pos : String} {after : Array Edge} {f : FuncId} {args : Array Value} {R : Value → World → Prop}
    (ho : OpCall P s op ty w f args) (hd : Nat.blt d N = true) (hc : CallsV P f args w R) (h : ∀ v w', R v w' → WL P N ops Q rest ((d, v) :: s) w') :
    WL P N ops Q (⟨some d, op, ty, pos, after, none⟩ :: rest) s w := by
  intro a ha
  unfold wpList
  rw [if_pos (by simp [Region.wanted])]
  refine .inl ?_
  unfold Oper.wp
  rw [ho _ ha.agr _ rfl rfl]
  refine Calls.mono hc ?_
  rintro e w' ⟨v, rfl, hr⟩
  exact h v w' hr _ (ha.put hd v)

theorem yielded_of {j dj : Nat} {u : Value} {a : Act} (ha : St N s a) (hj : (ops[j]?).bind (·.dst) = some dj) (hg : get s dj = some u) :
    yielded ops a.tmps j = match u with | .bool b => some b | _ => none := by
  unfold yielded
  rw [hj]
  simp [ha.look dj u hg]
  cases u <;> rfl

theorem WL.on {dst : Option Nat} {op : Op} {ty : TypeId} {pos : String} {after : Array Edge} {j dj : Nat} {want : Bool}
    (hj : (ops[j]?).bind (·.dst) = some dj) (hg : get s dj = some (.bool want))
    (h : WL P N ops Q (⟨dst, op, ty, pos, after, none⟩ :: rest) s w) :
    WL P N ops Q (⟨dst, op, ty, pos, after, some (j, want)⟩ :: rest) s w := by
  intro a ha
  have h1 := h a ha
  unfold wpList at h1 ⊢
  rw [if_pos (by simp [Region.wanted])] at h1
  rw [if_pos (by simp [Region.wanted, yielded_of ha hj hg])]
  exact h1

theorem WL.off {d : Nat} {op : Op} {ty : TypeId} {pos : String} {after : Array Edge} {j dj : Nat} {want b : Bool}
    (hj : (ops[j]?).bind (·.dst) = some dj) (hg : get s dj = some (.bool b)) (hb : b = !want) (hd : Nat.blt d N = true)
    (h : WL P N ops Q rest ((d, undef) :: s) w) :
    WL P N ops Q (⟨some d, op, ty, pos, after, some (j, want)⟩ :: rest) s w := by
  intro a ha
  unfold wpList
  rw [if_neg (by subst hb; simp [Region.wanted, yielded_of ha hj hg])]
  exact h _ (ha.put hd undef)

theorem WL.offU {d : Nat} {op : Op} {ty : TypeId} {pos : String} {after : Array Edge} {j dj : Nat} {want : Bool}
    (hj : (ops[j]?).bind (·.dst) = some dj) (hg : get s dj = some undef) (hd : Nat.blt d N = true)
    (h : WL P N ops Q rest ((d, undef) :: s) w) :
    WL P N ops Q (⟨some d, op, ty, pos, after, some (j, want)⟩ :: rest) s w := by
  intro a ha
  unfold wpList
  rw [if_neg (by simp [Region.wanted, yielded_of ha hj hg, undef])]
  exact h _ (ha.put hd undef)

theorem WL.splitB {l : List Oper} (d : Nat) {b : Bool} (hg : get s d = some (.bool b)) (ht : b = true → WL P N ops Q l ((d, .bool true) :: s) w) (hf : b = false → WL P N ops Q l ((d, .bool false) :: s) w) :
    WL P N ops Q l s w := by
  intro a ha
  cases b with
  | true => exact ht rfl a ⟨ha.size, ha.defers, fun t v h => by
      simp only [get] at h
      cases hb : Nat.beq d t with
      | true => rw [hb] at h; simp at h; subst h; have e := Nat.eq_of_beq_eq_true hb; subst e; exact ha.look _ _ hg
      | false => rw [hb] at h; simp at h; exact ha.look _ _ h⟩
  | false => exact hf rfl a ⟨ha.size, ha.defers, fun t v h => by
      simp only [get] at h
      cases hb : Nat.beq d t with
      | true => rw [hb] at h; simp at h; subst h; have e := Nat.eq_of_beq_eq_true hb; subst e; exact ha.look _ _ hg
      | false => rw [hb] at h; simp at h; exact ha.look _ _ h⟩

/-- A known slot, its value written otherwise. -/
theorem St.rew {d : Nat} {v v' : Value} {a : Act} (ha : St N s a) (hg : get s d = some v) (hv : v = v') : St N ((d, v') :: s) a := by
  subst hv
  refine ⟨ha.size, ha.defers, fun t u h => ?_⟩
  simp only [get] at h
  cases hb : Nat.beq d t with
  | true => rw [hb] at h; simp at h; subst h; have e := Nat.eq_of_beq_eq_true hb; subst e; exact ha.look _ _ hg
  | false => rw [hb] at h; simp at h; exact ha.look _ _ h
theorem WL.rew {l : List Oper} (d : Nat) {v : Value} (v' : Value) (hg : get s d = some v) (hv : v = v') (h : WL P N ops Q l ((d, v') :: s) w) : WL P N ops Q l s w :=
  fun a ha => h a (ha.rew hg hv)

theorem WL.sub {s' : Store} {l : List Oper} (hs : Sub s' s) (h : WL P N ops Q l s' w) : WL P N ops Q l s w := fun a ha => h a (ha.sub hs)
end

/-! ### Code -/
def WC (P : Program) (N : Nat) (Q : Exit → Act → World → Prop) (c : Code) (s : Store) (w : World) : Prop :=
  ∀ a, St N s a → c.wp P Q a w

/-- What a round of a loop hands on. -/
def Again (N : Nat) {X : Type} (sI : X → Store) (RI : X → World → Prop) (μ : X → Nat) (m : Nat) : Act → World → Prop :=
  fun a w => ∃ x, St N (sI x) a ∧ RI x w ∧ μ x < m

section
variable {P : Program} {N : Nat} {Q : Exit → Act → World → Prop} {s : Store} {w : World}

theorem WC.sub {s' : Store} {c : Code} (hs : Sub s' s) (h : WC P N Q c s' w) : WC P N Q c s w := fun a ha => h a (ha.sub hs)
theorem WC.rew {c : Code} (d : Nat) {v : Value} (v' : Value) (hg : get s d = some v) (hv : v = v') (h : WC P N Q c ((d, v') :: s) w) : WC P N Q c s w :=
  fun a ha => h a (ha.rew hg hv)
/-- A join: whatever way the first part takes, it hands on one of a family of states. -/
theorem WC.cut {x y : Code} {X : Type} (sI : X → Store) (RI : X → World → Prop) (hx : WC P N (Exit.then (Again N sI RI (fun _ => 0) 1) Q) x s w)
    (hy : ∀ x w, RI x w → WC P N Q y (sI x) w) : WC P N Q (.seq x y) s w := fun a ha =>
  wp_seq (wp_mono (hx a ha) fun e a' w' h => by
    cases e with
    | normal => obtain ⟨x, h1, h2, _⟩ := h; exact hy x w' h2 a' h1
    | exit id => exact h
    | goto l => exact h
    | ret => exact h
    | panic ch => exact h
    | outgrown => exact h)
theorem WC.seq {x y : Code} (h : WC P N (Exit.then (y.wp P Q) Q) x s w) : WC P N Q (.seq x y) s w := fun a ha => wp_seq (h a ha)
theorem WC.region {id : Nat} {l : List Oper} (h : WL P N l.toArray Q l s w) : WC P N Q (.region id l.toArray false) s w :=
  fun a ha => wp_region_lit (h a ha)
theorem WC.cond {c : Operand} {x y : Code} {b : Bool} (hc : ev s c = some (.bool b)) (ht : b = true → WC P N Q x s w) (hf : b = false → WC P N Q y s w) :
    WC P N Q (.cond c x y) s w := fun a ha => wp_cond_split (ha.agr c _ hc) (fun h => ht h a ha) (fun h => hf h a ha)
theorem WC.condT {c : Operand} {x y : Code} (hc : ev s c = some (.bool true)) (ht : WC P N Q x s w) : WC P N Q (.cond c x y) s w :=
  WC.cond hc (fun _ => ht) (fun h => by cases h)
theorem WC.condF {c : Operand} {x y : Code} (hc : ev s c = some (.bool false)) (hf : WC P N Q y s w) : WC P N Q (.cond c x y) s w :=
  WC.cond hc (fun h => by cases h) (fun _ => hf)
theorem WC.block {id : Nat} {c : Code} (h : WC P N (Exit.inBlock id Q) c s w) : WC P N Q (.block id c) s w := fun a ha => wp_block (h a ha)
theorem WC.scope {c : Code} (h : WC P N (Exit.noGoto Q) c s w) : WC P N Q (.scope c) s w := fun a ha => wp_scope_straight (h a ha)
theorem WC.label {l : Nat} (h : WX N Q .normal s w) : WC P N Q (.label l) s w := fun a ha => wp_label (h a ha)
theorem WC.skip (h : WX N Q .normal s w) : WC P N Q .skip s w := fun a ha => wp_skip (h a ha)
theorem WC.exit {id : Nat} (h : WX N Q (.exit id) s w) : WC P N Q (.exit id) s w := fun a ha => wp_exit (h a ha)
theorem WC.ret (h : WX N Q .ret s w) : WC P N Q .ret s w := fun a ha => wp_ret (h a ha)

theorem WC.loop {c : Code} {X : Type} (sI : X → Store) (RI : X → World → Prop) (μ : X → Nat) (x0 : X) (hs : Sub (sI x0) s) (hr : RI x0 w)
    (round : ∀ x w, RI x w → WC P N (Exit.then (Again N sI RI μ (μ x)) Q) c (sI x) w) : WC P N Q (.loop c) s w := by
  intro a ha
  refine wp_loop_ghost (fun n a w => ∃ x, μ x = n ∧ St N (sI x) a ∧ RI x w) (μ x0) ⟨x0, rfl, ha.sub hs, hr⟩ ?_
  rintro n a w ⟨x, rfl, hst, hri⟩
  refine wp_mono (round x w hri a hst) ?_
  intro e a' w' hq
  cases e with
  | normal =>
    obtain ⟨x', h1, h2, h3⟩ := hq
    exact ⟨μ x', h3, x', rfl, h1, h2⟩
  | exit id => exact hq
  | goto l => exact hq
  | ret => exact hq
  | panic ch => exact hq
  | outgrown => exact hq

theorem WX.sub {s' : Store} {e : Exit} (hs : Sub s' s) (h : WX N Q e s' w) : WX N Q e s w := fun a ha => h a (ha.sub hs)
theorem WX.thenC {y : Code} {Q' : Exit → Act → World → Prop} (h : WC P N Q' y s w) : WX N (Exit.then (y.wp P Q') Q) .normal s w := fun a ha => h a ha
theorem WX.again {X : Type} {sI : X → Store} {RI : X → World → Prop} {μ : X → Nat} {m : Nat} (x : X) (hs : Sub (sI x) s) (hr : RI x w) (hm : μ x < m) :
    WX N (Exit.then (Again N sI RI μ m) Q) .normal s w := fun a ha => ⟨x, ha.sub hs, hr, hm⟩
theorem WX.thenE {K : Act → World → Prop} {id : Nat} (h : WX N Q (.exit id) s w) : WX N (Exit.then K Q) (.exit id) s w := h
theorem WX.thenR {K : Act → World → Prop} (h : WX N Q .ret s w) : WX N (Exit.then K Q) .ret s w := h
theorem WX.blockN {id : Nat} (h : WX N Q .normal s w) : WX N (Exit.inBlock id Q) .normal s w := h
theorem WX.blockR {id : Nat} (h : WX N Q .ret s w) : WX N (Exit.inBlock id Q) .ret s w := h
theorem WX.blockHit {id : Nat} (h : WX N Q .normal s w) : WX N (Exit.inBlock id Q) (.exit id) s w := fun a ha => by
  simp only [Exit.inBlock, if_true]; exact h a ha
theorem WX.blockMiss {id id' : Nat} (hne : Nat.beq id' id = false) (h : WX N Q (.exit id') s w) : WX N (Exit.inBlock id Q) (.exit id') s w := fun a ha => by
  have : id' ≠ id := fun e => by subst e; simp at hne
  simp only [Exit.inBlock, if_neg this]; exact h a ha
theorem WX.noGotoN (h : WX N Q .normal s w) : WX N (Exit.noGoto Q) .normal s w := h
theorem WX.noGotoR (h : WX N Q .ret s w) : WX N (Exit.noGoto Q) .ret s w := h
theorem WX.noGotoE {id : Nat} (h : WX N Q (.exit id) s w) : WX N (Exit.noGoto Q) (.exit id) s w := h

end

/-! ### A function -/
def argStore : Nat → List Value → Store
  | _, [] => []
  | i, v :: vs => (i, v) :: argStore (i + 1) vs

theorem get_argStore : ∀ (vs : List Value) (i t : Nat) (v : Value), get (argStore i vs) t = some v → i ≤ t ∧ vs[t - i]? = some v
  | [], i, t, v, h => by simp [argStore, get] at h
  | u :: vs, i, t, v, h => by
    simp only [argStore, get] at h
    cases hb : Nat.beq i t with
    | true =>
      have e := Nat.eq_of_beq_eq_true hb
      rw [hb] at h
      simp at h
      subst e; subst h
      simp
    | false =>
      rw [hb] at h
      simp at h
      have := get_argStore vs (i + 1) t v h
      refine ⟨by omega, ?_⟩
      have e : t - i = (t - (i + 1)) + 1 := by omega
      rw [e]
      simpa using this.2

theorem calls_intro {P : Program} {f : FuncId} {fn : Func} {c : Code} {N : Nat} {args : List Value} {w : World} {R : Ending → World → Prop}
    (hf : P.funcs[f]? = some fn) (hb : fn.body = some c) (hn : fn.ntmps = N) (hle : Nat.ble args.length N = true)
    (h : WC P N (bodyPost P fn R) c (argStore 0 args) w) : Calls P f args.toArray w R := by
  refine calls_of_wp hf hb (h _ ?_)
  have hle' : args.length ≤ N := Nat.le_of_ble_eq_true hle
  refine ⟨by simp [hn]; omega, rfl, ?_⟩
  intro t v ht
  have h1 := get_argStore args 0 t v ht
  have hlt : t < args.length := by
    have := (List.getElem?_eq_some_iff.1 h1.2).1
    omega
  simp only [List.getElem?_toArray, Array.getElem?_append, List.size_toArray, if_pos hlt]
  simpa using h1.2

section
variable {P : Program} {N : Nat} {fn : Func} {R : Ending → World → Prop} {s : Store} {w : World}

theorem WX.ret1 {t : Nat} {v : Value} (hres : fn.results = #[.tmp t]) (hv : get s t = some v) (h : R (.returned v) w) :
    WX N (bodyPost P fn R) .ret s w := fun a ha => by
  refine bodyPost_ret (v := v) ?_ ha.defers h
  rw [results_tmp hres]
  simp [ha.look t v hv]

theorem WX.ret0 (hres : fn.results = #[]) (h : R (.returned (.tuple #[])) w) : WX N (bodyPost P fn R) .ret s w := fun a ha =>
  bodyPost_ret (results_none hres _ _ _) ha.defers h
theorem WX.end0 (hres : fn.results = #[]) (h : R (.returned (.tuple #[])) w) : WX N (bodyPost P fn R) .normal s w := fun a ha =>
  bodyPost_end (results_none hres _ _ _) ha.defers h

theorem WX.ret2 {t u : Nat} {v v' : Value} (hres : fn.results = #[.tmp t, .tmp u]) (hv : get s t = some v) (hv' : get s u = some v') (h : R (.returned (.tuple #[v, v'])) w) :
    WX N (bodyPost P fn R) .ret s w := fun a ha => by
  refine bodyPost_ret (v := .tuple #[v, v']) ?_ ha.defers h
  rw [results_tmp2 hres]
  simp [ha.look t v hv, ha.look u v' hv']

theorem WX.ret3 {t u x : Nat} {v v' v'' : Value} (hres : fn.results = #[.tmp t, .tmp u, .tmp x]) (hv : get s t = some v) (hv' : get s u = some v') (hv'' : get s x = some v'')
    (h : R (.returned (.tuple #[v, v', v''])) w) : WX N (bodyPost P fn R) .ret s w := fun a ha => by
  refine bodyPost_ret (v := .tuple #[v, v', v'']) ?_ ha.defers h
  simp [results, hres, ha.look t v hv, ha.look u v' hv', ha.look x v'' hv'']

theorem WX.ret4 {t u x y : Nat} {v v' v'' v3 : Value} (hres : fn.results = #[.tmp t, .tmp u, .tmp x, .tmp y]) (hv : get s t = some v) (hv' : get s u = some v') (hv'' : get s x = some v'') (hv3 : get s y = some v3)
    (h : R (.returned (.tuple #[v, v', v'', v3])) w) : WX N (bodyPost P fn R) .ret s w := fun a ha => by
  refine bodyPost_ret (v := .tuple #[v, v', v'', v3]) ?_ ha.defers h
  simp [results, hres, ha.look t v hv, ha.look u v' hv', ha.look x v'' hv'', ha.look y v3 hv3]
end

end Go.Sx
