/- The store in memory. -/
import Derived.Test.Qxb6605723aSt2
set_option linter.unusedVariables false
set_option linter.unusedSimpArgs false
namespace Go.Sx
open Go.Pl

/-- A store in a block of its own; none of its blocks is one of A's. -/
structure StR (A : Nat → Prop) (w : World) (stb : Nat) (nm : Nm) (hd : Bool → Value) (mp : Option Nat) (rs : Bool → List CRun) (g : Bool → Option Nat) : Prop where
  own : Own w stb 83 [hd false, hd true, .map mp]
  runs : ∀ b, RunsAt w (hd b) (rs b) (g b)
  sb : ∀ b, stb ∉ fp (g b) (rs b)
  dis : ∀ x ∈ fp (g false) (rs false), x ∉ fp (g true) (rs true)
  av : ¬ A stb
  avr : ∀ b, ∀ x ∈ fp (g b) (rs b), ¬ A x
  mnil : mp = none → nm = []
  mat : ∀ mb, mp = some mb → MapAt w mb nm ∧ mb ≠ stb ∧ ¬ A mb ∧ ∀ b, mb ∉ fp (g b) (rs b)
def StoreAt (A : Nat → Prop) (w : World) (stb : Nat) (nm : Nm) (Sh : Shs) : Prop := ∃ hd mp rs g, StR A w stb nm hd mp rs g ∧ ∀ b, slots (rs b) = Sh b

theorem StR.dis' {A : Nat → Prop} {w : World} {stb : Nat} {nm : Nm} {hd : Bool → Value} {mp : Option Nat} {rs : Bool → List CRun} {g : Bool → Option Nat} (h : StR A w stb nm hd mp rs g) {b c : Bool} (hbc : b ≠ c) : ∀ x ∈ fp (g b) (rs b), x ∉ fp (g c) (rs c) := by
  intro x hx hx'
  cases b <;> cases c
  · exact hbc rfl
  · exact h.dis x hx hx'
  · exact h.dis x hx' hx
  · exact hbc rfl
theorem StR.move {A B : Nat → Prop} {w w' : World} {stb : Nat} {nm : Nm} {hd : Bool → Value} {mp : Option Nat} {rs : Bool → List CRun} {g : Bool → Option Nat} (h : StR A w stb nm hd mp rs g) (k : Ext w w') (hB : ∀ b, B b → A b ∨ w.heap.size ≤ b) : StR B w' stb nm hd mp rs g := by
  have hav : ∀ x, x < w.heap.size → ¬ A x → ¬ B x := fun x hx ha hb => (hB x hb).elim ha (fun q => by omega)
  refine ⟨h.own.ext k, fun b => (h.runs b).ext k, h.sb, h.dis, hav _ h.own.lt h.av, fun b x hx => hav x ((h.runs b).lt x hx) (h.avr b x hx), h.mnil, fun mb hm => ?_⟩
  obtain ⟨h1, h2, h3, h4⟩ := h.mat mb hm
  exact ⟨h1.ext k, h2, hav mb h1.lt h3, h4⟩
theorem StoreAt.move {A B : Nat → Prop} {w w' : World} {stb : Nat} {nm : Nm} {Sh : Shs} (h : StoreAt A w stb nm Sh) (k : Ext w w') (hB : ∀ b, B b → A b ∨ w.heap.size ≤ b) : StoreAt B w' stb nm Sh := by
  obtain ⟨hd, mp, rs, g, h1, h2⟩ := h
  exact ⟨hd, mp, rs, g, h1.move k hB, h2⟩
theorem StoreAt.ext {A : Nat → Prop} {w w' : World} {stb : Nat} {nm : Nm} {Sh : Shs} (h : StoreAt A w stb nm Sh) (k : Ext w w') : StoreAt A w' stb nm Sh := h.move k (fun _ q => .inl q)

/-- An operation on one shelf. -/
theorem StR.shelf {A : Nat → Prop} {w w' : World} {stb : Nat} {nm : Nm} {hd : Bool → Value} {mp : Option Nat} {rs : Bool → List CRun} {g : Bool → Option Nat} (h : StR A w stb nm hd mp rs g) (hA : ∀ b, A b → b < w.heap.size) (copy : Bool) {hd' : Value} {rs' : List CRun} {g' : Option Nat}
    (q1 : Own w' stb 83 ([hd false, hd true, .map mp].set copy.toNat hd')) (q2 : RunsAt w' hd' rs' g') (q4 : Kp (fun k => k = stb ∨ k ∈ fp (g copy) (rs copy)) w w') (q5 : ∀ b ∈ fp g' rs', b ∈ fp (g copy) (rs copy) ∨ w.heap.size ≤ b) :
    StR A w' stb nm (fun b => if b = copy then hd' else hd b) mp (fun b => if b = copy then rs' else rs b) (fun b => if b = copy then g' else g b) ∧ Kp (fun k => ¬ A k) w w' := by
  have hst := h.own.lt
  have nst : stb ∉ fp g' rs' := fun hx => (q5 _ hx).elim (h.sb copy) (fun q => by omega)
  have ndis : ∀ c, c ≠ copy → ∀ x ∈ fp g' rs', x ∉ fp (g c) (rs c) := fun c hc x hx hx' => (q5 x hx).elim (fun q => h.dis' (Ne.symm hc) x q hx') (fun q => by have := (h.runs c).lt x hx'; omega)
  have nav : ∀ x ∈ fp g' rs', ¬ A x := fun x hx ha => (q5 x hx).elim (fun q => h.avr copy x q ha) (fun q => by have := hA x ha; omega)
  have keep : ∀ c, c ≠ copy → RunsAt w' (hd c) (rs c) (g c) := fun c hc => (h.runs c).kp q4 (fun x hx e => e.elim (fun e => h.sb c (e ▸ hx)) (fun e => h.dis' hc x hx e))
  refine ⟨⟨?_, fun b => ?_, fun b => ?_, ?_, h.av, fun b x hx => ?_, h.mnil, fun mb hm => ?_⟩, q4.mono (fun k _ e => e.elim (fun e => by rw [e]; exact h.av) (fun e => h.avr copy k e))⟩
  · cases copy <;> simpa using q1
  · by_cases hb : b = copy
    · subst hb; simpa using q2
    · simpa [hb] using keep b hb
  · by_cases hb : b = copy
    · subst hb; simpa using nst
    · simpa [hb] using h.sb b
  · cases copy
    · simpa using ndis true (by decide)
    · intro x hx hx'
      simp at hx hx'
      exact ndis false (by decide) x hx' hx
  · by_cases hb : b = copy
    · subst hb; simp at hx; exact nav x hx
    · simp [hb] at hx; exact h.avr b x hx
  · obtain ⟨h1, h2, h3, h4⟩ := h.mat mb hm
    refine ⟨h1.kp q4 (fun e => e.elim h2 (h4 copy)), h2, h3, fun b => ?_⟩
    by_cases hb : b = copy
    · subst hb
      simp only [if_true]
      exact fun hx => (q5 _ hx).elim (h4 b) (fun q => by have := h1.lt; omega)
    · simpa [hb] using h4 b

theorem WX.retCTT {P : Program} {fn : Func} {N : Nat} {s : Store} {w : World} {R : Ending → World → Prop} {t u u' b o : Nat} {ty : TypeId} {vs : List Value} {v v' : Value} (hres : fn.results = #[.cell t ty, .tmp u, .tmp u']) (hp : get s t = some (.pointer (some ⟨b, o, none⟩))) (hu : get s u = some v) (hu' : get s u' = some v') (ht : AggT P ty) (hsz : Sz P ty vs.length) (hr : Rd w b o vs)
    (h : R (.returned (.tuple #[.agg vs.toArray, v, v'])) w) : WX N (bodyPost P fn R) .ret s w := fun a ha => by
  refine bodyPost_ret (v := .tuple #[.agg vs.toArray, v, v']) ?_ ha.defers h
  have hp' := ha.look t _ hp
  have hu1 := ha.look u _ hu
  have hu2 := ha.look u' _ hu'
  simp [results, hres, hp', hu1, hu2, asAddr, run_loadVar_agg ht hsz hr]

section
variable {P : Program} {s : Store} {ty : TypeId} {w : World}
/-- The names' map, nil or not. -/
def NmAt (w : World) (mp : Option Nat) (nm : Nm) : Prop := (mp = none → nm = []) ∧ ∀ mb, mp = some mb → MapAt w mb nm
theorem NmAt.ext {w w' : World} {mp : Option Nat} {nm : Nm} (h : NmAt w mp nm) (k : Ext w w') : NmAt w' mp nm := ⟨h.1, fun mb hm => (h.2 mb hm).ext k⟩
theorem NmAt.kp {M : Nat → Prop} {w w' : World} {mp : Option Nat} {nm : Nm} (h : NmAt w mp nm) (k : Kp M w w') (hn : ∀ mb, mp = some mb → ¬ M mb) : NmAt w' mp nm := ⟨h.1, fun mb hm => (h.2 mb hm).kp k (hn mb hm)⟩
theorem ok_lookupM {t kt et : TypeId} {x y : Operand} {mp : Option Nat} {n : ByteArray} {nm : Nm} {z : Value} (hx : ev s x = some (.map mp)) (hy : ev s y = some (.string n)) (hm : P.underlying t = some (.map kt et)) (hk : P.underlying kt = some .string)
    (hz : ZeroT P et z) (h : NmAt w mp nm) : OpOk P s (.lookup t x y true) ty w (.tuple #[((getN nm n).map encV).getD z, .bool (getN nm n).isSome]) w := by
  cases mp with
  | none =>
    rw [h.1 rfl]
    exact ok_lookupNil hx hy hm hk hz
  | some mb => exact ok_lookup hx hy hm hk hz (h.2 mb rfl)
theorem ok_lenM {x : Operand} {t kt et : TypeId} {mp : Option Nat} {nm : Nm} (hx : ev s x = some (.map mp)) (hm : P.underlying t = some (.map kt et)) (h : NmAt w mp nm) : OpOk P s (.call ⟨.builtin .len, #[x], #[t]⟩) ty w (.int .i64 nm.length) w := by
  cases mp with
  | none =>
    rw [h.1 rfl]
    exact ok_lenMapNil hx hm
  | some mb => exact ok_lenMap hx hm (h.2 mb rfl)
end
theorem StR.nm {A : Nat → Prop} {w : World} {stb : Nat} {nm : Nm} {hd : Bool → Value} {mp : Option Nat} {rs : Bool → List CRun} {g : Bool → Option Nat} (h : StR A w stb nm hd mp rs g) : NmAt w mp nm := ⟨h.mnil, fun mb hm => (h.mat mb hm).1⟩
theorem StR.at {A : Nat → Prop} {w : World} {stb : Nat} {nm : Nm} {hd : Bool → Value} {mp : Option Nat} {rs : Bool → List CRun} {g : Bool → Option Nat} (h : StR A w stb nm hd mp rs g) (copy : Bool) : ShAt w stb copy.toNat (hd copy) (rs copy) (g copy) :=
  ⟨by rw [h.own.cell]; cases copy <;> rfl, h.runs copy⟩
end Go.Sx
namespace Go.Proofs.Try
open Go.Sx Go.Pl

/-- Put, over the store. -/
theorem putStore {A : Nat → Prop} {stb : Nat} {nm : Nm} {Sh : Shs} (copy : Bool) (e : Slot) (w : World) (hS : StoreAt A w stb nm Sh) (hA : ∀ b, A b → b < w.heap.size) (he : OkSl e) (hi : Inv (Sh copy)) (hn : (Sh copy).length ≤ 1048576) :
    CallsV Try.prog 47 #[.pointer (some ⟨stb, copy.toNat, none⟩), .agg e.cells.toArray] w fun v w' => v = .tuple #[] ∧ StoreAt A w' stb nm (upd Sh copy (putL (Sh copy) e)) ∧ Kp (fun k => ¬ A k) w w' := by
  obtain ⟨hd, mp, rs, g, h1, h2⟩ := hS
  rw [← h2 copy] at hi hn
  refine (putW (rs copy) (hd copy) (g copy) stb copy.toNat 83 _ e w h1.own (by cases copy <;> rfl) (h1.runs copy) (h1.sb copy) he (hi.mono he.1 _) hi.ne (fun r hr => hi.le r.sl (by simp only [slots, List.mem_map]; exact ⟨r, hr, rfl⟩)) (by rw [slots_length] at hn; exact hn)).mono ?_
  rintro v w' ⟨rfl, hd', rs', g', q1, q2, q3, q4, q5⟩
  obtain ⟨r1, r2⟩ := h1.shelf hA copy q1 q2 q4 q5
  refine ⟨rfl, ⟨_, _, _, _, r1, fun b => ?_⟩, r2⟩
  by_cases hb : b = copy
  · subst hb; simp only [if_true, upd_same]; rw [q3, h2]
  · simp only [hb, if_false, upd_ne _ _ hb]; exact h2 b

/-- Take, over the store. -/
theorem takeStore {A : Nat → Prop} {stb : Nat} {nm : Nm} {Sh : Shs} (copy : Bool) (k : List UInt8) (n : ByteArray) (hk : k.length = 20) (w : World) (hS : StoreAt A w stb nm Sh) (hA : ∀ b, A b → b < w.heap.size) (hi : Inv (Sh copy)) (hm : (k, n.toList) ∈ prs (Sh copy)) (hn : (Sh copy).length ≤ 1048576) :
    CallsV Try.prog 60 #[.pointer (some ⟨stb, copy.toNat, none⟩), .agg (kc k).toArray, .string n] w fun v w' => StoreAt A w' stb nm (remS Sh n (k, copy)) ∧ Kp (fun k => ¬ A k) w w' := by
  obtain ⟨hd, mp, rs, g, h1, h2⟩ := hS
  have hr := (hi.take hk hm (r := (pl2 (Sh copy) k n).1) (i := (pl2 (Sh copy) k n).2) rfl).1
  have h2c := h2 copy
  rw [← h2c] at hi hn hr
  refine (takeW (rs copy) (hd copy) (g copy) stb copy.toNat 83 _ k n hk (pl2 (slots (rs copy)) k n).1 (pl2 (slots (rs copy)) k n).2 w h1.own (by cases copy <;> rfl) (h1.runs copy) (h1.sb copy) (hi.mono hk _) hi.ne (fun r hr => hi.le r.sl (by simp only [slots, List.mem_map]; exact ⟨r, hr, rfl⟩)) (by rw [slots_length] at hn; exact hn) rfl (by rw [slots_length] at hr; exact hr)).mono ?_
  rintro v w' ⟨hd', rs', g', q1, q2, q3, q4, q5⟩
  obtain ⟨r1, r2⟩ := h1.shelf hA copy q1 q2 q4 q5
  refine ⟨⟨_, _, _, _, r1, fun b => ?_⟩, r2⟩
  unfold remS
  by_cases hb : b = copy
  · subst hb; simp only [if_true, upd_same]; rw [q3, h2]
  · simp only [hb, if_false, upd_ne _ _ hb]; exact h2 b
end Go.Proofs.Try

