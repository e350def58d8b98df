/- The arguments opened: keys, items. -/
import Derived.Test.Qxb6605742aRows
import Derived.Test.Qxb6605742aDat
import Derived.WalkKit
import Derived.ProofKit
import Derived.Carry
import Derived.OpenShut
import Derived.Deep.Slices
set_option linter.unusedVariables false
set_option linter.unusedSimpArgs false
set_option maxRecDepth 100000
namespace Go.Sx
open Go.ChangeShapes Go.WideShapes Go.ChangeAt Go.RowKit Go.Deep

section
variable {H : Type} {enc : TypeId × Value → H} {P : Program} {w : World} {base : Nat} {spare : Nat → Bool} {held : Bool}

theorem choose_list {α : Type} {R : Nat → α → Prop} : ∀ (n : Nat), (∀ i, i < n → ∃ x, R i x) → ∃ l : List α, l.length = n ∧ ∀ i (hi : i < l.length), R i l[i]
  | 0, _ => ⟨[], rfl, fun i hi => by simp at hi⟩
  | n + 1, h => by
    obtain ⟨l, hl, hR⟩ := choose_list n (fun i hi => h i (by omega))
    obtain ⟨x, hx⟩ := h n (by omega)
    refine ⟨l ++ [x], by simp [hl], fun i hi => ?_⟩
    rw [List.getElem_append]
    split
    · exact hR i (by omega)
    · have : i = n := by simp at hi; omega
      subst this
      simpa using hx

/-- A slice opened: each element read by a reader of its own. -/
theorem slice_of {α : Type} (f : α → List Value) (good : α → Prop) {n : Nat} {t e : TypeId} {fuel : Nat} {cs : List Value} {x : DataW H × List MemPlace} (ht : P.underlying t = some (.slice e)) (hc : P.cellsOf e = n) (hn : 0 < n)
    (hdec : ∀ (m : Nat) (cs : List Value) (y : DataW H × List MemPlace), DataW.trod enc P w base spare held m e cs = some y → ∃ z : α, cs = f z ∧ good z) (hlen : ∀ z, good z → (f z).length = n)
    (h : DataW.trod enc P w base spare held fuel t cs = some x) :
    ∃ (a : Option Addr) (l : List α) (cap : Nat), cs = [.slice a l.length cap] ∧ (∀ z ∈ l, good z) ∧ (l ≠ [] → ∃ b off, a = some ⟨b, off, none⟩ ∧ Rd w b off (l.flatMap f)) := by
  rcases open_slice ht h with ⟨rfl, _⟩ | ⟨a, len, cap, m, k, D, Pl, rfl, _, hl, _, hm, _, hel⟩
  · exact ⟨none, [], 0, rfl, by simp, fun h => absurd rfl h⟩
  · have hle : len ≤ m := by rw [hm]; split <;> omega
    obtain ⟨l, hll, hR⟩ := choose_list (R := fun i (z : α) => w.cells? base (a.add (i * n)) n = some (f z) ∧ good z) len (fun i hi => by
      obtain ⟨cs', h1, h2⟩ := hel i (by omega)
      obtain ⟨z, rfl, hz⟩ := hdec _ _ _ h2
      rw [hc] at h1
      exact ⟨z, h1, hz⟩)
    subst hll
    refine ⟨some a, l, cap, rfl, fun z hz => ?_, fun hne => ?_⟩
    · obtain ⟨i, hi, rfl⟩ := List.mem_iff_getElem.1 hz
      exact (hR i hi).2
    · have hpos : 0 < l.length := List.length_pos_iff.2 hne
      have hg : ∀ z ∈ l, (f z).length = n := fun z hz => by
        obtain ⟨i, hi, rfl⟩ := List.mem_iff_getElem.1 hz
        exact hlen _ (hR i hi).2
      obtain ⟨b, off, spot⟩ := a
      have hs : spot = none := by
        obtain ⟨_, h1, h2⟩ := World.cells?_some (hR 0 hpos).1
        have h3 := h2 0 hn
        rw [List.getElem?_eq_getElem (by omega)] at h3
        simpa [Addr.add] using World.cell?_spot h3
      subst hs
      refine ⟨b, off, rfl, fun j v hv => ?_⟩
      have hj : j < l.length * n := by rw [← flatMap_length f n l hg]; exact lt_of_get hv
      have hk : j / n < l.length := Nat.div_lt_of_lt_mul (by rw [Nat.mul_comm]; exact hj)
      have hmod : j % n < n := Nat.mod_lt _ hn
      have hjj : j = j / n * n + j % n := by rw [Nat.mul_comm]; exact (Nat.div_add_mod j n).symm
      rw [hjj, flatMap_get f n l hg _ hk _ hmod] at hv
      obtain ⟨_, h1, h2⟩ := World.cells?_some (hR _ hk).1
      have h3 := h2 _ hmod
      rw [hv] at h3
      rw [hjj]
      rw [add_plain, add_plain, Nat.add_assoc] at h3
      exact h3
end
end Go.Sx
namespace Go.Proofs.Try
open Go.Sx Go.ChangeShapes Go.WideShapes Go.ChangeAt Go.RowKit Go.Deep

theorem own : ownKnob Try.prog.godebug = none := by kernel_rfl
theorem laidOut : laidOutB Try.prog = true := by kernel_rfl
theorem cells3 : Try.prog.cellsOf 3 = 1 := by kernel_rfl
theorem cells25 : Try.prog.cellsOf 25 = 1 := by kernel_rfl
theorem cells31 : Try.prog.cellsOf 31 = 4 := by kernel_rfl
theorem ints_cells (l : List Int) : l.flatMap (fun z => [Value.int .i64 z]) = ic l := by
  induction l with
  | nil => rfl
  | cons b l ih => rw [List.flatMap_cons, ih]; rfl

section
variable {H : Type} {enc : TypeId × Value → H} {w : World} {base : Nat} {spare : Nat → Bool} {held : Bool}

theorem intsv_of {fuel : Nat} {cs : List Value} {x : DataW H × List MemPlace} (h : DataW.trod enc Try.prog w base spare held fuel 25 cs = some x) : ∃ (a : Option Addr) (l : List Int) (cap : Nat), cs = [.slice a l.length cap] ∧ IntsAt w a l := by
  obtain ⟨a, l, cap, h1, h2, h3⟩ := slice_of (fun z : Int => [Value.int .i64 z]) (fun _ => True) (n := 1) Try.underlying25 cells3 (by decide) (fun m cs y hy => by
    obtain ⟨z, hz, _⟩ := DataW.trod_int Try.underlying3 hy
    exact ⟨z, hz, trivial⟩) (fun z _ => rfl) h
  refine ⟨a, l, cap, h1, fun hne => ?_⟩
  obtain ⟨b, off, e1, e2⟩ := h3 hne
  rw [ints_cells] at e2
  exact ⟨b, off, e1, e2⟩
theorem step_of (m : Nat) (cs : List Value) (y : DataW H × List MemPlace) (h : DataW.trod enc Try.prog w base spare held m 31 cs = some y) : ∃ s : Stp, cs = s.cells ∧ IntsAt w s.ca s.cl := by
  obtain ⟨xs, n, _, rfl, hl, hlen, hf⟩ := DataW.trod_struct Try.underlying31 h
  rw [cells31] at hl
  match xs, hlen with
  | [y0, y1, y2, y3], _ =>
    have h0 : DataW.trod enc Try.prog w base spare held n 3 ((cs.drop 0).take (Try.prog.cellsOf 3)) = some y0 := hf 0 _ rfl
    have h1 : DataW.trod enc Try.prog w base spare held n 3 ((cs.drop 1).take (Try.prog.cellsOf 3)) = some y1 := hf 1 _ rfl
    have h2 : DataW.trod enc Try.prog w base spare held n 3 ((cs.drop 2).take (Try.prog.cellsOf 3)) = some y2 := hf 2 _ rfl
    have h3 : DataW.trod enc Try.prog w base spare held n 25 ((cs.drop 3).take (Try.prog.cellsOf 25)) = some y3 := hf 3 _ rfl
    rw [cells3] at h0 h1 h2
    rw [cells25] at h3
    obtain ⟨k, hk, _⟩ := DataW.trod_int Try.underlying3 h0
    obtain ⟨p, hp, _⟩ := DataW.trod_int Try.underlying3 h1
    obtain ⟨d, hd, _⟩ := DataW.trod_int Try.underlying3 h2
    obtain ⟨ca, cl, cc, hc, hb⟩ := intsv_of h3
    refine ⟨⟨k, p, d, ca, cl, cc⟩, ?_, hb⟩
    match cs, hl with
    | [c0, c1, c2, c3], _ =>
      simp at hk hp hd hc
      subst hk; subst hp; subst hd; subst hc
      rfl
theorem steps_of {v : Value} {d : DataW H} {ps : List MemPlace} {r : Reach} {b0 : Nat} (hval : Value.okWide Try.prog w r b0 22 v) (h : DataW.Trod enc Try.prog w base spare held 22 v d ps) :
    ∃ (a : Option Addr) (l : List Stp) (cap : Nat), v = .slice a l.length cap ∧ StpsAt w a l := by
  obtain ⟨a0, len, cap0, rfl⟩ := okWide_slice Try.underlying22 hval
  obtain ⟨fuel, hf⟩ := h
  obtain ⟨a, l, cap, h1, h2, h3⟩ := slice_of Stp.cells (fun s => IntsAt w s.ca s.cl) Try.underlying22 cells31 (by decide) step_of (fun z _ => rfl) hf
  simp [Value.cells] at h1
  obtain ⟨rfl, rfl, rfl⟩ := h1
  exact ⟨a0, l, cap0, rfl, h3, h2⟩
end
end Go.Proofs.Try
