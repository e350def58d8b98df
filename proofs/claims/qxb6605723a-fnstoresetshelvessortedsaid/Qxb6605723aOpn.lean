/- The arguments opened: keys, items. -/
import Derived.Test.Qxb6605723aRows
import Derived.Test.Qxb6605723aDat
import Derived.WalkKit
import Derived.ProofKit
import Derived.Carry
import Derived.OpenShut
import Derived.Deep.Slices
set_option linter.unusedVariables false
set_option linter.unusedSimpArgs false
set_option maxRecDepth 100000
namespace Go.Sx
open Go.ChangeShapes Go.WideShapes Go.ChangeAt Go.RowKit Go.Deep

section
variable {H : Type} {enc : TypeId × Value → H} {P : Program} {w : World} {base : Nat} {spare : Nat → Bool} {held : Bool}

theorem byte_of {t : TypeId} {fuel : Nat} {v : Value} {x : DataW H × List MemPlace} (ht : P.underlying t = some (.int .u8)) (h : DataW.trod enc P w base spare held fuel t [v] = some x) : ∃ b : UInt8, v = .int .u8 b.toNat := by
  obtain ⟨n, h1, _, hw⟩ := DataW.trod_int ht h
  have hb := bounds_u8 hw
  simp only [List.cons.injEq, and_true] at h1
  refine ⟨UInt8.ofNat n.toNat, ?_⟩
  rw [h1]
  congr 1
  rw [UInt8.toNat_ofNat_of_lt' (by have : UInt8.size = 256 := rfl; omega)]
  omega

theorem kc_of : ∀ (cs : List Value), (∀ v ∈ cs, ∃ b : UInt8, v = .int .u8 b.toNat) → ∃ k : List UInt8, cs = kc k
  | [], _ => ⟨[], rfl⟩
  | v :: cs, h => by
    obtain ⟨b, rfl⟩ := h v (by simp)
    obtain ⟨k, rfl⟩ := kc_of cs (fun u hu => h u (List.mem_cons_of_mem _ hu))
    exact ⟨b :: k, rfl⟩

theorem key_of {t e : TypeId} {n fuel : Nat} {cs : List Value} {x : DataW H × List MemPlace} (ht : P.underlying t = some (.array n e)) (he : P.underlying e = some (.int .u8)) (hc : P.cellsOf e = 1) (hct : P.cellsOf t = n)
    (h : DataW.trod enc P w base spare held fuel t cs = some x) : ∃ k : List UInt8, cs = kc k ∧ k.length = n := by
  obtain ⟨xs, m, _, _, hl, hxs, hi⟩ := DataW.trod_array ht h
  rw [hct] at hl
  obtain ⟨k, rfl⟩ := kc_of cs (fun v hv => by
    obtain ⟨i, hi', rfl⟩ := List.mem_iff_getElem.1 hv
    have := hi i (by omega)
    rw [hc, Nat.mul_one, List.getElem?_eq_getElem (by omega), List.drop_eq_getElem_cons hi'] at this
    exact byte_of he this)
  exact ⟨k, rfl, by simpa using hl⟩

theorem choose_list {α : Type} {R : Nat → α → Prop} : ∀ (n : Nat), (∀ i, i < n → ∃ x, R i x) → ∃ l : List α, l.length = n ∧ ∀ i (hi : i < l.length), R i l[i]
  | 0, _ => ⟨[], rfl, fun i hi => by simp at hi⟩
  | n + 1, h => by
    obtain ⟨l, hl, hR⟩ := choose_list n (fun i hi => h i (by omega))
    obtain ⟨x, hx⟩ := h n (by omega)
    refine ⟨l ++ [x], by simp [hl], fun i hi => ?_⟩
    rw [List.getElem_append]
    split
    · exact hR i (by omega)
    · have : i = n := by simp at hi; omega
      subst this
      simpa using hx

/-- A slice opened: each element read by a reader of its own. -/
theorem slice_of {α : Type} (f : α → List Value) (good : α → Prop) {n : Nat} {t e : TypeId} {fuel : Nat} {cs : List Value} {x : DataW H × List MemPlace} (ht : P.underlying t = some (.slice e)) (hc : P.cellsOf e = n) (hn : 0 < n)
    (hdec : ∀ (m : Nat) (cs : List Value) (y : DataW H × List MemPlace), DataW.trod enc P w base spare held m e cs = some y → ∃ z : α, cs = f z ∧ good z) (hlen : ∀ z, good z → (f z).length = n)
    (h : DataW.trod enc P w base spare held fuel t cs = some x) :
    ∃ (a : Option Addr) (l : List α) (cap : Nat), cs = [.slice a l.length cap] ∧ (∀ z ∈ l, good z) ∧ (l ≠ [] → ∃ b off, a = some ⟨b, off, none⟩ ∧ Rd w b off (l.flatMap f)) := by
  rcases open_slice ht h with ⟨rfl, _⟩ | ⟨a, len, cap, m, k, D, Pl, rfl, _, hl, _, hm, _, hel⟩
  · exact ⟨none, [], 0, rfl, by simp, fun h => absurd rfl h⟩
  · have hle : len ≤ m := by rw [hm]; split <;> omega
    obtain ⟨l, hll, hR⟩ := choose_list (R := fun i (z : α) => w.cells? base (a.add (i * n)) n = some (f z) ∧ good z) len (fun i hi => by
      obtain ⟨cs', h1, h2⟩ := hel i (by omega)
      obtain ⟨z, rfl, hz⟩ := hdec _ _ _ h2
      rw [hc] at h1
      exact ⟨z, h1, hz⟩)
    subst hll
    refine ⟨some a, l, cap, rfl, fun z hz => ?_, fun hne => ?_⟩
    · obtain ⟨i, hi, rfl⟩ := List.mem_iff_getElem.1 hz
      exact (hR i hi).2
    · have hpos : 0 < l.length := List.length_pos_iff.2 hne
      have hg : ∀ z ∈ l, (f z).length = n := fun z hz => by
        obtain ⟨i, hi, rfl⟩ := List.mem_iff_getElem.1 hz
        exact hlen _ (hR i hi).2
      obtain ⟨b, off, spot⟩ := a
      have hs : spot = none := by
        obtain ⟨_, h1, h2⟩ := World.cells?_some (hR 0 hpos).1
        have h3 := h2 0 hn
        rw [List.getElem?_eq_getElem (by omega)] at h3
        simpa [Addr.add] using World.cell?_spot h3
      subst hs
      refine ⟨b, off, rfl, fun j v hv => ?_⟩
      have hj : j < l.length * n := by rw [← flatMap_length f n l hg]; exact lt_of_get hv
      have hk : j / n < l.length := Nat.div_lt_of_lt_mul (by rw [Nat.mul_comm]; exact hj)
      have hmod : j % n < n := Nat.mod_lt _ hn
      have hjj : j = j / n * n + j % n := by rw [Nat.mul_comm]; exact (Nat.div_add_mod j n).symm
      rw [hjj, flatMap_get f n l hg _ hk _ hmod] at hv
      obtain ⟨_, h1, h2⟩ := World.cells?_some (hR _ hk).1
      have h3 := h2 _ hmod
      rw [hv] at h3
      rw [hjj]
      rw [add_plain, add_plain, Nat.add_assoc] at h3
      exact h3
end
end Go.Sx
namespace Go.Proofs.Try
open Go.Sx Go.ChangeShapes Go.WideShapes Go.ChangeAt Go.RowKit Go.Deep

theorem own : ownKnob Try.prog.godebug = none := by kernel_rfl
theorem laidOut : laidOutB Try.prog = true := by kernel_rfl
theorem cells5 : Try.prog.cellsOf 5 = 1 := by kernel_rfl
theorem cells9 : Try.prog.cellsOf 9 = 1 := by kernel_rfl
theorem cells29 : Try.prog.cellsOf 29 = 20 := by kernel_rfl
theorem cells64 : Try.prog.cellsOf 64 = 21 := by kernel_rfl

section
variable {H : Type} {enc : TypeId × Value → H} {w : World} {base : Nat} {spare : Nat → Bool} {held : Bool}

theorem item_of (m : Nat) (cs : List Value) (y : DataW H × List MemPlace) (h : DataW.trod enc Try.prog w base spare held m 64 cs = some y) : ∃ z : Itm, cs = z.cells ∧ z.key.length = 20 := by
  obtain ⟨y0, y1, n, _, hl, h0, h1⟩ := trod_struct2 Try.underlying64 h
  rw [cells64] at hl
  simp only [cells29, cells9] at h0 h1
  obtain ⟨k, hk, hk2⟩ := key_of Try.underlying29 Try.underlying5 cells5 cells29 h0
  obtain ⟨s, hs, _⟩ := DataW.trod_string Try.underlying9 h1
  refine ⟨⟨k, s⟩, ?_, hk2⟩
  have e1 : cs.take 20 = kc k := by simpa using hk
  have e2 : cs.drop 20 = [.string s] := by
    rw [← hs, List.take_of_length_le (by simp; omega)]
  show cs = kc k ++ [.string s]
  rw [← List.take_append_drop 20 cs, e1, e2]

theorem items_of {v : Value} {d : DataW H} {ps : List MemPlace} {r : Reach} {b0 : Nat} (hval : Value.okWide Try.prog w r b0 57 v) (h : DataW.Trod enc Try.prog w base spare held 57 v d ps) :
    ∃ (a : Option Addr) (l : List Itm) (cap : Nat), v = .slice a l.length cap ∧ OkI l ∧ ItemsAt w a l := by
  obtain ⟨a0, len, cap0, rfl⟩ := okWide_slice Try.underlying57 hval
  obtain ⟨fuel, hf⟩ := h
  obtain ⟨a, l, cap, h1, h2, h3⟩ := slice_of Itm.cells (fun z => z.key.length = 20) Try.underlying57 cells64 (by decide) item_of (fun z hz => by simp [Itm.cells, hz]) hf
  simp [Value.cells] at h1
  obtain ⟨rfl, rfl, rfl⟩ := h1
  exact ⟨a0, l, cap0, rfl, h2, h3⟩

theorem key29_of {v : Value} {d : DataW H} {ps : List MemPlace} {r : Reach} {b0 : Nat} (hval : Value.okWide Try.prog w r b0 29 v) (h : DataW.Trod enc Try.prog w base spare held 29 v d ps) :
    ∃ k : List UInt8, v = .agg (kc k).toArray ∧ k.length = 20 := by
  unfold Value.okWide at hval
  rw [Try.underlying29] at hval
  obtain ⟨cs, rfl, _, _⟩ := hval
  obtain ⟨fuel, hf⟩ := h
  obtain ⟨k, hk, hk2⟩ := key_of Try.underlying29 Try.underlying5 cells5 cells29 hf
  simp only [Value.cells] at hk
  exact ⟨k, by rw [← hk], hk2⟩
end
end Go.Proofs.Try
