/- A row of sets opened. -/
import Derived.Test.Qxb6605723aF3
import Derived.Test.Qxb6605723aP7
set_option linter.unusedVariables false
set_option maxRecDepth 100000
namespace Go.Proofs.Try
open Go.Sx Go.ChangeShapes Go.WideShapes Go.ChangeAt Go.RowKit Go.Deep

theorem cells30 : Try.prog.cellsOf 30 = 1 := by kernel_rfl
theorem cells4 : Try.prog.cellsOf 4 = 1 := by kernel_rfl
theorem cells32 : Try.prog.cellsOf 32 = 23 := by kernel_rfl
section
variable {H : Type} {enc : TypeId × Value → H} {w : World} {base : Nat} {spare : Nat → Bool} {held : Bool}
theorem bytesv_of {fuel : Nat} {cs : List Value} {x : DataW H × List MemPlace} (h : DataW.trod enc Try.prog w base spare held fuel 30 cs = some x) : ∃ (a : Option Addr) (l : List UInt8) (cap : Nat), cs = [.slice a l.length cap] ∧ BytesAt w a l := by
  obtain ⟨a, l, cap, h1, h2, h3⟩ := slice_of (fun b : UInt8 => [Value.int .u8 b.toNat]) (fun _ => True) (n := 1) Try.underlying30 cells5 (by decide) (fun m cs y hy => by
    obtain ⟨z, hz, _⟩ := DataW.trod_int Try.underlying5 hy
    subst hz
    obtain ⟨b, hb⟩ := byte_of Try.underlying5 hy
    exact ⟨b, by rw [hb], trivial⟩) (fun z _ => rfl) h
  refine ⟨a, l, cap, h1, fun hne => ?_⟩
  obtain ⟨b, off, e1, e2⟩ := h3 hne
  rw [bytes_cells] at e2
  exact ⟨b, off, e1, e2⟩
theorem op_of (m : Nat) (cs : List Value) (y : DataW H × List MemPlace) (h : DataW.trod enc Try.prog w base spare held m 32 cs = some y) : ∃ o : OpR, cs = o.cells ∧ (o.key.length = 20 ∧ BytesAt w o.va o.vl) := by
  obtain ⟨xs, n, _, rfl, hl, hlen, hf⟩ := DataW.trod_struct Try.underlying32 h
  rw [cells32] at hl
  match xs, hlen with
  | [y0, y1, y2, y3], _ =>
    have h0 : DataW.trod enc Try.prog w base spare held n 29 ((cs.drop 0).take (Try.prog.cellsOf 29)) = some y0 := hf 0 _ rfl
    have h1 : DataW.trod enc Try.prog w base spare held n 9 ((cs.drop 20).take (Try.prog.cellsOf 9)) = some y1 := hf 1 _ rfl
    have h2 : DataW.trod enc Try.prog w base spare held n 30 ((cs.drop 21).take (Try.prog.cellsOf 30)) = some y2 := hf 2 _ rfl
    have h3 : DataW.trod enc Try.prog w base spare held n 4 ((cs.drop 22).take (Try.prog.cellsOf 4)) = some y3 := hf 3 _ rfl
    rw [cells29] at h0
    rw [cells9] at h1
    rw [cells30] at h2
    rw [cells4] at h3
    obtain ⟨k, hk, hk2⟩ := key_of Try.underlying29 Try.underlying5 cells5 cells29 h0
    obtain ⟨s, hs, _⟩ := DataW.trod_string Try.underlying9 h1
    obtain ⟨va, vl, vcap, hv, hb⟩ := bytesv_of h2
    obtain ⟨c, hc, _⟩ := DataW.trod_bool Try.underlying4 h3
    refine ⟨⟨k, s, va, vl, vcap, c⟩, ?_, hk2, hb⟩
    have e0 : cs.take 20 = kc k := by simpa using hk
    have e1 : (cs.drop 20).take 1 = [.string s] := hs
    have e2 : (cs.drop 21).take 1 = [.slice va vl.length vcap] := hv
    have e3 : (cs.drop 22).take 1 = [.bool c] := hc
    have f3 : cs.drop 22 = [.bool c] := by rw [← e3, List.take_of_length_le (by simp; omega)]
    have f2 : cs.drop 21 = .slice va vl.length vcap :: cs.drop 22 := by
      rw [← List.take_append_drop 1 (cs.drop 21), e2, List.drop_drop]; rfl
    have f1 : cs.drop 20 = .string s :: cs.drop 21 := by
      rw [← List.take_append_drop 1 (cs.drop 20), e1, List.drop_drop]; rfl
    show cs = kc k ++ [.string s, .slice va vl.length vcap, .bool c]
    rw [← List.take_append_drop 20 cs, e0, f1, f2, f3]
theorem ops_of {v : Value} {d : DataW H} {ps : List MemPlace} {r : Reach} {b0 : Nat} (hval : Value.okWide Try.prog w r b0 22 v) (h : DataW.Trod enc Try.prog w base spare held 22 v d ps) :
    ∃ (a : Option Addr) (l : List OpR) (cap : Nat), v = .slice a l.length cap ∧ OkO l ∧ OpsAt w a l := by
  obtain ⟨a0, len, cap0, rfl⟩ := okWide_slice Try.underlying22 hval
  obtain ⟨fuel, hf⟩ := h
  obtain ⟨a, l, cap, h1, h2, h3⟩ := slice_of OpR.cells (fun o => o.key.length = 20 ∧ BytesAt w o.va o.vl) Try.underlying22 cells32 (by decide) op_of (fun z hz => by simp [OpR.cells, hz.1]) hf
  simp [Value.cells] at h1
  obtain ⟨rfl, rfl, rfl⟩ := h1
  exact ⟨a0, l, cap0, rfl, fun o ho => (h2 o ho).1, h3, fun o ho => (h2 o ho).2⟩
end
end Go.Proofs.Try
