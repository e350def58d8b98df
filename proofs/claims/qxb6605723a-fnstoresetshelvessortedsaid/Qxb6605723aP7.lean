/- The statement: a shelf's insert splices in order. -/
import Derived.Test.Qxb6605723aF7
import Derived.Test.Qxb6605723aOpn
set_option linter.unusedVariables false
set_option maxRecDepth 100000
namespace Go.Proofs.Try
open Go.Sx Go.ChangeShapes Go.WideShapes Go.ChangeAt Go.RowKit Go.Deep

theorem bytes_cells (l : List UInt8) : l.flatMap (fun b => [Value.int .u8 b.toNat]) = kc l := by
  induction l with
  | nil => rfl
  | cons b l ih => rw [List.flatMap_cons, ih]; rfl

theorem bytes_of {H : Type} {enc : TypeId × Value → H} {w : World} {base : Nat} {spare : Nat → Bool} {held : Bool} {v : Value} {d : DataW H} {ps : List MemPlace} {r : Reach} {b0 : Nat} (hval : Value.okWide Try.prog w r b0 30 v) (h : DataW.Trod enc Try.prog w base spare held 30 v d ps) :
    ∃ (a : Option Addr) (l : List UInt8) (cap : Nat), v = .slice a l.length cap ∧ BytesAt w a l := by
  obtain ⟨a0, len, cap0, rfl⟩ := okWide_slice Try.underlying30 hval
  obtain ⟨fuel, hf⟩ := h
  obtain ⟨a, l, cap, h1, h2, h3⟩ := slice_of (fun b : UInt8 => [Value.int .u8 b.toNat]) (fun _ => True) (n := 1) Try.underlying30 cells5 (by decide) (fun m cs y hy => by
    obtain ⟨z, hz, _⟩ := DataW.trod_int Try.underlying5 hy
    subst hz
    obtain ⟨b, hb⟩ := byte_of Try.underlying5 hy
    exact ⟨b, by rw [hb], trivial⟩) (fun z _ => rfl) hf
  simp [Value.cells] at h1
  obtain ⟨rfl, rfl, rfl⟩ := h1
  refine ⟨a0, l, cap0, rfl, fun hne => ?_⟩
  obtain ⟨b, off, e1, e2⟩ := h3 hne
  rw [bytes_cells] at e2
  exact ⟨b, off, e1, e2⟩
end Go.Proofs.Try
namespace Go.Proofs.Qxb6605723a.P7
open Go.Sx Go.ChangeShapes Go.WideShapes Go.ChangeAt Go.RowKit

theorem lifted (os : Os) (started : os.Started) (H : Type) (enc : TypeId × Value → H) :
    ReturnsInHanded {} Try.checked os 7 .any (Rows.fnShelfInsertSplicesInOrderSpec.pre6 enc Try.prog Try.f7 Rows.fnShelfInsertSplicesInOrderRow.domain false) (Rows.fnShelfInsertSplicesInOrderSpec.post enc Try.prog Try.f7 false true false false) := by
  refine returnsInHanded_of_change (C := Try.checked) Go.Proofs.Try.own started (by kernel_rfl) Try.func7
    (ChangeSpec.witness6 (enc := enc) (C := Try.checked) false ⟨#[], #[.slice none 0 0, .agg #[.int .u8 0, .int .u8 0, .int .u8 0, .int .u8 0, .int .u8 0, .int .u8 0, .int .u8 0, .int .u8 0, .int .u8 0, .int .u8 0, .int .u8 0, .int .u8 0, .int .u8 0, .int .u8 0, .int .u8 0, .int .u8 0, .int .u8 0, .int .u8 0, .int .u8 0, .int .u8 0], .string ⟨#[]⟩, .slice none 0 0, .int .u64 0], []⟩ 8 (by kernel_rfl) (by kernel_rfl) (by kernel_rfl) (by kernel_rfl)) ?_
  intro W base args ds gs before hval0 hW hcnd _
  have hval : ∀ (j : Nat) t v, Try.f7.params[j]? = some t → args[j]? = some v → Value.okWide Try.prog W .any base t v := hval0
  have hW' := hW
  obtain ⟨p, q, hA0, hV, rfl, hfz, hnd⟩ := hW
  have hA : DataW.TrodAll enc Try.prog W 0 (fun _ => true) true Try.f7.params.toList args.toList ds p := hA0
  rw [Try.params7] at hA hval
  obtain ⟨v0, vs0, d0, ds0, p0, q0, hargs, rfl, rfl, h0, r0⟩ := trodAll_cons hA
  obtain ⟨v1, vs1, d1, ds1, p1, q1, rfl, rfl, rfl, h1, r1⟩ := trodAll_cons r0
  obtain ⟨v2, vs2, d2, ds2, p2, q2, rfl, rfl, rfl, h2, r2⟩ := trodAll_cons r1
  obtain ⟨v3, vs3, d3, ds3, p3, q3, rfl, rfl, rfl, h3, r3⟩ := trodAll_cons r2
  obtain ⟨v4, vs4, d4, ds4, p4, q4, rfl, rfl, rfl, h4, r4⟩ := trodAll_cons r3
  obtain ⟨rfl, rfl, rfl⟩ := trodAll_nil r4
  obtain rfl : args = #[v0, v1, v2, v3, v4] := by cases args; simp_all
  obtain ⟨rfl, rfl⟩ := trodVars_none hV
  obtain ⟨a, l, cap, rfl, hl, hI⟩ := Go.Proofs.Try.items_of (hval 0 57 v0 rfl rfl) h0
  obtain ⟨k, rfl, hk⟩ := Go.Proofs.Try.key29_of (hval 1 29 v1 rfl rfl) h1
  obtain ⟨n, rfl⟩ := okWide_string Try.underlying9 (hval 2 9 v2 rfl rfl)
  obtain ⟨va, vl, vcap, rfl, hVB⟩ := Go.Proofs.Try.bytes_of (hval 3 30 v3 rfl rfl) h3
  have h4k := h4
  obtain ⟨z, rfl, rfl, rfl, hz⟩ := open_int Try.underlying52 (hval 4 52 v4 rfl rfl) h4
  obtain ⟨t, rfl⟩ : ∃ t : Nat, z = (t : Nat) := ⟨z.toNat, by have := bounds_u64 hz; omega⟩
  clear hA0 hval0
  simp only [List.append_nil] at hW'
  have hlt : ∀ x ∈ p0 ++ (p1 ++ (p2 ++ p3)), x.block < W.heap.size := fun x hx => by simpa using hW'.lt x hx
  refine Calls.mono (Go.Proofs.Try.lawSplices l hl a cap k n hk vl va vcap t W hI hVB) (fun e W' he => ?_)
  obtain ⟨v, rfl, rfl, hE⟩ := he
  have hb := Kp.below hE
  exact ⟨_, rfl, _, _, _, [], _, [], hW', trodAll_mk1 (shut_bool Try.underlying4 _),
    trodAll_cons_mk (Below.trod Go.Proofs.Try.laidOut (by kernel_rfl) (of_decide_eq_true (by kernel_rfl)) h0 hb (fun x hx => hlt x (by simp [hx])))
      (trodAll_cons_mk (Below.trod Go.Proofs.Try.laidOut (by kernel_rfl) (of_decide_eq_true (by kernel_rfl)) h1 hb (fun x hx => hlt x (by simp [hx])))
      (trodAll_cons_mk (Below.trod Go.Proofs.Try.laidOut (by kernel_rfl) (of_decide_eq_true (by kernel_rfl)) h2 hb (fun x hx => hlt x (by simp [hx])))
      (trodAll_cons_mk (Below.trod Go.Proofs.Try.laidOut (by kernel_rfl) (of_decide_eq_true (by kernel_rfl)) h3 hb (fun x hx => hlt x (by simp [hx])))
      (trodAll_cons_mk (shut_int Try.underlying52 hz) trodAll_mk0)))),
    rfl, hb.frame _, fun h => by cases h⟩

theorem proved : Rows.FnShelfInsertSplicesInOrderSaid :=
  OpenClaim.holds_of_wide 7 Try.f7 rfl rfl rfl rfl rfl rfl rfl ⟨rfl, rfl, rfl, rfl, rfl⟩ rfl rfl rfl rfl rfl (by kernel_rfl) Try.func7 (by kernel_rfl)
    (of_decide_eq_true (by kernel_rfl)) (by unfold Func.isWrapper; first | (rw [if_pos (by decide +kernel)]; kernel_rfl) | (rw [if_neg (by decide +kernel)]; exact ⟨rfl, rfl⟩))
    (fun os started H enc _ => lifted os started H enc)
end Go.Proofs.Qxb6605723a.P7
